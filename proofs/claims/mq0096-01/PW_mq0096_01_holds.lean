import PyProof.Rows.All
import Wide.All
import OpenK.AllK
import Wide.FinOn
import PySem.Challenge.RW_mq0096_01
section
open PySem PySem.W PyProof.Rows
set_option Elab.async false
set_option maxRecDepth 100000
set_option maxHeartbeats 8000000
namespace Mine
open_top hd for PySem.Challenge.rw_mq0096_01
end Mine
end
section
open PySem PySem.W PyProof.Rows PySem.Calls PySem.Spec
set_option Elab.async false
set_option maxRecDepth 100000
set_option maxHeartbeats 8000000
set_option rowWalk.seconds 0
namespace Mine
theorem start_B0 : True := by w_top off; trivial

/-- every object of h stands as it was in h' -/
def Keep (h h' : Heap) : Prop := ∀ b o, h.get? b = some o → h'.get? b = some o
theorem Keep.rfl' {h : Heap} : Keep h h := fun _ _ e => e
theorem Keep.trans {h h' h'' : Heap} (a : Keep h h') (b : Keep h' h'') : Keep h h'' := fun x o e => b x o (a x o e)

/-- what the text's run leaves, as far as the calls need it -/
structure Std (w : World) (h : Heap) : Prop where
  k : (hd.heap_39 w.params).In h
  t : ∃ p loose mean mg mb, Top p loose mean mg mb h
theorem Std.keep {w : World} {h h' : Heap} (S : Std w h) (k : Keep h h') : Std w h' :=
  ⟨S.k.keeps k, let ⟨p, l, m, mg, mb, T⟩ := S.t; ⟨p, l, m, mg, mb, T.keeps k⟩⟩

abbrev ard (dp un : Nat) (fr : Option (List Env)) (gd : Option (List Code)) : Around := { handled := none, depth := dp, frames := fr, guards := gd, units := un }

/-- the end of a walked body -/
def Back (R : Result → Shared → Prop) (v : Value) (s : Shared) : Prop := R (.ok (.ret v)) s

theorem enter {w : World} {s : Shared} {dp un : Nat} {fr : Option (List Env)} {gd : Option (List Code)} {f : Addr} {args : List Value} {Q E : Value → Shared → Prop}
    {name qual : Str} {params : Arguments} {body : List Stmt} {scope : Scope} {dV kV doc pm cdv ct oc : Value} {an od : Option Addr} {osl : Array (Option Value)} {binds : List (Str × Value)} {p : Program} {loose : List Str} {mean : ExcName → Option Value} {mg mb : Str → Option Value}
    (X : (hd.heap_39 w.params).In s.heap) (T : Top p loose mean mg mb s.heap)
    (ho : (hd.heap_39 w.params).lookup f = some ⟨oc, od, .func (fnOf name qual params body scope dV kV doc pm an cdv ct), osl⟩) (hcd : codeIn (hd.heap_39 w.params) cdv qual = true) (hroom : dp < recursionLimit)
    (hbind : BindsTo s (fnOf name qual params body scope dV kV doc pm an cdv ct) ⟨args, []⟩ binds) (hloc : ∀ y ∈ binds, scope.names.lookup y.1 = some .local)
    (hcell : ∀ x ∈ scope.names, x.2 ≠ .cell) (hco : scope.isCoroutine = false) (hgen : scope.isGenerator = false) (hk : scope.kind = .function)
    (h : ∀ L h₁ tk, Fr s.heap L h₁ (fun y => binds.reverse.lookup y) → News s.heap L h₁ [] →
      wpAny (model Challenge.rw_mq0096_01.row.prog w) (ard (dp + 1) (un + 3) (fr.map (envOf qual scope L f cdv :: ·)) gd) (execs body (envOf qual scope L f cdv))
        (fun fl s' => Back (fun r s' => match r with | .ok (.ret v) => Q v s' | .ok _ => False | .error e => E e s') (match fl with | .ret v => v | _ => .none) s')
        (fun e s' => wpAny (model Challenge.rw_mq0096_01.row.prog w) (ard (dp + 1) (un + 3) (fr.map (envOf qual scope L f cdv :: ·)) gd) (leaving (envOf qual scope L f cdv) e) (fun _ s'' => E e s'') (fun e' s'' => E e' s'') s')
        { s with heap := h₁, toks := tk }) :
    wpAny (model Challenge.rw_mq0096_01.row.prog w) (ard dp un fr gd) (call (.ref f) args) Q E s := by
  refine wpAny_call ?_
  refine codeAny_call_def (fd := fnOf name qual params body scope dV kV doc pm an cdv ct) (body := body) (binds := binds) hroom (X _ _ ho) rfl T.nolimit (codeRec_of X hcd) rfl hbind hcell hloc (fun h₁ hns hk₁ => ?_) hco hgen hk
  exact wpAny_mono (h s.heap.objs.size h₁ _ ⟨hns, hk₁, Nat.le_refl _⟩ News.nil) (fun _ _ y => y) fun _ _ y => y

theorem fr_keep {h₀ h h' : Heap} {L : Addr} {m : Str → Option Value} (F : Fr h₀ L h m) (k : Keep h h') : Fr h₀ L h' m :=
  ⟨F.ns.keeps k, fun b o e => k b o (F.keep b o e), F.above⟩
theorem news_keep {h₀ h h' : Heap} {L : Addr} {news : List (Addr × Obj)} (N : News h₀ L h news) (k : Keep h h') : News h₀ L h' news :=
  fun p hp => ⟨k _ _ (N p hp).1, (N p hp).2⟩
/-- objects that a call has made go onto the ledger -/
theorem news_more {h₀ h h' : Heap} {L : Addr} {m : Str → Option Value} {news new : List (Addr × Obj)} (F : Fr h₀ L h m) (N : News h₀ L h news) (k : Keep h h')
    (hn : ∀ p ∈ new, h'.get? p.1 = some p.2 ∧ h.get? p.1 = none) : News h₀ L h' (new ++ news) := by
  intro p hp
  rcases List.mem_append.mp hp with hp | hp
  · refine ⟨(hn p hp).1, fun e => ?_, ?_⟩
    · obtain ⟨oL, _, _, hL, _⟩ := F.ns
      have := (hn p hp).2
      rw [e, hL] at this; cases this
    · cases q : h₀.get? p.1 with
      | none => rfl
      | some o => have := (hn p hp).2; rw [F.keep _ _ q] at this; cases this
  · exact news_keep N k p hp
theorem news_fresh {h₀ h : Heap} {L : Addr} {news : List (Addr × Obj)} (N : News h₀ L h news) : ∀ p ∈ news, h.get? p.1 = some p.2 ∧ h₀.get? p.1 = none := fun p hp => ⟨(N p hp).1, (N p hp).2.2⟩

local macro_rules | `(tactic| walk_at "mine enter") => `(tactic| (k_dflt (refine' enter ?k1 ?k2 ?k6 ?k7 ?k8 ?k9 ?kB ?c5 ?c2 ?c3 ?c4 ?_; (case k1 => k_asm); (case k2 => k_asm); (case k6 => k_is); (case k7 => k_is); (case k8 => omega); (case k9 => exact BindsTo.of_eq rfl); (case c5 => decide); (case kB => exact locs rfl); (case c2 => exact rfl); (case c3 => exact rfl); (case c4 => exact rfl); k_whole; intro L' h' tk F' N'; (try dsimp only); (try k_fold))))

theorem backF {s : Shared} {Q : Value → Shared → Prop} {x y : UInt64} {h' : Heap} {t : Tok} {tk' : Nat} (ret : ∀ t h' tk', Keep s.heap h' → Q (.float x t) { s with heap := h', toks := tk' }) (e : y = x) (k : Keep s.heap h') :
    Q (.float y t) { s with heap := h', toks := tk' } := e ▸ ret t h' tk' k

/-- what _v reckons -/
def vF (m1 m2 hue : UInt64) : UInt64 :=
  if (Float64.cmp (Float64.divmod hue 4607182418800017408).2 4595172819793696085 == some Ordering.lt) = true then
    Float64.add m1 (Float64.mul (Float64.mul (Float64.sub m2 m1) (Float64.divmod hue 4607182418800017408).2) 4618441417868443648)
  else if (Float64.cmp (Float64.divmod hue 4607182418800017408).2 4602678819172646912 == some Ordering.lt) = true then m2
  else if (Float64.cmp (Float64.divmod hue 4607182418800017408).2 4604180019048437077 == some Ordering.lt) = true then
    Float64.add m1 (Float64.mul (Float64.mul (Float64.sub m2 m1) (Float64.sub 4604180019048437077 (Float64.divmod hue 4607182418800017408).2)) 4618441417868443648)
  else m1

theorem v_spec (w : World) {s : Shared} {dp un : Nat} {fr : Option (List Env)} {gd : Option (List Code)} {Q E : Value → Shared → Prop} (S : Std w s.heap) (hdp : dp + 20 < recursionLimit) (hun : un + 200 < cLine)
    (m1 m2 hue : UInt64) (t1 t2 t3 : Tok)
    (ret : ∀ t h' tk', Keep s.heap h' → Q (.float (vF m1 m2 hue) t) { s with heap := h', toks := tk' }) :
    wpAny (model Challenge.rw_mq0096_01.row.prog w) (ard dp un fr gd) (call (.ref 28) [.float m1 t1, .float m2 t2, .float hue t3]) Q E s := by
  obtain ⟨X, p, loose, mean, mg, mb, T⟩ := S
  revert X
  k_fill
  intro X
  walk_at "mine enter"
  k_steps
  all_goals (repeat (first | k_unfold | (dsimp only)))
  all_goals (unfold Back; dsimp only; refine backF ret ?_ (Fr.keep (by assumption)); unfold vF; simp only [*, if_true, if_false, Bool.false_eq_true])
end Mine
end
section
open PySem PySem.W PyProof.Rows PySem.Calls PySem.Spec
set_option Elab.async false
set_option maxRecDepth 100000
set_option maxHeartbeats 8000000
set_option linter.unusedVariables false
set_option rowWalk.seconds 0
namespace Mine
theorem start_B1 : True := by w_top off; trivial
theorem std_of {w : World} {h₀ h : Heap} {L : Addr} {m : Str → Option Value} {p : Program} {loose : List Str} {mean : ExcName → Option Value} {mg mb : Str → Option Value}
    (X : (hd.heap_39 w.params).In h₀) (T : Top p loose mean mg mb h₀) (F : Fr h₀ L h m) : Std w h := ⟨X.keeps F.keep, p, loose, mean, mg, mb, T.keeps F.keep⟩
local macro_rules | `(tactic| walk_at "mine enter") => `(tactic| (k_dflt (refine' enter ?k1 ?k2 ?k6 ?k7 ?k8 ?k9 ?kB ?c5 ?c2 ?c3 ?c4 ?_; (case k1 => k_asm); (case k2 => k_asm); (case k6 => k_is); (case k7 => k_is); (case k8 => omega); (case k9 => exact BindsTo.of_eq rfl); (case c5 => decide); (case kB => exact locs rfl); (case c2 => exact rfl); (case c3 => exact rfl); (case c4 => exact rfl); k_whole; intro L' h' tk F' N'; (try dsimp only); (try k_fold))))
local macro_rules | `(tactic| walk_at "call ref") => `(tactic| ((with_reducible show wpAny _ _ (call (Value.ref 28) _) _ _ _); k_dflt (refine' v_spec _ ?k1 ?k2 ?k3 _ _ _ _ _ _ ?_; (case k1 => exact std_of (by k_asm) (by k_asm) (by k_asm)); (case k2 => omega); (case k3 => omega)); intro t9 h9 tk9 kp9; (have F9 := fr_keep (by with_reducible assumption) kp9); (have N9 := news_keep (by with_reducible assumption) kp9); (try dsimp only); (try k_fold)))

def hlsM2 (l s : UInt64) : UInt64 := if (Float64.cmp l 4602678819172646912 == some Ordering.lt || Float64.cmp l 4602678819172646912 == some Ordering.eq) = true then Float64.mul l (Float64.add 4607182418800017408 s) else Float64.sub (Float64.add l s) (Float64.mul l s)
def hlsM1 (l s : UInt64) : UInt64 := Float64.sub (Float64.mul 4611686018427387904 l) (hlsM2 l s)
def hlsC (h l s o : UInt64) : UInt64 := vF (hlsM1 l s) (hlsM2 l s) o
/-- what hls_to_rgb reckons -/
def hlsF (h l s : UInt64) : UInt64 × UInt64 × UInt64 :=
  if (Float64.cmp s 0 == some Ordering.eq) = true then (l, l, l)
  else (vF (hlsM1 l s) (hlsM2 l s) (Float64.add h 4599676419421066581), vF (hlsM1 l s) (hlsM2 l s) h, vF (hlsM1 l s) (hlsM2 l s) (Float64.sub h 4599676419421066581))

theorem backT {s : Shared} {Q : Value → Shared → Prop} {x : UInt64 × UInt64 × UInt64} {x1 x2 x3 : UInt64} {a : Addr} {h' : Heap} {L : Addr} {m : Str → Option Value} {u1 u2 u3 : Tok} {tk' : Nat} {news : List (Addr × Obj)}
    (ret : ∀ a u1 u2 u3 h' tk', Keep s.heap h' → s.heap.get? a = none → h'.get? a = some { cls := .type "tuple", data := .seq #[.float x.1 u1, .float x.2.1 u2, .float x.2.2 u3] } → Q (.ref a) { s with heap := h', toks := tk' })
    (F : Fr s.heap L h' m) (N : News s.heap L h' ((a, { cls := .type "tuple", data := .seq #[.float x1 u1, .float x2 u2, .float x3 u3] }) :: news)) (e : x = (x1, x2, x3)) :
    Q (.ref a) { s with heap := h', toks := tk' } := by
  subst e
  exact ret a u1 u2 u3 h' tk' F.keep (N _ (.head _)).2.2 (N _ (.head _)).1

theorem hls_spec (w : World) {s : Shared} {dp un : Nat} {fr : Option (List Env)} {gd : Option (List Code)} {Q E : Value → Shared → Prop} (S : Std w s.heap) (hdp : dp + 30 < recursionLimit) (hun : un + 300 < cLine)
    (h l sa : UInt64) (t1 t2 t3 : Tok)
    (ret : ∀ a u1 u2 u3 h' tk', Keep s.heap h' → s.heap.get? a = none → h'.get? a = some { cls := .type "tuple", data := .seq #[.float (hlsF h l sa).1 u1, .float (hlsF h l sa).2.1 u2, .float (hlsF h l sa).2.2 u3] } → Q (.ref a) { s with heap := h', toks := tk' }) :
    wpAny (model Challenge.rw_mq0096_01.row.prog w) (ard dp un fr gd) (call (.ref 21) [.float h t1, .float l t2, .float sa t3]) Q E s := by
  obtain ⟨X, p, loose, mean, mg, mb, T⟩ := S
  revert X
  k_fill
  intro X
  walk_at "mine enter"
  k_steps
  all_goals (repeat (first | k_unfold | (dsimp only) | (dsimp only [qk])))
  all_goals (unfold Back; dsimp only; refine backT ret (by assumption) (by assumption) ?_; unfold hlsF; (try unfold hlsM1); (try unfold hlsM2); simp only [*, if_true, if_false, Bool.false_eq_true])
end Mine
end
section
open PySem PySem.W PyProof.Rows PySem.Calls PySem.Spec
set_option Elab.async false
set_option maxRecDepth 100000
set_option maxHeartbeats 8000000
set_option linter.unusedVariables false
set_option rowWalk.seconds 0
namespace Mine
theorem start_B2 : True := by w_top off; trivial
local macro_rules | `(tactic| walk_at "mine enter") => `(tactic| (k_dflt (refine' enter ?k1 ?k2 ?k6 ?k7 ?k8 ?k9 ?kB ?c5 ?c2 ?c3 ?c4 ?_; (case k1 => k_asm); (case k2 => k_asm); (case k6 => k_is); (case k7 => k_is); (case k8 => omega); (case k9 => exact BindsTo.of_eq rfl); (case c5 => decide); (case kB => exact locs rfl); (case c2 => exact rfl); (case c3 => exact rfl); (case c4 => exact rfl); k_whole; intro L' h' tk F' N'; (try dsimp only); (try k_fold))))
def hsvI (h : UInt64) : Int := Flt.toInt Float64.truncOf (Float64.mul h 4618441417868443648)
def hsvFr (h : UInt64) : UInt64 := Float64.sub (Float64.mul h 4618441417868443648) (Float64.ofInt (hsvI h))
def hsvP (s v : UInt64) : UInt64 := Float64.mul v (Float64.sub 4607182418800017408 s)
def hsvQ (s v f : UInt64) : UInt64 := Float64.mul v (Float64.sub 4607182418800017408 (Float64.mul s f))
def hsvT (s v f : UInt64) : UInt64 := Float64.mul v (Float64.sub 4607182418800017408 (Float64.mul s (Float64.sub 4607182418800017408 f)))
/-- what hsv_to_rgb reckons -/
def hsvF (h s v : UInt64) : UInt64 × UInt64 × UInt64 :=
  if (Float64.cmp s 0 == some Ordering.eq) = true then (v, v, v)
  else if (hsvI h).fmod 6 = 0 then (v, hsvT s v (hsvFr h), hsvP s v)
  else if (hsvI h).fmod 6 = 1 then (hsvQ s v (hsvFr h), v, hsvP s v)
  else if (hsvI h).fmod 6 = 2 then (hsvP s v, v, hsvT s v (hsvFr h))
  else if (hsvI h).fmod 6 = 3 then (hsvP s v, hsvQ s v (hsvFr h), v)
  else if (hsvI h).fmod 6 = 4 then (hsvT s v (hsvFr h), hsvP s v, v)
  else (v, hsvP s v, hsvQ s v (hsvFr h))
theorem fmod6 {i : Int} (h0 : i.fmod 6 ≠ 0) (h1 : i.fmod 6 ≠ 1) (h2 : i.fmod 6 ≠ 2) (h3 : i.fmod 6 ≠ 3) (h4 : i.fmod 6 ≠ 4) (h5 : i.fmod 6 ≠ 5) : False := by
  have a := Int.fmod_nonneg_of_pos i (show (0 : Int) < 6 by decide)
  have b := Int.fmod_lt_of_pos i (show (0 : Int) < 6 by decide)
  omega

theorem hsv_spec (w : World) {s : Shared} {dp un : Nat} {fr : Option (List Env)} {gd : Option (List Code)} {Q E : Value → Shared → Prop} (S : Std w s.heap) (hdp : dp + 30 < recursionLimit) (hun : un + 300 < cLine)
    (h sa v : UInt64) (t1 t2 t3 : Tok) (hf : Float64.isFinite (Float64.mul h 4618441417868443648) = true)
    (hb : (Flt.toInt Float64.truncOf (Float64.mul h 4618441417868443648)).natAbs < 2 ^ 1024 - 2 ^ 970)
    (ret : ∀ a u1 u2 u3 h' tk', Keep s.heap h' → s.heap.get? a = none → h'.get? a = some { cls := .type "tuple", data := .seq #[.float (hsvF h sa v).1 u1, .float (hsvF h sa v).2.1 u2, .float (hsvF h sa v).2.2 u3] } → Q (.ref a) { s with heap := h', toks := tk' }) :
    wpAny (model Challenge.rw_mq0096_01.row.prog w) (ard dp un fr gd) (call (.ref 35) [.float h t1, .float sa t2, .float v t3]) Q E s := by
  obtain ⟨X, p, loose, mean, mg, mb, T⟩ := S
  revert X
  k_fill
  intro X
  walk_at "mine enter"
  k_steps
  all_goals (repeat (first | k_unfold | (dsimp only) | (dsimp only [qk])))
  all_goals first
    | (unfold Back; dsimp only; refine backT ret (by assumption) (by assumption) ?_; unfold hsvF hsvP hsvQ hsvT hsvFr hsvI; first | (simp only [*, if_true, if_false, Bool.false_eq_true]; done) | (simp only [*, if_true, if_false, Bool.false_eq_true, Int.reduceEq, reduceIte]; done) | (simp [*]; done))
    | (exfalso; exact fmod6 (by assumption) (by assumption) (by assumption) (by assumption) (by assumption) (by assumption))
    | (exfalso; exact absurd hb (by assumption))
end Mine
end
section
open PySem PySem.W PyProof.Rows PySem.Calls PySem.Spec
set_option Elab.async false
set_option maxRecDepth 100000
set_option maxHeartbeats 8000000
set_option linter.unusedVariables false
set_option rowWalk.seconds 0
namespace Mine
theorem start_B3 : True := by w_top off; trivial
local macro_rules | `(tactic| walk_at "mine enter") => `(tactic| (k_dflt (refine' enter ?k1 ?k2 ?k6 ?k7 ?k8 ?k9 ?kB ?c5 ?c2 ?c3 ?c4 ?_; (case k1 => k_asm); (case k2 => k_asm); (case k6 => k_is); (case k7 => k_is); (case k8 => omega); (case k9 => exact BindsTo.of_eq rfl); (case c5 => decide); (case kB => exact locs rfl); (case c2 => exact rfl); (case c3 => exact rfl); (case c4 => exact rfl); k_whole; intro L' h' tk F' N'; (try dsimp only); (try k_fold))))
open PyProof.Rows.LCg in
/-- a comprehension over a tuple of the base -/
theorem lc_tuple {prog : Program} {w : World} {A : Around} {E : Value → Shared → Prop} {s : Shared} {h₀ : Heap} {L : Addr} {m : Str → Option Value} {env : Env} {elt iter : Expr} {x : Str} {px : Pos} {scope : Scope} {cl : List (Str × Addr)} {pos : Pos} {Q : Value → Shared → Prop}
    (_F₀ : Fr h₀ L s.heap m) (hclos : closureFor scope env = pure cl) (hcell : ∀ y ∈ scope.names, y.2 ≠ .cell) (hkind : scope.kind = .function)
    (hnames : ∀ y ∈ scope.names, y.2 = .local → scope.names.lookup y.1 = some .local) (hx : scope.names.lookup x = some .local)
    (h : wpAny (model prog w) A (eval iter env) (fun xv s₁ => ∃ ax its news, xv = .ref ax ∧ A.handled = none ∧ Fr h₀ L s₁.heap m ∧ News h₀ L s₁.heap news ∧ h₀.IsTuple ax its ∧ its.size ≤ sizeLine ∧
      ∀ g, CompRest prog w A h₀ L m env elt x scope cl { s₁ with heap := g } (fun _ => True) (fun i v => its[i]? = some v) (FinE h₀ L m { s₁ with heap := g } Q) its.size 0 [] news) E s)
    (hs : ∀ x, foldedSetIterable iter env x = pure x := by intro _; rfl) :
    wpAny (model prog w) A (eval (.ListComp elt [⟨.Name x px, iter, [], 0⟩] scope pos) env) Q E s := by
  rw [eval_ListComp]
  refine wpAny_comprehension_free (use := none) rfl hs hclos hkind hnames (wpAny_mono h (fun xv s₁ h₁ => ?_) fun _ _ e => e)
  obtain ⟨ax, its, news, rfl, hh, F, N, hT, hsz, R⟩ := h₁
  have hl : s₁.heap.IsTuple ax its := hT.at fun o e => F.keep _ _ e
  have hlt : ax < s₁.heap.objs.size := by obtain ⟨_, e, _⟩ := hl; exact Heap.lt_size e
  refine wpAny_pyIter_tuple hl ?_
  have up : ∀ b o, s₁.heap.get? b = some o → (s₁.heap.push { cls := .type "tuple_iterator", data := .fields #[.ref ax, .int 0 0] }).get? b = some o := fun b o e => Heap.get?_push_of_some _ e
  refine block_U (Walks.tuple hh s₁.heap.objs.size ax (Nat.ne_of_lt hlt) its) hsz (fun i h st => by obtain ⟨o, e, _⟩ := st.1; exact ⟨o, e⟩)
    (fun i h h' o nw st e e' k N' _ => ⟨by obtain ⟨o', q, r⟩ := st.1; rw [e] at q; cases q; exact ⟨o, e', r⟩, hT.at fun o e => k _ _ e⟩)
    hcell hkind hx ⟨⟨_, Heap.get?_push_size _ rfl, rfl, rfl⟩, hl.at fun o e => up _ _ e⟩ (fun b hb => ?_)
    (F.keeps up) (N.grown up) (Nat.ne_of_lt F.ns.lt) (next_is_new F) (fun p hp => Nat.ne_of_lt (Heap.lt_size (N p hp).1)) trivial (R _) ?_
  · show b < (s₁.heap.push _).objs.size
    rw [Heap.size_push]
    rcases List.mem_cons.mp hb with rfl | hb
    · exact Nat.lt_succ_self _
    · rw [List.mem_singleton.mp hb]; exact Nat.lt_succ_of_lt hlt
  · intro D C h tk m' ys news' F' N' o1 hn hC₀ hD₀ hCL hDL hCD offC fin
    refine ⟨m', hn, fun h'' hs'' => fin D h'' tk (F'.change hs'' hCL hC₀) (fun p hp => ?_) o1⟩
    refine ⟨hs''.extBut _ _ ?_ (N' p hp).1, (N' p hp).2⟩
    rcases List.mem_cons.mp hp with rfl | hp
    · exact Ne.symm hCD
    · exact offC p hp

def readF (x : UInt64) : UInt64 := Float64.add (Float64.mul x (Float64.ofInt 1048576)) 4602678819172646912
def readI (x : UInt64) : Int := Flt.toInt Float64.truncOf (readF x)
theorem backL3 {s : Shared} {Q : Value → Shared → Prop} {x y z : Int} {D L : Addr} {h' : Heap} {m : Str → Option Value} {u1 u2 u3 : Tok} {tk' : Nat} {news : List (Addr × Obj)} {k : Nat}
    (ret : ∀ a n t1 t2 t3 h' tk', Keep s.heap h' → s.heap.get? a = none → h'.get? a = some (listOf #[.int x t1, .int y t2, .int z t3] n) → Q (.ref a) { s with heap := h', toks := tk' })
    (F : Fr s.heap L h' m) (N : News s.heap L h' ((D, { cls := .type "list", data := .seq #[.int x u1, .int y u2, .int z u3] k }) :: news)) : Q (.ref D) { s with heap := h', toks := tk' } :=
  ret D k u1 u2 u3 h' tk' F.keep (N _ (.head _)).2.2 (N _ (.head _)).1

theorem read_spec (w : World) {s : Shared} {dp un : Nat} {fr : Option (List Env)} {gd : Option (List Code)} {Q E : Value → Shared → Prop} (S : Std w s.heap) (hdp : dp + 30 < recursionLimit) (hun : un + 300 < cLine)
    (a : Addr) (x y z : UInt64) (u1 u2 u3 : Tok) (ha : s.heap.IsTuple a #[.float x u1, .float y u2, .float z u3])
    (hx : Float64.isFinite (readF x) = true) (hy : Float64.isFinite (readF y) = true) (hz : Float64.isFinite (readF z) = true)
    (ret : ∀ a n t1 t2 t3 h' tk', Keep s.heap h' → s.heap.get? a = none → h'.get? a = some (listOf #[.int (readI x) t1, .int (readI y) t2, .int (readI z) t3] n) → Q (.ref a) { s with heap := h', toks := tk' }) :
    wpAny (model Challenge.rw_mq0096_01.row.prog w) (ard dp un fr gd) (call (.ref 59) [.ref a]) Q E s := by
  obtain ⟨X, p, loose, mean, mg, mb, T⟩ := S
  unfold readF at hx hy hz
  revert X
  k_fill
  intro X
  walk_at "mine enter"
  walk1; walk1
  k_dflt (refine lc_tuple (by k_asm) (by rfl) (by decide) (by rfl) (by decide) (by rfl) ?_)
  walk1
  refine ⟨_, _, _, rfl, rfl, by k_asm, by k_asm, ha, by first | size_fits | exact Nat.le_of_ble_eq_true rfl, ?_⟩
  intro g'
  k_steps
  all_goals (repeat (first | k_unfold | (dsimp only) | (dsimp only [qk])))
  all_goals (unfold Back; dsimp only)
  refine backL3 ret (by assumption) (by assumption)
end Mine
end
section
open PySem PySem.W PyProof.Rows PySem.Calls PySem.Spec
set_option Elab.async false
set_option maxRecDepth 100000
set_option maxHeartbeats 8000000
set_option linter.unusedVariables false
set_option rowWalk.seconds 0
namespace Mine
theorem start_B4 : True := by w_top off; trivial
local macro_rules | `(tactic| walk_at "mine enter") => `(tactic| (k_dflt (refine' enter ?k1 ?k2 ?k6 ?k7 ?k8 ?k9 ?kB ?c5 ?c2 ?c3 ?c4 ?_; (case k1 => k_asm); (case k2 => k_asm); (case k6 => k_is); (case k7 => k_is); (case k8 => omega); (case k9 => exact BindsTo.of_eq rfl); (case c5 => decide); (case kB => exact locs rfl); (case c2 => exact rfl); (case c3 => exact rfl); (case c4 => exact rfl); k_whole; intro L' h' tk F' N'; (try dsimp only); (try k_fold))))
local macro_rules | `(tactic| walk_at "call ref") => `(tactic| ((with_reducible show wpAny _ _ (call (Value.ref 21) _) _ _ _); k_dflt (refine' hls_spec _ ?k1 ?k2 ?k3 _ _ _ _ _ _ ?_; (case k1 => exact std_of (by k_asm) (by k_asm) (by k_asm)); (case k2 => omega); (case k3 => omega)); intro a9 u1 u2 u3 h9 tk9 kp9 fr9 ob9; (have F9 := fr_keep (by with_reducible assumption) kp9); (have N9 := news_keep (by with_reducible assumption) kp9); (try dsimp only); (try k_fold)))
theorem isTup_of {h : Heap} {a : Addr} {its : Array Value} {k : Nat} (e : h.get? a = some { cls := .type "tuple", data := .seq its k }) : h.IsTuple a its := ⟨_, e, rfl, _, rfl⟩
local macro_rules | `(tactic| walk_at "call ref") => `(tactic| ((with_reducible show wpAny _ _ (call (Value.ref 59) _) _ _ _); k_dflt (refine' read_spec _ ?k1 ?k2 ?k3 _ _ _ _ _ _ _ ?ka ?kx ?ky ?kz ?_; (case k1 => exact std_of (by k_asm) (by k_asm) (by k_asm)); (case k2 => omega); (case k3 => omega); (case ka => exact isTup_of (by assumption)); (case kx => assumption); (case ky => assumption); (case kz => assumption)); intro a9 n9 u1 u2 u3 h9 tk9 kp9 fr9 ob9; (have F9 := fr_keep (by with_reducible assumption) kp9); (have N9 := news_more (new := [(a9, _)]) (by k_asm) (by k_asm) kp9 (List.forall_mem_cons.mpr ⟨⟨ob9, fr9⟩, List.forall_mem_nil _⟩)); (try dsimp only); (try k_fold)))
theorem base_list {h₀ h : Heap} {L l : Addr} {m : Str → Option Value} {its : Array Value} (F : Fr h₀ L h m) (hl : h₀.IsList l its) : h.IsList l its := hl.at fun o e => F.keep _ _ e
local macro_rules | `(tactic| kun_lst) => `(tactic| (refine' base_list ?f1 ?f2; (case f1 => k_asm); (case f2 => k_asm)))
open PySem.Float64 in
theorem notInf_frac {s : Bool} {n d : Nat} (hd : 0 < d) (hn : n < 2 ^ 60) : ¬ Float64.isInf (Float64.ofFrac s n d) = true := by
  have hlt : roundMag n d < infMag := by
    have hle : roundMag n d ≤ infMag := by rw [roundMag_min]; omega
    rcases Nat.lt_or_ge (roundMag n d) infMag with h | h
    · exact h
    · have h1 := (roundMag_over (n := n) hd).mp (Nat.le_antisymm hle h)
      exfalso
      have h2 : 1 * ((2 ^ 54 - 1) * 2 ^ 2045) ≤ d * ((2 ^ 54 - 1) * 2 ^ 2045) := Nat.mul_le_mul_right _ hd
      have h3 : 2 * (n * 2 ^ 1074) < 2 * (2 ^ 60 * 2 ^ 1074) := by
        have : n * 2 ^ 1074 < 2 ^ 60 * 2 ^ 1074 := Nat.mul_lt_mul_of_pos_right hn (Nat.two_pow_pos _)
        omega
      have h4 : 2 * (2 ^ 60 * 2 ^ 1074) ≤ 1 * ((2 ^ 54 - 1) * 2 ^ 2045) := by decide +kernel
      omega
  obtain ⟨m, e, hdec, _⟩ := decode_pack s hlt
  unfold isInf ofFrac
  rw [hdec]
  simp

/-- the ints' quotient -/
def fracF (a b : Int) : UInt64 := Float64.ofFrac (decide (a < 0) != decide (b < 0)) a.natAbs b.natAbs
def bothI (n m step base : Int) : Int := 2 * base + (2 * m + n) * step
def minI (a b : Int) : Int := if b < a then b else a
def maxI (a b : Int) : Int := if b > a then b else a
def hueF (turns n p : Int) : UInt64 := Float64.add (Float64.ofInt turns) (fracF p (maxI 1 (6 * n)))
def lightF (n m step base : Int) : UInt64 := fracF (bothI n m step base) 2097152
def shareF (n m step base : Int) : UInt64 := fracF (n * step) (maxI 1 (minI (bothI n m step base) (2097152 - bothI n m step base)))
def hlsOf (turns n m p step base : Int) : UInt64 × UInt64 × UInt64 := hlsF (hueF turns n p) (lightF n m step base) (shareF n m step base)
theorem prod_bounds {n m step : Int} (hn0 : 0 ≤ n) (hn : n ≤ 3) (hm0 : 0 ≤ m) (hm : m ≤ 3) (hs0 : 1 ≤ step) (hs : step ≤ 131072) : 0 ≤ n * step ∧ n * step ≤ 393216 ∧ 0 ≤ (2 * m + n) * step ∧ (2 * m + n) * step ≤ 1179648 := by
  refine ⟨Int.mul_nonneg hn0 (by omega), ?_, Int.mul_nonneg (by omega) (by omega), ?_⟩
  · have := Int.mul_le_mul hn hs (by omega) (by omega); omega
  · have := Int.mul_le_mul (show 2 * m + n ≤ 9 by omega) hs (by omega) (by omega); omega

theorem byhls_spec (w : World) {s : Shared} {dp un : Nat} {fr : Option (List Env)} {gd : Option (List Code)} {Q E : Value → Shared → Prop} (S : Std w s.heap) (hdp : dp + 40 < recursionLimit) (hun : un + 400 < cLine)
    (a : Addr) (n m p turns step base : Int) (t1 t2 t3 t4 t5 t6 : Tok) (ha : s.heap.IsList a #[.int n t1, .int m t2, .int p t3])
    (hn0 : 0 ≤ n) (hn : n ≤ 3) (hm0 : 0 ≤ m) (hm : m ≤ 3) (hp0 : 0 ≤ p) (hp : p < 18) (hs0 : 1 ≤ step) (hs : step ≤ 131072) (hb0 : 0 ≤ base) (hb : base < 524288) (hu0 : -3 ≤ turns) (hu : turns ≤ 3)
    (hf1 : Float64.isFinite (readF (hlsOf turns n m p step base).1) = true) (hf2 : Float64.isFinite (readF (hlsOf turns n m p step base).2.1) = true) (hf3 : Float64.isFinite (readF (hlsOf turns n m p step base).2.2) = true)
    (ret : ∀ a k t1 t2 t3 h' tk', Keep s.heap h' → s.heap.get? a = none → h'.get? a = some (listOf #[.int (readI (hlsOf turns n m p step base).1) t1, .int (readI (hlsOf turns n m p step base).2.1) t2, .int (readI (hlsOf turns n m p step base).2.2) t3] k) → Q (.ref a) { s with heap := h', toks := tk' }) :
    wpAny (model Challenge.rw_mq0096_01.row.prog w) (ard dp un fr gd) (call (.ref 66) [.ref a, .int turns t4, .int step t5, .int base t6]) Q E s := by
  obtain ⟨X, pp, loose, mean, mg, mb, T⟩ := S
  obtain ⟨hb1, hb2, hb3, hb4⟩ := prod_bounds hn0 hn hm0 hm hs0 hs
  unfold hlsOf hueF lightF shareF bothI minI maxI fracF at hf1 hf2 hf3
  revert X
  k_fill
  intro X
  walk_at "mine enter"
  k_steps
  all_goals (repeat (first | k_unfold | (dsimp only) | (dsimp only [qk])))
  all_goals first
    | (exfalso; refine notInf_frac ?_ ?_ (by assumption) <;> omega)
    | (unfold Back; dsimp only; refine backL3 ret (by assumption) (by assumption))


def mostI (n m step base : Int) : Int := base + (m + n) * step
def satF (n m step base : Int) : UInt64 := fracF (n * step) (maxI 1 (mostI n m step base))
def valF (n m step base : Int) : UInt64 := fracF (mostI n m step base) 1048576
def hsvOf (turns n m p step base : Int) : UInt64 × UInt64 × UInt64 := hsvF (hueF turns n p) (satF n m step base) (valF n m step base)
theorem prod_bounds2 {n m step : Int} (hn0 : 0 ≤ n) (hn : n ≤ 3) (hm0 : 0 ≤ m) (hm : m ≤ 3) (hs0 : 1 ≤ step) (hs : step ≤ 131072) : 0 ≤ (m + n) * step ∧ (m + n) * step ≤ 786432 := by
  refine ⟨Int.mul_nonneg (by omega) (by omega), ?_⟩
  have := Int.mul_le_mul (show m + n ≤ 6 by omega) hs (by omega) (by omega); omega
local macro_rules | `(tactic| walk_at "call ref") => `(tactic| ((with_reducible show wpAny _ _ (call (Value.ref 35) _) _ _ _); k_dflt (refine' hsv_spec _ ?k1 ?k2 ?k3 _ _ _ _ _ _ ?kx ?ky ?_; (case k1 => exact std_of (by k_asm) (by k_asm) (by k_asm)); (case k2 => omega); (case k3 => omega); (case kx => assumption); (case ky => assumption)); intro a9 u1 u2 u3 h9 tk9 kp9 fr9 ob9; (have F9 := fr_keep (by with_reducible assumption) kp9); (have N9 := news_keep (by with_reducible assumption) kp9); (try dsimp only); (try k_fold)))
theorem byhsv_spec (w : World) {s : Shared} {dp un : Nat} {fr : Option (List Env)} {gd : Option (List Code)} {Q E : Value → Shared → Prop} (S : Std w s.heap) (hdp : dp + 40 < recursionLimit) (hun : un + 400 < cLine)
    (a : Addr) (n m p turns step base : Int) (t1 t2 t3 t4 t5 t6 : Tok) (ha : s.heap.IsList a #[.int n t1, .int m t2, .int p t3])
    (hn0 : 0 ≤ n) (hn : n ≤ 3) (hm0 : 0 ≤ m) (hm : m ≤ 3) (hp0 : 0 ≤ p) (hp : p < 18) (hs0 : 1 ≤ step) (hs : step ≤ 131072) (hb0 : 0 ≤ base) (hb : base < 524288) (hu0 : -3 ≤ turns) (hu : turns ≤ 3)
    (hg1 : Float64.isFinite (Float64.mul (hueF turns n p) 4618441417868443648) = true) (hg2 : (Flt.toInt Float64.truncOf (Float64.mul (hueF turns n p) 4618441417868443648)).natAbs < 2 ^ 1024 - 2 ^ 970)
    (hf1 : Float64.isFinite (readF (hsvOf turns n m p step base).1) = true) (hf2 : Float64.isFinite (readF (hsvOf turns n m p step base).2.1) = true) (hf3 : Float64.isFinite (readF (hsvOf turns n m p step base).2.2) = true)
    (ret : ∀ a k t1 t2 t3 h' tk', Keep s.heap h' → s.heap.get? a = none → h'.get? a = some (listOf #[.int (readI (hsvOf turns n m p step base).1) t1, .int (readI (hsvOf turns n m p step base).2.1) t2, .int (readI (hsvOf turns n m p step base).2.2) t3] k) → Q (.ref a) { s with heap := h', toks := tk' }) :
    wpAny (model Challenge.rw_mq0096_01.row.prog w) (ard dp un fr gd) (call (.ref 73) [.ref a, .int turns t4, .int step t5, .int base t6]) Q E s := by
  obtain ⟨X, pp, loose, mean, mg, mb, T⟩ := S
  obtain ⟨hb1, hb2, hb3, hb4⟩ := prod_bounds hn0 hn hm0 hm hs0 hs
  obtain ⟨hc1, hc2⟩ := prod_bounds2 hn0 hn hm0 hm hs0 hs
  unfold hsvOf hueF satF valF mostI maxI fracF at hf1 hf2 hf3
  unfold hueF maxI fracF at hg1 hg2
  revert X
  k_fill
  intro X
  walk_at "mine enter"
  k_steps
  all_goals (repeat (first | k_unfold | (dsimp only) | (dsimp only [qk])))
  all_goals first
    | (exfalso; refine notInf_frac ?_ ?_ (by assumption) <;> omega)
    | (unfold Back; dsimp only; refine backL3 ret (by assumption) (by assumption))
end Mine
end
section
open PySem PySem.W PyProof.Rows PySem.Calls PySem.Spec
set_option Elab.async false
set_option maxRecDepth 100000
set_option maxHeartbeats 8000000
set_option linter.unusedVariables false
set_option rowWalk.seconds 0
namespace Mine
theorem start_L0 : True := by w_top off; trivial

section
variable {prog : Program} {w : World} {A : Around} {E : Value → Shared → Prop} {s : Shared} {env : Env} {h₀ : Heap} {x : Str} {body : List Stmt} {Q : Flow → Shared → Prop}
/-- the end of a loop's turn: the iterator (I, oI) stands as it stood -/
def TEnd (h₀ : Heap) (L I : Addr) (oI : Obj) (J : (Str → Option Value) → List (Addr × Obj) → Prop) (s₁ s₂ : Shared) : Prop :=
  ∃ h' tk m' news', s₂ = { s₁ with heap := h', toks := tk } ∧ Fr h₀ L h' m' ∧ News h₀ L h' ((I, oI) :: news') ∧ (∀ p ∈ news', p.1 ≠ I) ∧ J m' news'
def TPost (h₀ : Heap) (L I : Addr) (oI : Obj) (J : (Str → Option Value) → List (Addr × Obj) → Prop) (s₁ : Shared) (Q : Flow → Shared → Prop) (f : Flow) (s₂ : Shared) : Prop :=
  match f with
  | .ret v => Q (.ret v) s₂
  | .brk => Q .next s₂
  | _ => TEnd h₀ L I oI J s₁ s₂
theorem TEnd.intro {L I : Addr} {oI : Obj} {J : (Str → Option Value) → List (Addr × Obj) → Prop} {s₁ : Shared} {h' : Heap} {tk : Nat} {m' : Str → Option Value} (news' : List (Addr × Obj)) (F : Fr h₀ L h' m') (N : News h₀ L h' ((I, oI) :: news')) (ha : ∀ p ∈ news', p.1 ≠ I) (hj : J m' news') :
    TEnd h₀ L I oI J s₁ { s₁ with heap := h', toks := tk } := ⟨h', tk, m', news', rfl, F, N, ha, hj⟩

theorem loop_of {it : Addr} {n : Nat} {P : Nat → Value → Prop} {St : Nat → Heap → Prop} {fp : List Addr} {m₀ : Str → Option Value} {news : List (Addr × Obj)} {s₂ : Shared} (J : Nat → (Str → Option Value) → List (Addr × Obj) → Prop)
    (W : Walks prog w A it fp [it] n P St) (hIo : ∀ i h, St i h → ∃ o, h.get? it = some o) (hLf : env.locals ∉ fp) (h₀i : h₀.get? it = none) (off : ∀ p ∈ news, p.1 ≠ it) (hst : St 0 s₂.heap)
    (hfp : ∀ b ∈ fp, b ≠ it → (∃ o, h₀.get? b = some o) ∨ ∃ o, ∀ i m₁ news₁, J i m₁ news₁ → (b, o) ∈ news₁) (F : Fr h₀ env.locals s₂.heap m₀) (N : News h₀ env.locals s₂.heap news) (hj : J 0 m₀ news)
    (turn : ∀ i v m₁ news₁ h tk I oI, i < n → P i v → J i m₁ news₁ → (∀ p ∈ news₁, p.1 ≠ I) → Fr h₀ env.locals h (fun y => if y = x then some v else m₁ y) → News h₀ env.locals h ((I, oI) :: news₁) →
      wpAny (model prog w) A (execs body env) (TPost h₀ env.locals I oI (J (i + 1)) { s₂ with heap := h, toks := tk } Q) E { s₂ with heap := h, toks := tk })
    (done : ∀ m₁ news₁ h tk, J n m₁ news₁ → Fr h₀ env.locals h m₁ → News h₀ env.locals h news₁ → Q .next { s₂ with heap := h, toks := tk }) :
    LoopAtV prog w A h₀ env x body Q E (.ref it) s₂ := by
  refine ⟨it, fp, [it], n, P, St, m₀, news, J, rfl, W, hLf, ?_, ?_, hst, F, N, hj, ?_, ?_⟩
  · intro b hb; rw [List.mem_singleton.mp hb]; exact h₀i
  · intro p hp hb; exact off p hp (List.mem_singleton.mp hb)
  · rintro i v m₁ news₁ s₁ own ⟨h, tk, rfl⟩ hi hP hJ hoff hown hownh hall hst' F₁ N₁
    obtain ⟨oI, hoI⟩ := hIo _ _ hst'
    have hIf : it ∈ fp := W.sub it (List.mem_singleton.mpr rfl)
    have hmem : (it, oI) ∈ own := hall it hIf h₀i oI hoI
    have N₂ : News h₀ env.locals h ((it, oI) :: news₁) := by
      intro p hp
      rcases List.mem_cons.mp hp with rfl | hp
      · exact N₁ _ (List.mem_append_left _ hmem)
      · exact N₁ _ (List.mem_append_right _ hp)
    have honly : ∀ p ∈ own, p = (it, oI) ∨ ∀ i m₁ news₁, J i m₁ news₁ → p ∈ news₁ := by
      intro p hp
      have hb := hown p hp
      by_cases hpi : p.1 = it
      · have h1 := hownh p hp
        rw [hpi] at h1
        have h1' : h.get? it = some p.2 := h1
        rw [show h.get? it = some oI from hoI] at h1'
        exact .inl (Prod.ext hpi (Option.some.inj h1').symm)
      · rcases hfp _ hb hpi with ⟨o, ho⟩ | ⟨o, ho⟩
        · have := (N₁ p (List.mem_append_left _ hp)).2.2
          rw [ho] at this; cases this
        · right
          have h1 : h.get? p.1 = some o := (N₁ _ (List.mem_append_right _ (ho _ _ _ hJ))).1
          have h2 : h.get? p.1 = some p.2 := hownh p hp
          rw [h1] at h2
          have e : p = (p.1, o) := Prod.ext rfl (Option.some.inj h2).symm
          rw [e]; exact ho
    have hoff' : ∀ p ∈ news₁, p.1 ≠ it := fun p hp e => hoff p hp (List.mem_singleton.mpr e)
    refine wpAny_mono (turn i v m₁ news₁ h tk it oI hi hP hJ hoff' F₁ N₂) (fun f s₃ q => ?_) fun _ _ e => e
    have fin : TEnd h₀ env.locals it oI (J (i + 1)) { s₂ with heap := h, toks := tk } s₃ → LoopStepU h₀ env.locals [it] own (J (i + 1)) { s₂ with heap := h, toks := tk } .next s₃ := by
      rintro ⟨h', tk', m', news', e, F', N', ha, hj'⟩
      refine ⟨rfl, h', tk', m', news', e, F', ?_, fun p hp hb => ha p hp (List.mem_singleton.mp hb), hj'⟩
      intro p hp
      rcases List.mem_append.mp hp with hp | hp
      · rcases honly p hp with e | e
        · rw [e]; exact N' _ (.head _)
        · exact N' _ (.tail _ (e _ _ _ hj'))
      · exact N' _ (.tail _ hp)
    cases f with
    | ret v => exact .ret q
    | brk => exact .brk q
    | next => exact .next (fin q)
    | cont => exact .cont (fin q)
  · intro h' tk m' news' F' N' _ hJ
    exact done m' news' h' tk hJ F' N'

/-- for x in range(b), by an invariant over the turn's number, the frame and the ledger -/
theorem loop_range {r : Addr} {b : Int} {t u v : Tok} {m₀ : Str → Option Value} {news : List (Addr × Obj)} (n : Nat) (J : Nat → (Str → Option Value) → List (Addr × Obj) → Prop) (F : Fr h₀ env.locals s.heap m₀) (N : News h₀ env.locals s.heap news)
    (hr : IsRange s.heap r 0 b 1 t u v) (hb : b = (n : Int)) (hlt : n < 2 ^ 62) (hh : A.handled = none) (hj : J 0 m₀ news)
    (turn : ∀ i t m₁ news₁ h tk I oI, i < n → J i m₁ news₁ → (∀ p ∈ news₁, p.1 ≠ I) → Fr h₀ env.locals h (fun y => if y = x then some (.int (i : Int) t) else m₁ y) → News h₀ env.locals h ((I, oI) :: news₁) →
      wpAny (model prog w) A (execs body env) (TPost h₀ env.locals I oI (J (i + 1)) { s with heap := h, toks := tk } Q) E { s with heap := h, toks := tk })
    (done : ∀ m₁ news₁ h tk, J n m₁ news₁ → Fr h₀ env.locals h m₁ → News h₀ env.locals h news₁ → Q .next { s with heap := h, toks := tk }) :
    wpAny (model prog w) A (pyIter (.ref r)) (fun it s₂ => LoopAtV prog w A h₀ env x body Q E it s₂) E s := by
  subst hb
  have hsm : Builtin.Range.small 0 (n : Int) 1 = true := by
    have hsz : Builtin.Range.rangeSize 0 (n : Int) 1 = ((n : Nat) : Int) := by rw [rangeSize_nat]; simp
    simp [Builtin.Range.small, Builtin.Range.rangeFitsLong, hsz]
    omega
  have hsz : Builtin.Range.rangeSize 0 (n : Int) 1 = ((n : Nat) : Int) := by rw [rangeSize_nat]; simp
  refine wpAny_pyIter_range hr hsm ?_
  have hlt' : env.locals < s.heap.objs.size := F.ns.lt
  refine loop_of (n := n) J (Walks.range hh s.heap.objs.size 0 1 n) (fun i h st => ⟨_, st⟩) (fun hm => by rw [List.mem_singleton.mp hm] at hlt'; exact absurd hlt' (Nat.lt_irrefl _)) (next_is_new F)
    (fun p hp => Nat.ne_of_lt (Heap.lt_size (N p hp).1)) ?_ (fun b hb hne => absurd (List.mem_singleton.mp hb) hne) (F.push _) (fun p hp => ⟨Heap.get?_push_of_some _ (N p hp).1, (N p hp).2⟩) hj ?_ ?_
  · show IsRangeIter _ _ _ _ _
    rw [hsz]
    simpa using Heap.get?_push_size _ rfl
  · rintro i v m₁ news₁ h tk I oI hi ⟨t, rfl⟩ hJ hoff F₁ N₁
    have e : (0 + (i : Int) * 1) = (i : Int) := by omega
    rw [e] at F₁
    exact turn i t m₁ news₁ h tk I oI hi hJ hoff F₁ N₁
  · intro m₁ news₁ h tk hJ F₁ N₁
    exact done m₁ news₁ h tk hJ F₁ N₁

/-- for x in l, l a list of the base or of the ledger -/
theorem loop_list {l : Addr} {its : Array Value} {m₀ : Str → Option Value} {news : List (Addr × Obj)} (J : Nat → (Str → Option Value) → List (Addr × Obj) → Prop) (F : Fr h₀ env.locals s.heap m₀) (N : News h₀ env.locals s.heap news)
    (hl : h₀.IsList l its ∨ ∃ k, (l, listOf its k) ∈ news ∧ ∀ i m₁ news₁, J i m₁ news₁ → (l, listOf its k) ∈ news₁) (hh : A.handled = none) (hj : J 0 m₀ news)
    (turn : ∀ i v m₁ news₁ h tk I oI, i < its.size → its[i]? = some v → J i m₁ news₁ → (∀ p ∈ news₁, p.1 ≠ I) → Fr h₀ env.locals h (fun y => if y = x then some v else m₁ y) → News h₀ env.locals h ((I, oI) :: news₁) →
      wpAny (model prog w) A (execs body env) (TPost h₀ env.locals I oI (J (i + 1)) { s with heap := h, toks := tk } Q) E { s with heap := h, toks := tk })
    (done : ∀ m₁ news₁ h tk, J its.size m₁ news₁ → Fr h₀ env.locals h m₁ → News h₀ env.locals h news₁ → Q .next { s with heap := h, toks := tk }) :
    wpAny (model prog w) A (pyIter (.ref l)) (fun it s₂ => LoopAtV prog w A h₀ env x body Q E it s₂) E s := by
  have hls : s.heap.IsList l its := by
    rcases hl with hl | ⟨k, hm, _⟩
    · exact hl.at fun o e => F.keep _ _ e
    · exact ⟨_, (N _ hm).1, rfl, _, rfl⟩
  have hlt : l < s.heap.objs.size := by obtain ⟨_, e, _⟩ := hls; exact Heap.lt_size e
  have hlL : l ≠ env.locals := by
    rcases hl with ⟨o, ho, _⟩ | ⟨k, hm, _⟩
    · exact Nat.ne_of_lt (Nat.lt_of_lt_of_le (Heap.lt_size ho) F.above)
    · exact (N _ hm).2.1
  refine wpAny_pyIter_list hls ?_
  have hLlt : env.locals < s.heap.objs.size := F.ns.lt
  have up : ∀ b o, s.heap.get? b = some o → (s.heap.push { cls := .type "list_iterator", data := .fields #[.ref l, .int 0 0] }).get? b = some o := fun b o e => Heap.get?_push_of_some _ e
  refine loop_of (n := its.size) J (Walks.list hh s.heap.objs.size l (Nat.ne_of_lt hlt) its) (fun i h st => by obtain ⟨o, e, _⟩ := st.1; exact ⟨o, e⟩) (fun hm => ?_) (next_is_new F)
    (fun p hp => Nat.ne_of_lt (Heap.lt_size (N p hp).1)) ⟨⟨_, Heap.get?_push_size _ rfl, rfl, rfl⟩, hls.at fun o e => up _ _ e⟩ (fun b hb hne => ?_) (F.push _) (fun p hp => ⟨Heap.get?_push_of_some _ (N p hp).1, (N p hp).2⟩) hj ?_ ?_
  · rcases List.mem_cons.mp hm with e | hm
    · exact absurd hLlt (e ▸ Nat.lt_irrefl _)
    · exact hlL (List.mem_singleton.mp hm).symm
  · rcases List.mem_cons.mp hb with e | hb
    · exact absurd e hne
    · rw [List.mem_singleton.mp hb]
      rcases hl with ⟨o, ho, _⟩ | ⟨k, _, h2⟩
      · exact .inl ⟨o, ho⟩
      · exact .inr ⟨_, h2⟩
  · intro i v m₁ news₁ h tk I oI hi hP hJ hoff F₁ N₁
    exact turn i v m₁ news₁ h tk I oI hi hP hJ hoff F₁ N₁
  · intro m₁ news₁ h tk hJ F₁ N₁
    exact done m₁ news₁ h tk hJ F₁ N₁

/-- the frame's names but those of xs are as m₀ has them -/
def mask (xs : List Str) (u m₀ : Str → Option Value) : Str → Option Value := fun y => if y ∈ xs then u y else m₀ y
theorem mask_of {xs : List Str} {f m₀ : Str → Option Value} (h : ∀ y, y ∉ xs → f y = m₀ y) : f = mask xs f m₀ := by
  funext y
  unfold mask
  by_cases e : y ∈ xs
  · rw [if_pos e]
  · rw [if_neg e, h y e]

abbrev ad1 (news : List (Addr × Obj)) : Addr := (news.headD (0, default)).1
theorem off1 {x : Str} {v : Option Value} {u m₀ : Str → Option Value} : ∀ y, y ∉ [x] → (if y = x then v else mask [x] u m₀ y) = m₀ y := by
  intro y hy
  have h1 : y ≠ x := fun e => hy (by rw [e]; exact .head _)
  rw [if_neg h1]
  unfold mask
  rw [if_neg hy]
theorem loop_rangeM {r : Addr} {b : Int} {t u v : Tok} {m₀ : Str → Option Value} {news : List (Addr × Obj)} (xs : List Str) (n : Nat) (J : List (Addr × Obj) → Nat → List (Addr × Obj) → Prop) (F : Fr h₀ env.locals s.heap m₀) (N : News h₀ env.locals s.heap news)
    (hr : IsRange s.heap r 0 b 1 t u v) (hb : b = (n : Int)) (hlt : n < 2 ^ 62) (hh : A.handled = none) (hj : J news 0 news)
    (turn : ∀ i t u news₁ h tk I oI, i < n → J news i news₁ → (∀ p ∈ news₁, p.1 ≠ I) → Fr h₀ env.locals h (fun y => if y = x then some (.int (i : Int) t) else mask xs u m₀ y) → News h₀ env.locals h ((I, oI) :: news₁) →
      wpAny (model prog w) A (execs body env) (TPost h₀ env.locals I oI (fun m' news' => (∀ y, y ∉ xs → m' y = m₀ y) ∧ J news (i + 1) news') { s with heap := h, toks := tk } Q) E { s with heap := h, toks := tk })
    (done : ∀ u news₁ h tk, J news n news₁ → Fr h₀ env.locals h (mask xs u m₀) → News h₀ env.locals h news₁ → Q .next { s with heap := h, toks := tk }) :
    wpAny (model prog w) A (pyIter (.ref r)) (fun it s₂ => LoopAtV prog w A h₀ env x body Q E it s₂) E s := by
  refine loop_range n (fun i m' news' => (∀ y, y ∉ xs → m' y = m₀ y) ∧ J news i news') F N hr hb hlt hh ⟨fun _ _ => rfl, hj⟩ ?_ ?_
  · rintro i t m₁ news₁ h tk I oI hi ⟨hm, hJ⟩ hoff F₁ N₁
    rw [mask_of hm] at F₁
    exact turn i t m₁ news₁ h tk I oI hi hJ hoff F₁ N₁
  · rintro m₁ news₁ h tk ⟨hm, hJ⟩ F₁ N₁
    rw [mask_of hm] at F₁
    exact done m₁ news₁ h tk hJ F₁ N₁
theorem loop_listM {l : Addr} {its : Array Value} {m₀ : Str → Option Value} {news : List (Addr × Obj)} (xs : List Str) (J : List (Addr × Obj) → Nat → List (Addr × Obj) → Prop) (F : Fr h₀ env.locals s.heap m₀) (N : News h₀ env.locals s.heap news)
    (hl : h₀.IsList l its ∨ ∃ k, (l, listOf its k) ∈ news ∧ ∀ i news₁, J news i news₁ → (l, listOf its k) ∈ news₁) (hh : A.handled = none) (hj : J news 0 news)
    (turn : ∀ i v u news₁ h tk I oI, i < its.size → its[i]? = some v → J news i news₁ → (∀ p ∈ news₁, p.1 ≠ I) → Fr h₀ env.locals h (fun y => if y = x then some v else mask xs u m₀ y) → News h₀ env.locals h ((I, oI) :: news₁) →
      wpAny (model prog w) A (execs body env) (TPost h₀ env.locals I oI (fun m' news' => (∀ y, y ∉ xs → m' y = m₀ y) ∧ J news (i + 1) news') { s with heap := h, toks := tk } Q) E { s with heap := h, toks := tk })
    (done : ∀ u news₁ h tk, J news its.size news₁ → Fr h₀ env.locals h (mask xs u m₀) → News h₀ env.locals h news₁ → Q .next { s with heap := h, toks := tk }) :
    wpAny (model prog w) A (pyIter (.ref l)) (fun it s₂ => LoopAtV prog w A h₀ env x body Q E it s₂) E s := by
  refine loop_list (its := its) (fun i m' news' => (∀ y, y ∉ xs → m' y = m₀ y) ∧ J news i news') F N ?_ hh ⟨fun _ _ => rfl, hj⟩ ?_ ?_
  · rcases hl with hl | ⟨k, h1, h2⟩
    · exact .inl hl
    · exact .inr ⟨k, h1, fun i _ news₁ hJ => h2 i news₁ hJ.2⟩
  · rintro i v m₁ news₁ h tk I oI hi hv ⟨hm, hJ⟩ hoff F₁ N₁
    rw [mask_of hm] at F₁
    exact turn i v m₁ news₁ h tk I oI hi hv hJ hoff F₁ N₁
  · rintro m₁ news₁ h tk ⟨hm, hJ⟩ F₁ N₁
    rw [mask_of hm] at F₁
    exact done m₁ news₁ h tk hJ F₁ N₁
end
end Mine
end
section
open PySem PySem.W PyProof.Rows PySem.Calls PySem.Spec
set_option Elab.async false
set_option maxRecDepth 100000
set_option maxHeartbeats 8000000
set_option linter.unusedVariables false
set_option rowWalk.seconds 0
namespace Mine
theorem start_L1 : True := by w_top off; trivial
local macro_rules | `(tactic| walk_at "mine enter") => `(tactic| (k_dflt (refine' enter ?k1 ?k2 ?k6 ?k7 ?k8 ?k9 ?kB ?c5 ?c2 ?c3 ?c4 ?_; (case k1 => k_asm); (case k2 => k_asm); (case k6 => k_is); (case k7 => k_is); (case k8 => omega); (case k9 => exact BindsTo.of_eq rfl); (case c5 => decide); (case kB => exact locs rfl); (case c2 => exact rfl); (case c3 => exact rfl); (case c4 => exact rfl); k_whole; intro L' h' tk F' N'; (try dsimp only); (try k_fold))))
local macro_rules | `(tactic| walk_at "mine steps") => `(tactic| repeat' ((fail_if_success (with_reducible show wpAny _ _ (pyIter _) _ _ _)); (first | (k_unfold; (try dsimp only)) | (k_end; wrow_close) | walk1 | (dsimp only; walk1))))
theorem draws_spec (w : World) {s : Shared} {dp un : Nat} {fr : Option (List Env)} {gd : Option (List Code)} {Q E : Value → Shared → Prop} (S : Std w s.heap) (hdp : dp + 40 < recursionLimit) (hun : un + 400 < cLine)
    (l : Addr) (vs : List Value) (ns : List Int) (hl : s.heap.IsList l vs.toArray) (hi : IntsAre vs ns) (hlen : ns.length ≤ 63)
    (ret : ∀ a k d e f u t1 t2 t3 t4 h' tk', Keep s.heap h' → s.heap.get? a = none → h'.get? a = some (listOf #[.int d t1, .int e t2, .int f t3, .int u t4] k) → Q (.ref a) { s with heap := h', toks := tk' }) :
    wpAny (model Challenge.rw_mq0096_01.row.prog w) (ard dp un fr gd) (call (.ref 49) [.ref l]) Q E s := by
  obtain ⟨X, pp, loose, mean, mg, mb, T⟩ := S
  revert X
  k_fill
  intro X
  walk_at "mine enter"
  walk_at "mine steps"
  refine loop_rangeM [Str.ofString "i"] (if (ns.length : Int) < 63 then (ns.length : Int) else 63).toNat (fun n0 _ news => ∃ k d e f u t1 t2 t3 t4, news = [(ad1 n0, listOf #[.int d t1, .int e t2, .int f t3, .int u t4] k)]) (by assumption) (by assumption) (by assumption) (by split <;> omega) (by split <;> omega) rfl ⟨_, _, _, _, _, _, _, _, _, rfl⟩ ?turn ?done
  case done =>
    rintro u news₁ h tk ⟨k, d, e, f, u', t1, t2, t3, t4, rfl⟩ F1 N1
    dsimp only [ad1, List.headD] at N1
    walk_at "mine steps"
    (repeat (first | k_unfold | (dsimp only) | (dsimp only [qk])))
    unfold Back
    dsimp only
    exact ret _ _ _ _ _ _ _ _ _ _ _ _ F1.keep (N1 _ (.head _)).2.2 (N1 _ (.head _)).1
  case turn =>
    rintro i t u news₁ h tk I oI hin ⟨k, d, e, f, u', t1, t2, t3, t4, rfl⟩ hoff F1 N1
    have hDI := neN (hoff _ (.head _))
    dsimp only [ad1, List.headD] at hDI N1
    have hi0 : (0 : Int) ≤ (i : Int) := by omega
    have hi1 : (i : Int) < (ns.length : Int) := by split at hin <;> omega
    (try dsimp only)
    (try k_fold)
    walk_at "mine steps"
    all_goals (repeat (first | k_unfold | (dsimp only) | (dsimp only [qk])))
    (show TEnd _ _ _ _ _ _ _)
    refine' TEnd.intro [(_, _)] ?zf ?zn ?za ?zb
    case zf => k_asm
    case zn => k_asm
    case za => intro p hp; rw [List.mem_singleton.mp hp]; exact hDI
    case zb => exact ⟨off1, _, _, _, _, _, _, _, _, _, rfl⟩
end Mine
end
section
open PySem PySem.W PyProof.Rows PySem.Calls PySem.Spec
set_option Elab.async false
set_option maxRecDepth 100000
set_option maxHeartbeats 8000000
set_option linter.unusedVariables false
set_option rowWalk.seconds 0
namespace Mine
theorem start_N0 : True := by w_top off; trivial
/-- a def whose frame has cells -/
theorem enterC {w : World} {s : Shared} {dp un : Nat} {fr : Option (List Env)} {gd : Option (List Code)} {f : Addr} {args : List Value} {Q E : Value → Shared → Prop}
    {name qual : Str} {params : Arguments} {body : List Stmt} {scope : Scope} {dV kV doc pm cdv ct oc : Value} {an od : Option Addr} {osl : Array (Option Value)} {binds : List (Str × Value)} {p : Program} {loose : List Str} {mean : ExcName → Option Value} {mg mb : Str → Option Value}
    (X : (hd.heap_39 w.params).In s.heap) (T : Top p loose mean mg mb s.heap)
    (ho : (hd.heap_39 w.params).lookup f = some ⟨oc, od, .func (fnOf name qual params body scope dV kV doc pm an cdv ct), osl⟩) (hcd : codeIn (hd.heap_39 w.params) cdv qual = true) (hroom : dp < recursionLimit)
    (hbind : BindsTo s (fnOf name qual params body scope dV kV doc pm an cdv ct) ⟨args, []⟩ binds) (hkind : (binds.all fun y => scope.names.lookup y.1 == some .local || scope.names.lookup y.1 == some .cell) = true)
    (hnd : ((cellsFrom 0 scope.names []).map (·.1)).Nodup) (hco : scope.isCoroutine = false) (hgen : scope.isGenerator = false) (hk : scope.kind = .function)
    (h : ∀ L h₁ tk cells, Fr s.heap L h₁ (bindL (envOfC qual scope L f cdv).kindOf binds fun _ => none) → News s.heap L h₁ cells → CellsAre (bindC (envOfC qual scope L f cdv).kindOf binds fun _ => none) (cellsFrom (L + 1) scope.names []) cells →
      wpAny (model Challenge.rw_mq0096_01.row.prog w) (ard (dp + 1) (un + 3) (fr.map (envOfC qual scope L f cdv :: ·)) gd) (execs body (envOfC qual scope L f cdv))
        (fun fl s' => Back (fun r s' => match r with | .ok (.ret v) => Q v s' | .ok _ => False | .error e => E e s') (match fl with | .ret v => v | _ => .none) s')
        (fun e s' => wpAny (model Challenge.rw_mq0096_01.row.prog w) (ard (dp + 1) (un + 3) (fr.map (envOfC qual scope L f cdv :: ·)) gd) (leaving (envOfC qual scope L f cdv) e) (fun _ s'' => E e s'') (fun e' s'' => E e' s'') s')
        { s with heap := h₁, toks := tk }) :
    wpAny (model Challenge.rw_mq0096_01.row.prog w) (ard dp un fr gd) (call (.ref f) args) Q E s := by
  refine wpAny_call ?_
  refine codeAny_call_function hroom (X _ _ ho) rfl hco hgen rfl (codeRec_of X hcd) (hbind _ _ _ _ ?_)
  refine wpAny_newFunctionEnv_cells hk (kindsX hkind _) fun env' he s' x => ?_
  subst he
  refine ⟨T.nolimit.keeps x.toInCall.keep, codeAny_func ?_⟩
  obtain ⟨h₁, tk, rfl, _⟩ := x.done
  have hk₁ := x.toInCall.keep
  obtain ⟨cells, NC, Y⟩ := Cl.news (h₀ := s.heap) (Nat.le_refl _) fun n c hm => ⟨x.cell n c (lookup_of_mem_nodup (cellsFrom_names scope.names 0 (s.heap.objs.size + 1) [] [] rfl ▸ hnd) hm), x.above n c hm⟩
  exact wpAny_mono (h s.heap.objs.size h₁ tk cells ⟨x.toInCall.ns, hk₁, Nat.le_refl _⟩ NC Y) (fun _ _ y => y) fun _ _ y => y
local macro_rules | `(tactic| walk_at "mine enterC") => `(tactic| (k_dflt (refine' enterC ?k1 ?k2 ?k6 ?k7 ?k8 ?k9 ?kB ?kD ?c2 ?c3 ?c4 ?_; (case k1 => k_asm); (case k2 => k_asm); (case k6 => k_is); (case k7 => k_is); (case k8 => omega); (case k9 => exact BindsTo.of_eq rfl); (case kB => exact rfl); (case kD => decide +kernel); (case c2 => exact rfl); (case c3 => exact rfl); (case c4 => exact rfl); k_whole; intro L' h' tk cells' F' N' Y'; k_cells Y'; (try dsimp only); (try k_fold))))
local macro_rules | `(tactic| walk_at "mine steps") => `(tactic| repeat' ((fail_if_success (with_reducible show wpAny _ _ (pyIter _) _ _ _)); (fail_if_success (with_reducible show LCg.CompSrc _ _ _ _ _ _ _ _ _ _ _ _ _ _)); (first | (k_unfold; (try dsimp only)) | (k_end; wrow_close) | walk1 | (dsimp only; walk1))))

abbrev Nm := Int × Int × Int
def IsN (x : Nm) (o : Obj) : Prop := ∃ t1 t2 t3 k, o = listOf #[.int x.1 t1, .int x.2.1 t2, .int x.2.2 t3] k
def Rows (R : List (Addr × Obj)) (xs : List Nm) : Prop := R.length = xs.length ∧ ∀ (j : Nat) (p : Addr × Obj) (x : Nm), R[j]? = some p → xs[j]? = some x → IsN x p.2
theorem Rows.nil : Rows [] [] := ⟨rfl, fun j p x h => by simp at h⟩
theorem Rows.snoc {R : List (Addr × Obj)} {xs : List Nm} {a : Addr} {o : Obj} {x : Nm} (h : Rows R xs) (ho : IsN x o) : Rows (R ++ [(a, o)]) (xs ++ [x]) := by
  refine ⟨by simp [h.1], fun j p y h1 h2 => ?_⟩
  rcases Nat.lt_or_ge j R.length with hj | hj
  · rw [List.getElem?_append_left hj] at h1
    rw [List.getElem?_append_left (by rw [← h.1]; exact hj)] at h2
    exact h.2 j p y h1 h2
  · rw [List.getElem?_append_right hj] at h1
    rw [List.getElem?_append_right (by rw [← h.1]; exact hj)] at h2
    cases e : j - R.length with
    | zero =>
      rw [e] at h1
      rw [← h.1, e] at h2
      simp at h1 h2
      rw [← h1, ← h2]; exact ho
    | succ n => rw [e] at h1; simp at h1
abbrev refsOf (R : List (Addr × Obj)) : Array Value := (R.map fun p => Value.ref p.1).toArray
theorem refsOf_push (R : List (Addr × Obj)) (a : Addr) (o : Obj) : (refsOf R).push (.ref a) = refsOf (R ++ [(a, o)]) := by simp [refsOf]

def rowP (n m c : Nat) : List Nm := (List.range c).map fun (p : Nat) => ((n : Int), (m : Int), (p : Int))
def rowM (n c : Nat) : List Nm := (List.range c).flatMap fun m => rowP n m (max 1 (6 * n))
def nameL (N : Nat) : List Nm := (List.range (N + 1)).flatMap fun n => rowM n (N + 1 - n)
theorem rowP_succ (n m c : Nat) : rowP n m (c + 1) = rowP n m c ++ [((n : Int), (m : Int), (c : Int))] := by simp [rowP, List.range_succ]
theorem rowM_succ (n c : Nat) : rowM n (c + 1) = rowM n c ++ rowP n c (max 1 (6 * n)) := by simp [rowM, List.range_succ]
def nameTo (N i : Nat) : List Nm := (List.range i).flatMap fun n => rowM n (N + 1 - n)
theorem nameTo_succ (N i : Nat) : nameTo N (i + 1) = nameTo N i ++ rowM i (N + 1 - i) := by simp [nameTo, List.range_succ]
theorem rowP_len (n m c : Nat) : (rowP n m c).length = c := by simp [rowP]
theorem rowM_len (n c : Nat) : (rowM n c).length = c * max 1 (6 * n) := by
  induction c with
  | zero => simp [rowM]
  | succ c ih => rw [rowM_succ, List.length_append, ih, rowP_len]; exact (Nat.succ_mul c _).symm
theorem nameTo_len (N : Nat) (hN : N ≤ 3) : ∀ i, i ≤ N + 1 → (nameTo N i).length ≤ i * 72 := by
  intro i
  induction i with
  | zero => intro _; simp [nameTo]
  | succ i ih =>
    intro hi
    rw [nameTo_succ, List.length_append, rowM_len]
    have h1 := ih (by omega)
    have h2 : (N + 1 - i) * max 1 (6 * i) ≤ 4 * 18 := Nat.mul_le_mul (by omega) (by omega)
    omega
theorem small_nat {n : Nat} (h : n < 2 ^ 62) : Builtin.Range.small 0 (n : Int) 1 = true := by
  have hsz : Builtin.Range.rangeSize 0 (n : Int) 1 = ((n : Nat) : Int) := by rw [rangeSize_nat]; simp
  simp [Builtin.Range.small, Builtin.Range.rangeFitsLong, hsz]
  omega
theorem nameL_pos (N : Nat) : 1 ≤ (nameL N).length := by
  have e : nameL N = rowM 0 (N + 1 - 0) ++ ((List.range N).map Nat.succ).flatMap fun n => rowM n (N + 1 - n) := by
    unfold nameL
    rw [List.range_succ_eq_map]
    rfl
  rw [e, List.length_append, rowM_len]
  simp
  omega
def Bd (N : Nat) : Prop := 1 ≤ N ∧ N ≤ 3


/-- a list that grows: its items' objects are R, the rest of the ledger stands -/
def Jb (zn : Nat) (f : Nat → List Nm) (n0 : List (Addr × Obj)) (i : Nat) (news : List (Addr × Obj)) : Prop :=
  ∃ R k, Rows R (f i) ∧ (∀ p ∈ R, ∀ b ∈ (n0.take (zn + 1)).map (·.1), p.1 ≠ b) ∧ news = (ad1 n0, listOf (refsOf R) k) :: (n0.tail.take zn ++ R)
theorem news_swap {h₀ h : Heap} {L : Addr} {a b : Addr × Obj} {r : List (Addr × Obj)} (N : News h₀ L h (a :: b :: r)) : News h₀ L h (b :: a :: r) := by
  intro p hp
  rcases List.mem_cons.mp hp with rfl | hp
  · exact N _ (.tail _ (.head _))
  · rcases List.mem_cons.mp hp with rfl | hp
    · exact N _ (.head _)
    · exact N _ (.tail _ (.tail _ hp))
theorem take_len {α : Type} {Z R : List α} {n : Nat} (h : Z.length = n) : (Z ++ R).take n = Z := by
  subst h; simp
theorem Jb.of {zn i : Nat} {f : Nat → List Nm} {D : Addr} {oD0 : Obj} {Z R R₀ : List (Addr × Obj)} {k : Nat} (hz : Z.length = zn) (hR : Rows R (f i)) (hne : ∀ p ∈ R, ∀ b ∈ D :: Z.map (·.1), p.1 ≠ b) :
    Jb zn f ((D, oD0) :: (Z ++ R₀)) i ((D, listOf (refsOf R) k) :: (Z ++ R)) := by
  refine ⟨R, k, hR, ?_, ?_⟩
  · intro p hp b hb
    rw [List.take_succ_cons, take_len hz] at hb
    exact hne p hp b hb
  · show (D, listOf (refsOf R) k) :: (Z ++ R) = (D, listOf (refsOf R) k) :: ((Z ++ R₀).take zn ++ R)
    rw [take_len hz]
theorem tend_snoc {h₀ h' : Heap} {L I a D : Addr} {oI o oD0 oD1 : Obj} {k tk zn i : Nat} {Z R R₀ : List (Addr × Obj)} {m' : Str → Option Value} {M : (Str → Option Value) → Prop} {f : Nat → List Nm} {x : Nm} {s₁ : Shared}
    (F : Fr h₀ L h' m') (N : News h₀ L h' ((a, o) :: (I, oI) :: (D, listOf ((refsOf R).push (.ref a)) (k + 1)) :: (Z ++ R)))
    (hI : ∀ p ∈ (D, oD1) :: (Z ++ R), p.1 ≠ I) (hne : ∀ p ∈ R, ∀ b ∈ D :: Z.map (·.1), p.1 ≠ b) (hR : Rows R (f i)) (hz : Z.length = zn) (hM : M m') (hf : f (i + 1) = f i ++ [x]) (ho : IsN x o)
    (haI : a ≠ I) (haz : ∀ b ∈ D :: Z.map (·.1), a ≠ b) :
    TEnd h₀ L I oI (fun m' news' => M m' ∧ Jb zn f ((D, oD0) :: (Z ++ R₀)) (i + 1) news') s₁ { s₁ with heap := h', toks := tk } := by
  refine TEnd.intro ((D, listOf (refsOf (R ++ [(a, o)])) (k + 1)) :: (Z ++ (R ++ [(a, o)]))) F ?_ ?_ ⟨hM, Jb.of hz ?_ ?_⟩
  · rw [refsOf_push R a o] at N
    intro p hp
    refine N p ?_
    rcases List.mem_cons.mp hp with rfl | hp
    · exact .tail _ (.head _)
    · rcases List.mem_cons.mp hp with rfl | hp
      · exact .tail _ (.tail _ (.head _))
      · rw [← List.append_assoc] at hp
        rcases List.mem_append.mp hp with hp | hp
        · exact .tail _ (.tail _ (.tail _ hp))
        · rw [List.mem_singleton.mp hp]; exact .head _
  · intro p hp
    rcases List.mem_cons.mp hp with rfl | hp
    · have q := hI _ (.head _); exact q
    · rw [← List.append_assoc] at hp
      rcases List.mem_append.mp hp with hp | hp
      · exact hI p (.tail _ hp)
      · rw [List.mem_singleton.mp hp]; exact haI
  · rw [hf]; exact hR.snoc ho
  · intro p hp
    rcases List.mem_append.mp hp with hp | hp
    · exact hne p hp
    · rw [List.mem_singleton.mp hp]; exact haz
local macro_rules | `(tactic| k_all) => `(tactic| with_reducible assumption)
local macro_rules | `(tactic| walk_at "mine end") => `(tactic| (repeat (first | k_unfold | (dsimp only) | (dsimp only [qk]))))
theorem offs {xs : List Str} {x : Str} {v : Option Value} {f m₀ : Str → Option Value} (hx : x ∈ xs) (h : ∀ y, y ∉ xs → f y = m₀ y) : ∀ y, y ∉ xs → (if y = x then v else f y) = m₀ y := by
  intro y hy
  rw [if_neg (fun e => hy (by rw [e]; exact hx)), h y hy]
theorem off_mask {xs ys : List Str} {u m₀ m₁ : Str → Option Value} (hs : ∀ y ∈ ys, y ∈ xs) (h : ∀ y, y ∉ xs → m₁ y = m₀ y) : ∀ y, y ∉ xs → mask ys u m₁ y = m₀ y := by
  intro y hy
  unfold mask
  rw [if_neg (fun e => hy (hs y e)), h y hy]
theorem off_refl {xs : List Str} {u m₀ : Str → Option Value} : ∀ y, y ∉ xs → mask xs u m₀ y = m₀ y := off_mask (fun _ h => h) fun _ _ => rfl

open PyProof.Rows.LCg in
theorem compRest_of {prog : Program} {w : World} {A : Around} {s : Shared} {h₀ : Heap} {L : Addr} {m : Str → Option Value} {env : Env} {elt : Expr} {x : Str} {scope : Scope} {cl : List (Str × Addr)} {S : List (Addr × Obj) → Prop} {P : Nat → Value → Prop} {Fin : List Value → List (Addr × Obj) → Prop}
    (n : Nat) (J : Nat → List Value → List (Addr × Obj) → Prop)
    (step : ∀ i ys news, i < n → J i ys news → ∀ v I oI C oC D m₂ h tk (E' : Value → Shared → Prop), P i v → NsObj oC m₂ → m₂ x = some v → Fr h₀ L h m → News h₀ L h ((I, oI) :: (C, oC) :: (D, lst ys) :: news) → Off3 I C D news → ((@Ne Nat I C) ∧ (@Ne Nat I D) ∧ (@Ne Nat C D)) →
      wpAny (model prog w) A (eval elt (compEnvC scope cl C env)) (CompEnd h₀ L m { s with heap := h, toks := tk } I oI C oC D (lst ys) S (fun y news' => J (i + 1) (ys ++ [y]) news')) E' { s with heap := h, toks := tk })
    (fin : ∀ ys news, J n ys news → Fin ys news) : ∀ k i ys news, i + k = n → J i ys news → CompRest prog w A h₀ L m env elt x scope cl s S P Fin k i ys news := by
  intro k
  induction k with
  | zero => intro i ys news hi hj; exact CompRest.zero (fin ys news (by rw [Nat.add_zero] at hi; exact hi ▸ hj))
  | succ k ih =>
    intro i ys news hi hj
    refine CompRest.succ ?_
    intro v I oI C oC D m₂ h tk E' hv hC hx F N off ne
    refine wpAny_mono (step i ys news (by omega) hj v I oI C oC D m₂ h tk E' hv hC hx F N off ne) (fun y s₂ q => ?_) fun _ _ e => e
    obtain ⟨h', tk', news', e, F', N', off', hS, hj'⟩ := q
    exact ⟨h', tk', news', e, F', N', off', hS, ih (i + 1) (ys ++ [y]) news' (by omega) hj'⟩
open PyProof.Rows.LCg in
theorem compRest_same {prog : Program} {w : World} {A : Around} {s : Shared} {h₀ : Heap} {L : Addr} {m : Str → Option Value} {env : Env} {elt : Expr} {x : Str} {scope : Scope} {cl : List (Str × Addr)} {S : List (Addr × Obj) → Prop} {P : Nat → Value → Prop} {Fin : List Value → List (Addr × Obj) → Prop} {news : List (Addr × Obj)}
    (n : Nat) (g : Nat → Value)
    (step : ∀ i ys, i < n → ∀ v I oI C oC D m₂ h tk (E' : Value → Shared → Prop), P i v → NsObj oC m₂ → m₂ x = some v → Fr h₀ L h m → News h₀ L h ((I, oI) :: (C, oC) :: (D, lst ys) :: news) → Off3 I C D news → ((@Ne Nat I C) ∧ (@Ne Nat I D) ∧ (@Ne Nat C D)) →
      wpAny (model prog w) A (eval elt (compEnvC scope cl C env)) (fun y s₂ => y = g i ∧ CompEnd h₀ L m { s with heap := h, toks := tk } I oI C oC D (lst ys) S (fun _ news' => news' = news) y s₂) E' { s with heap := h, toks := tk })
    (fin : Fin ((List.range n).map g) news) : CompRest prog w A h₀ L m env elt x scope cl s S P Fin n 0 [] news := by
  refine compRest_of n (fun i ys news' => news' = news ∧ ys = (List.range i).map g) ?_ ?_ n 0 [] news (by omega) ⟨rfl, rfl⟩
  · rintro i ys news' hi ⟨rfl, rfl⟩ v I oI C oC D m₂ h tk E' hv hC hx F N off ne
    refine wpAny_mono (step i _ hi v I oI C oC D m₂ h tk E' hv hC hx F N off ne) (fun y s₂ q => ?_) fun _ _ e => e
    obtain ⟨rfl, h', tk', news'', e, F', N', off', hS, rfl⟩ := q
    exact ⟨h', tk', _, e, F', N', off', hS, rfl, by rw [List.range_succ, List.map_append]; rfl⟩
  · rintro ys news' ⟨rfl, rfl⟩
    exact fin
theorem ledList {h₀ h : Heap} {L l : Addr} {news : List (Addr × Obj)} {its : Array Value} {k : Nat} (N : News h₀ L h news) (hm : (l, listOf its k) ∈ news) : h.IsList l its := ⟨_, (N _ hm).1, rfl, _, rfl⟩
theorem len_refs {prog : Program} {w : World} {A : Around} {E : Value → Shared → Prop} {s : Shared} {h₀ : Heap} {L l : Addr} {news R : List (Addr × Obj)} {k : Nat} {Q : Value → Shared → Prop} (N : News h₀ L s.heap news) (hm : (l, listOf (refsOf R) k) ∈ news) (hR : R.length < 2 ^ 20)
    (h : Q (.int (R.length : Int) (s.toks + 1)) { s with toks := s.toks + 1 + 1 }) : wpAny (model prog w) A (call (.builtin "len") [.ref l]) Q E s := by
  have e : (refsOf R).size = R.length := by simp [refsOf]
  refine len_list (ledList N hm) (by rw [e]; omega) ?_
  rw [e]; exact h
theorem item_refs {prog : Program} {w : World} {A : Around} {E : Value → Shared → Prop} {s : Shared} {value slice : PySem.Expr} {h₀ : Heap} {L l : Addr} {news R : List (Addr × Obj)} {n : Nat} {k : Int} {u : Tok} {Q : Value → Shared → Prop} (N : News h₀ L s.heap news) (hm : (l, listOf (refsOf R) n) ∈ news) (h0 : 0 ≤ k) (h1 : k < (R.length : Int)) (hfit : k < 2 ^ 63)
    (h : Q ((refsOf R).getD k.toNat .none) s)
    (hs : subscripted slice false (.ref l) (.int k u) = operate [.ref l, .int k u] (getItem (.ref l) (.int k u)) := by with_unfolding_all rfl) :
    wpAny (model prog w) A (subscriptTail value slice (.ref l) (.int k u)) Q E s := by
  have hl := ledList N hm
  have e : (refsOf R).size = R.length := by simp [refsOf]
  have hk : k.toNat < (refsOf R).size := by rw [e]; omega
  refine tail_any hl.typeIs slot_list_getitem.lookup (wpAny_getItem_list hl h0 hfit (x := (refsOf R).getD k.toNat .none) ?_ h) hs
  rw [Array.getD_eq_getD_getElem?, Array.getElem?_eq_getElem hk]
  rfl
local macro_rules | `(tactic| walk_at "call builtin:len") => `(tactic| (k_here; (with_reducible show wpAny _ _ (call (Value.builtin "len") [Value.ref _]) _ _ _); k_dflt (refine' len_refs ?k1 ?k2 ?k3 ?_; (case k1 => k_asm); (case k2 => k_mem); (case k3 => omega))))
local macro_rules | `(tactic| walk_at "subscriptTail") => `(tactic| (k_here; (with_reducible show wpAny _ _ (subscriptTail _ _ (Value.ref _) (Value.int _ _)) _ _ _); k_dflt (refine' item_refs ?k1 ?k2 ?k3 ?k4 ?k5 ?_ ?k6; (case k1 => k_asm); (case k2 => k_mem); (case k3 => first | omega | exact Int.fmod_nonneg_of_pos _ (by omega)); (case k4 => first | omega | exact Int.fmod_lt_of_pos _ (by omega)); (case k5 => first | omega | exact Int.lt_trans (Int.fmod_lt_of_pos _ (by omega)) (by omega)); (case k6 => with_unfolding_all rfl))))

theorem names_spec (w : World) {s : Shared} {dp un : Nat} {fr : Option (List Env)} {gd : Option (List Code)} {Q E : Value → Shared → Prop} (S : Std w s.heap) (hdp : dp + 40 < recursionLimit) (hun : un + 400 < cLine)
    (N : Nat) (stride : Int) (t1 t2 : Tok) (hN : Bd N)
    (ret : ∀ a k R h' tk', Keep s.heap h' → s.heap.get? a = none → Rows R (nameL N) → (∀ p ∈ R, h'.get? p.1 = some p.2 ∧ s.heap.get? p.1 = none) →
      h'.get? a = some (listOf ((List.range R.length).map fun (j : Nat) => (refsOf R).getD (((j : Int) * stride).fmod (R.length : Int)).toNat .none).toArray k) → Q (.ref a) { s with heap := h', toks := tk' }) :
    wpAny (model Challenge.rw_mq0096_01.row.prog w) (ard dp un fr gd) (call (.ref 54) [.int (N : Int) t1, .int stride t2]) Q E s := by
  obtain ⟨X, pp, loose, mean, mg, mb, T⟩ := S
  revert X
  k_fill
  intro X
  walk_at "mine enterC"
  walk_at "mine steps"
  refine loop_rangeM [Str.ofString "n", Str.ofString "m", Str.ofString "p"] (N + 1) (Jb 2 (nameTo N)) (by assumption) (by assumption) (by assumption) (by omega) (by have := hN.2; omega) rfl ⟨[], 0, Rows.nil, (fun _ h => nomatch h), rfl⟩ ?turn ?done
  case done =>
    rintro u news₁ h tk ⟨R, k, hR, hne, rfl⟩ F1 N1
    dsimp only [ad1, List.headD, List.tail, List.take, List.map] at N1 hne
    simp only [List.cons_append, List.nil_append] at N1
    have hRl : R.length = (nameL N).length := hR.1
    have hRl1 : R.length < 1000 := by
      have := nameTo_len N hN.2 (N + 1) (Nat.le_refl _)
      have := hN.2
      have e : (nameL N).length = (nameTo N (N + 1)).length := rfl
      omega
    have hRl0 : 1 ≤ R.length := by rw [hRl]; exact nameL_pos N
    (try dsimp only)
    (try k_fold)
    walk1
    walk1
    k_dflt (refine LCg.ListComp_U (F₀ := by k_asm) (by with_unfolding_all rfl) (by decide) (by rfl) (by decide) (by rfl) ?_)
    walk_at "mine steps"
    refine LCg.CompSrc.range (n := R.length) (by rfl) (by k_asm) (by k_asm) (by assumption) (small_nat (by omega)) (by rw [rangeSize_nat]; simp) (by rw [sizeLine_eq]; omega) ?_
    intro g'
    refine compRest_same R.length (fun j => (refsOf R).getD (((j : Int) * stride).fmod (R.length : Int)).toNat .none) ?step ?fin
    case step =>
      rintro i ys hi v' I' oI' C' oC' D' m' h' tk' E' ⟨t', rfl⟩ hC' hx' F' N' off' ne'
      rw [Int.zero_add] at hx'
      walk_at "mine steps"
      all_goals exact ⟨_, _, _, rfl, by assumption, by assumption, off', trivial, rfl⟩
    case fin =>
      walk_at "mine steps"
      walk_at "mine end"
      unfold Back
      dsimp only
      exact ret _ _ R _ _ (Fr.keep (by assumption)) (News.fresh (by k_asm) (.head _)) hR (fun p hp => news_fresh (by k_asm) p (.tail _ (.tail _ (.tail _ (.tail _ hp))))) (News.get (by k_asm) (.head _))
  case turn =>
    rintro i t u news₁ h tk I oI hin ⟨R, k, hR, hne, rfl⟩ hoff F1 N1
    dsimp only [ad1, List.headD, List.tail, List.take, List.map] at N1 hoff hne
    simp only [List.cons_append, List.nil_append] at N1 hoff
    (try dsimp only)
    (try k_fold)
    walk_at "mine steps"
    refine loop_rangeM [Str.ofString "m", Str.ofString "p"] (N + 1 - i) (Jb 3 (fun j => nameTo N i ++ rowM i j)) (by assumption) (news_swap (by assumption)) (by assumption) (by omega) (by have := hN.2; omega) rfl ⟨R, k, by simpa [rowM] using hR, ?hj, rfl⟩ ?turn ?done
    case hj =>
      intro p hp q hq
      rcases List.mem_cons.mp hq with rfl | hq
      · exact hne p hp _ (.head _)
      · rcases List.mem_cons.mp hq with rfl | hq
        · exact hoff p (.tail _ (.tail _ (.tail _ hp)))
        · exact hne p hp q (.tail _ hq)
    case done =>
      rintro u2 news₂ h2 tk2 ⟨R2, k2, hR2, hne2, rfl⟩ F2 N2
      dsimp only [ad1, List.headD, List.tail, List.take, List.map] at N2 hne2
      simp only [List.cons_append, List.nil_append] at N2
      walk_at "mine steps"
      walk_at "mine end"
      (show TEnd _ _ _ _ _ _ _)
      refine TEnd.intro _ F2 (news_swap N2) ?za ⟨?zb, R2, k2, by rw [nameTo_succ]; exact hR2, ?zc, rfl⟩
      case za =>
        intro p hp
        rcases List.mem_cons.mp hp with rfl | hp
        · have q := hoff _ (.head _)
          exact q
        · rcases List.mem_cons.mp hp with rfl | hp
          · exact hoff _ (.tail _ (.head _))
          · rcases List.mem_cons.mp hp with rfl | hp
            · exact hoff _ (.tail _ (.tail _ (.head _)))
            · exact hne2 p hp _ (.tail _ (.head _))
      case zb => exact off_mask (by decide) (offs (by decide) off_refl)
      case zc =>
        intro p hp q hq
        rcases List.mem_cons.mp hq with rfl | hq
        · exact hne2 p hp _ (.head _)
        · exact hne2 p hp q (.tail _ (.tail _ hq))
    case turn =>
      rintro j t' u2 news₂ h2 tk2 I2 oI2 hin2 ⟨R2, k2, hR2, hne2, rfl⟩ hoff2 F2 N2
      dsimp only [ad1, List.headD, List.tail, List.take, List.map] at N2 hoff2 hne2
      simp only [List.cons_append, List.nil_append] at N2 hoff2
      (try dsimp only)
      (try k_fold)
      walk_at "mine steps"
      refine loop_rangeM [Str.ofString "p"] (max 1 (6 * i)) (Jb 4 (fun c => nameTo N i ++ rowM i j ++ rowP i j c)) (by assumption) (news_swap (by assumption)) (by assumption) (by split <;> omega) (by have := hN.2; omega) rfl ⟨R2, k2, by simpa [rowP] using hR2, ?hj, rfl⟩ ?turn ?done
      case hj =>
        intro p hp q hq
        rcases List.mem_cons.mp hq with rfl | hq
        · exact hne2 p hp _ (.head _)
        · rcases List.mem_cons.mp hq with rfl | hq
          · exact hoff2 p (.tail _ (.tail _ (.tail _ (.tail _ hp))))
          · exact hne2 p hp q (.tail _ hq)
      case done =>
        rintro u3 news₃ h3 tk3 ⟨R3, k3, hR3, hne3, rfl⟩ F3 N3
        dsimp only [ad1, List.headD, List.tail, List.take, List.map] at N3 hne3
        simp only [List.cons_append, List.nil_append] at N3
        walk_at "mine steps"
        walk_at "mine end"
        (show TEnd _ _ _ _ _ _ _)
        refine TEnd.intro _ F3 (news_swap N3) ?za ⟨?zb, R3, k3, by show Rows R3 (_ ++ rowM i (j + 1)); rw [rowM_succ, ← List.append_assoc]; exact hR3, ?zc, rfl⟩
        case za =>
          intro p hp
          rcases List.mem_cons.mp hp with rfl | hp
          · have q := hoff2 _ (.head _)
            exact q
          · rcases List.mem_cons.mp hp with rfl | hp
            · exact hoff2 _ (.tail _ (.head _))
            · rcases List.mem_cons.mp hp with rfl | hp
              · exact hoff2 _ (.tail _ (.tail _ (.head _)))
              · rcases List.mem_cons.mp hp with rfl | hp
                · exact hoff2 _ (.tail _ (.tail _ (.tail _ (.head _))))
                · exact hne3 p hp _ (.tail _ (.head _))
        case zb => exact off_mask (by decide) (offs (by decide) off_refl)
        case zc =>
          intro p hp q hq
          rcases List.mem_cons.mp hq with rfl | hq
          · exact hne3 p hp _ (.head _)
          · exact hne3 p hp q (.tail _ (.tail _ hq))
      case turn =>
        rintro c t'' u3 news₃ h3 tk3 I3 oI3 hin3 ⟨R3, k3, hR3, hne3, rfl⟩ hoff3 F3 N3
        dsimp only [ad1, List.headD, List.tail, List.take, List.map] at N3 hoff3 hne3
        simp only [List.cons_append, List.nil_append] at N3 hoff3
        have hD3 := fun p hp => hne3 p hp _ (.head _)
        have q1 := neN (hoff3 _ (.head _))
        have q2 := neN (hoff3 _ (.tail _ (.head _)))
        have q3 := neN (hoff3 _ (.tail _ (.tail _ (.head _))))
        have q4 := neN (hoff2 _ (.head _))
        have q5 := neN (hoff2 _ (.tail _ (.head _)))
        have q6 := neN (hoff _ (.head _))
        have hRl : R3.length ≤ 1000 := by
          rw [hR3.1]
          have a1 := nameTo_len N hN.2 i (by omega)
          have a2 := rowM_len i j
          have a3 := rowP_len i j c
          have a4 : j * max 1 (6 * i) ≤ 4 * 18 := Nat.mul_le_mul (by have := hN.2; omega) (by have := hN.2; omega)
          have := hN.2
          simp only [List.length_append]
          omega
        (try dsimp only at *)
        (try k_fold)
        walk_at "mine steps"
        walk_at "mine end"
        (show TEnd _ _ _ _ _ _ _)
        k_dflt (refine' tend_snoc (x := ((i : Int), (j : Int), (c : Int))) (Z := [_, _, _, _]) ?zF ?zN hoff3 hne3 hR3 rfl ?zM ?zf ?zo ?zi ?zz)
        case zF => k_asm
        case zN => k_asm
        case zo => exact ⟨_, _, _, _, rfl⟩
        case zM => exact offs (by decide) off_refl
        case zf => show _ ++ rowP i j (c + 1) = _; rw [rowP_succ, ← List.append_assoc]
        case zi => refine neN ?_; omega
        case zz =>
          refine List.forall_mem_cons.mpr ⟨?_, List.forall_mem_cons.mpr ⟨?_, List.forall_mem_cons.mpr ⟨?_, List.forall_mem_cons.mpr ⟨?_, List.forall_mem_cons.mpr ⟨?_, List.forall_mem_nil _⟩⟩⟩⟩⟩
          all_goals (refine neN ?_; (try dsimp only); omega)
end Mine
end
section
open PySem PySem.W PyProof.Rows PySem.Calls PySem.Spec
set_option Elab.async false
set_option maxRecDepth 100000
set_option maxHeartbeats 8000000
set_option linter.unusedVariables false
set_option rowWalk.seconds 0
namespace Mine
theorem start_W1 : True := by w_top off; trivial
local macro_rules | `(tactic| walk_at "mine enterC") => `(tactic| (k_dflt (refine' enterC ?k1 ?k2 ?k6 ?k7 ?k8 ?k9 ?kB ?kD ?c2 ?c3 ?c4 ?_; (case k1 => k_asm); (case k2 => k_asm); (case k6 => k_is); (case k7 => k_is); (case k8 => omega); (case k9 => exact BindsTo.of_eq rfl); (case kB => exact rfl); (case kD => decide +kernel); (case c2 => exact rfl); (case c3 => exact rfl); (case c4 => exact rfl); k_whole; intro L' h' tk cells' F' N' Y'; k_cells Y'; (try dsimp only); (try k_fold))))
local macro_rules | `(tactic| walk_at "mine end") => `(tactic| (repeat (first | k_unfold | (dsimp only) | (dsimp only [qk]))))

theorem backS {s : Shared} {Q : Value → Shared → Prop} {E : Value → Shared → Prop} {D L : Addr} {h' : Heap} {m : Str → Option Value} {tk' k : Nat} {news : List (Addr × Obj)} {ws : List Value} {its : Array Value} {ns : List Int}
    (ret : ∀ a k ws h' tk', Keep s.heap h' → s.heap.get? a = none → IntsAre ws ns → h'.get? a = some (listOf ws.toArray k) → Q (.ref a) { s with heap := h', toks := tk' })
    (F : Fr s.heap L h' m) (N : News s.heap L h' ((D, { cls := .type "list", data := .seq its k }) :: news)) (hi : IntsAre ws ns) (e : its = ws.toArray) :
    Back (fun r s' => match r with | .ok (.ret v) => Q v s' | .ok _ => False | .error e => E e s') (.ref D) { s with heap := h', toks := tk' } := by
  subst e
  exact ret D k ws h' tk' F.keep (N _ (.head _)).2.2 hi (N _ (.head _)).1
def stepsL (N : Nat) (step base : Int) : List Int := (List.range (N + 1)).map fun (k : Nat) => base + (k : Int) * step
def walkL (N : Nat) (step base sg : Int) : List Int := if sg = 1 then stepsL N step base else (stepsL N step base).reverse
theorem steps_eq (N : Nat) (step base : Int) : List.map (fun k' => base + k' * step) (rangeKs 0 ((N : Int) + 1 - 0).toNat) = stepsL N step base := by
  unfold stepsL rangeKs
  rw [List.map_map]
  have e : ((N : Int) + 1 - 0).toNat = N + 1 := by omega
  rw [e]
  refine List.map_congr_left fun k _ => ?_
  simp
theorem slice_whole : ∀ {ys : List Value}, ys.length ≤ 4 → slicePick ys.toArray none none (some 1) = ys.toArray
  | [], _ => by kernel_rfl
  | [_], _ => by kernel_rfl
  | [_, _], _ => by kernel_rfl
  | [_, _, _], _ => by kernel_rfl
  | [_, _, _, _], _ => by kernel_rfl
  | _ :: _ :: _ :: _ :: _ :: _, h => absurd h (by simp)

theorem walk_up (w : World) {s : Shared} {dp un : Nat} {fr : Option (List Env)} {gd : Option (List Code)} {Q E : Value → Shared → Prop} (S : Std w s.heap) (hdp : dp + 40 < recursionLimit) (hun : un + 400 < cLine)
    (N : Nat) (hN0 : 1 ≤ N) (hN : N ≤ 3) (step base : Int) (t1 t2 t3 t4 : Tok) (hs0 : 1 ≤ step) (hs : step ≤ 131072) (hb0 : 0 ≤ base) (hb : base < 524288)
    (ret : ∀ a k ws h' tk', Keep s.heap h' → s.heap.get? a = none → IntsAre ws (stepsL N step base) → h'.get? a = some (listOf ws.toArray k) → Q (.ref a) { s with heap := h', toks := tk' }) :
    wpAny (model Challenge.rw_mq0096_01.row.prog w) (ard dp un fr gd) (call (.ref 85) [.int (N : Int) t1, .int step t2, .int base t3, .int 1 t4]) Q E s := by
  obtain ⟨X, pp, loose, mean, mg, mb, T⟩ := S
  revert X
  k_fill
  intro X
  walk_at "mine enterC"
  k_steps
  all_goals walk_at "mine end"
  have e1 := steps_eq N step base
  have e2 : (stepsL N step base).length = N + 1 := by simp [stepsL]
  simp only [e1] at *
  refine backS ret (by assumption) (by assumption) (by assumption) (slice_whole (by omega))
theorem walk_down (w : World) {s : Shared} {dp un : Nat} {fr : Option (List Env)} {gd : Option (List Code)} {Q E : Value → Shared → Prop} (S : Std w s.heap) (hdp : dp + 40 < recursionLimit) (hun : un + 400 < cLine)
    (N : Nat) (hN0 : 1 ≤ N) (hN : N ≤ 3) (step base : Int) (t1 t2 t3 t4 : Tok) (hs0 : 1 ≤ step) (hs : step ≤ 131072) (hb0 : 0 ≤ base) (hb : base < 524288)
    (ret : ∀ a k ws h' tk', Keep s.heap h' → s.heap.get? a = none → IntsAre ws (stepsL N step base).reverse → h'.get? a = some (listOf ws.toArray k) → Q (.ref a) { s with heap := h', toks := tk' }) :
    wpAny (model Challenge.rw_mq0096_01.row.prog w) (ard dp un fr gd) (call (.ref 85) [.int (N : Int) t1, .int step t2, .int base t3, .int (-1) t4]) Q E s := by
  obtain ⟨X, pp, loose, mean, mg, mb, T⟩ := S
  revert X
  k_fill
  intro X
  walk_at "mine enterC"
  k_steps
  all_goals walk_at "mine end"
  have e1 := steps_eq N step base
  simp only [e1] at *
  refine backS ret (by assumption) (by assumption) (by assumption) rfl
theorem walk_spec (w : World) {s : Shared} {dp un : Nat} {fr : Option (List Env)} {gd : Option (List Code)} {Q E : Value → Shared → Prop} (S : Std w s.heap) (hdp : dp + 40 < recursionLimit) (hun : un + 400 < cLine)
    (N : Nat) (hN0 : 1 ≤ N) (hN : N ≤ 3) (step base sg : Int) (t1 t2 t3 t4 : Tok) (hs0 : 1 ≤ step) (hs : step ≤ 131072) (hb0 : 0 ≤ base) (hb : base < 524288) (hsg : sg = 1 ∨ sg = -1)
    (ret : ∀ a k ws h' tk', Keep s.heap h' → s.heap.get? a = none → IntsAre ws (walkL N step base sg) → h'.get? a = some (listOf ws.toArray k) → Q (.ref a) { s with heap := h', toks := tk' }) :
    wpAny (model Challenge.rw_mq0096_01.row.prog w) (ard dp un fr gd) (call (.ref 85) [.int (N : Int) t1, .int step t2, .int base t3, .int sg t4]) Q E s := by
  rcases hsg with rfl | rfl
  · exact walk_up w S hdp hun N hN0 hN step base t1 t2 t3 t4 hs0 hs hb0 hb ret
  · exact walk_down w S hdp hun N hN0 hN step base t1 t2 t3 t4 hs0 hs hb0 hb ret
end Mine
end
section
open PySem PySem.W PyProof.Rows PySem.Calls PySem.Spec
set_option Elab.async false
set_option maxRecDepth 100000
set_option maxHeartbeats 8000000
set_option linter.unusedVariables false
set_option rowWalk.seconds 0
namespace Mine
theorem start_C0 : True := by w_top off; trivial
local macro_rules | `(tactic| walk_at "mine enter") => `(tactic| (k_dflt (refine' enter ?k1 ?k2 ?k6 ?k7 ?k8 ?k9 ?kB ?c5 ?c2 ?c3 ?c4 ?_; (case k1 => k_asm); (case k2 => k_asm); (case k6 => k_is); (case k7 => k_is); (case k8 => omega); (case k9 => exact BindsTo.of_eq rfl); (case c5 => decide); (case kB => exact locs rfl); (case c2 => exact rfl); (case c3 => exact rfl); (case c4 => exact rfl); k_whole; intro L' h' tk F' N'; (try dsimp only); (try k_fold))))
local macro_rules | `(tactic| walk_at "mine end") => `(tactic| (repeat (first | k_unfold | (dsimp only) | (dsimp only [qk]))))
local macro_rules | `(tactic| walk_at "mine steps") => `(tactic| repeat' ((fail_if_success (with_reducible show wpAny _ _ (pyIter _) _ _ _)); (first | (k_unfold; (try dsimp only)) | (k_end; wrow_close) | walk1 | (dsimp only; walk1))))
local macro_rules | `(tactic| k_all) => `(tactic| with_reducible assumption)
local macro_rules | `(tactic| walk_at "call ref") => `(tactic| ((with_reducible show wpAny _ _ (call (Value.ref 85) _) _ _ _); k_dflt (refine' walk_spec _ ?k1 ?k2 ?k3 _ ?m1 ?m2 _ _ _ _ _ _ _ ?m3 ?m4 ?m5 ?m6 ?m7 ?_; (case k1 => exact std_of (by k_asm) (by k_asm) (by k_asm)); (case k2 => omega); (case k3 => omega); (case m1 => assumption); (case m2 => assumption); (case m3 => assumption); (case m4 => assumption); (case m5 => assumption); (case m6 => assumption); (case m7 => assumption)); intro a9 k9 ws9 h9 tk9 kp9 fr9 in9 ob9; (have F9 := fr_keep (by with_reducible assumption) kp9); (have N9 := news_more (new := [(a9, _)]) (by k_asm) (by k_asm) kp9 (List.forall_mem_cons.mpr ⟨⟨ob9, fr9⟩, List.forall_mem_nil _⟩)); (try dsimp only); (try k_fold)))

theorem ints_at {ws : List Value} {ns : List Int} {i : Nat} {v : Value} (hi : IntsAre ws ns) (e : ws.toArray[i]? = some v) : ∃ t, v = .int (ns.getD i 0) t ∧ i < ns.length := by
  have hlen : ws.length = ns.length := hi.length
  have e' : ws[i]? = some v := by simpa using e
  have hlt : i < ws.length := (List.getElem?_eq_some_iff.mp e').1
  obtain ⟨t, ht⟩ := hi.get i (ns[i]'(by omega)) (by simp [← hlen, hlt])
  refine ⟨t, ?_, by omega⟩
  rw [e'] at ht
  rw [Option.some.inj ht, List.getD_eq_getElem?_getD, List.getElem?_eq_getElem (by omega)]
  rfl
def placeC (x0 x1 x2 x y z j : Int) : Int := if x2 = j then z else if x1 = j then y else if x0 = j then x else 0
def place (x0 x1 x2 x y z : Int) : Nm := (placeC x0 x1 x2 x y z 0, placeC x0 x1 x2 x y z 1, placeC x0 x1 x2 x y z 2)
theorem take_flat {β : Type} {l : List Int} {i : Nat} (hi : i < l.length) (f : Int → List β) : (l.take (i + 1)).flatMap f = (l.take i).flatMap f ++ f (l.getD i 0) := by
  rw [List.take_add_one, List.flatMap_append, List.getElem?_eq_getElem hi, List.getD_eq_getElem?_getD, List.getElem?_eq_getElem hi]
  simp
theorem take_map {β : Type} {l : List Int} {i : Nat} (hi : i < l.length) (f : Int → β) : (l.take (i + 1)).map f = (l.take i).map f ++ [f (l.getD i 0)] := by
  rw [List.take_add_one, List.map_append, List.getElem?_eq_getElem hi, List.getD_eq_getElem?_getD, List.getElem?_eq_getElem hi]
  simp
def cubeZ (x0 x1 x2 : Int) (W2 : List Int) (x y : Int) : List Nm := W2.map fun z => place x0 x1 x2 x y z
def cubeY (x0 x1 x2 : Int) (W1 W2 : List Int) (x : Int) : List Nm := W1.flatMap fun y => cubeZ x0 x1 x2 W2 x y
def cubeX (x0 x1 x2 : Int) (W0 W1 W2 : List Int) : List Nm := W0.flatMap fun x => cubeY x0 x1 x2 W1 W2 x
theorem news_perm {h₀ h : Heap} {L : Addr} {l l' : List (Addr × Obj)} (N : News h₀ L h l) (hs : ∀ p ∈ l', p ∈ l) : News h₀ L h l' := fun p hp => N p (hs p hp)
theorem news_rot3 {h₀ h : Heap} {L : Addr} {a b c : Addr × Obj} {r : List (Addr × Obj)} (N : News h₀ L h (a :: b :: c :: r)) : News h₀ L h (c :: a :: b :: r) := by
  intro p hp
  rcases List.mem_cons.mp hp with rfl | hp
  · exact N _ (.tail _ (.tail _ (.head _)))
  · rcases List.mem_cons.mp hp with rfl | hp
    · exact N _ (.head _)
    · rcases List.mem_cons.mp hp with rfl | hp
      · exact N _ (.tail _ (.head _))
      · exact N _ (.tail _ (.tail _ (.tail _ hp)))
theorem news_pick3 {h₀ h : Heap} {L : Addr} {d w i : Addr × Obj} {r : List (Addr × Obj)} (N : News h₀ L h (d :: w :: i :: r)) : News h₀ L h (i :: d :: r) := by
  intro p hp
  rcases List.mem_cons.mp hp with rfl | hp
  · exact N _ (.tail _ (.tail _ (.head _)))
  · rcases List.mem_cons.mp hp with rfl | hp
    · exact N _ (.head _)
    · exact N _ (.tail _ (.tail _ (.tail _ hp)))
theorem fresh_ne {h₀ h : Heap} {L a : Addr} {news : List (Addr × Obj)} (N : News h₀ L h news) (fr : h.get? a = none) : ∀ p ∈ news, p.1 ≠ a := by
  intro p hp e
  have := (N p hp).1
  rw [e, fr] at this; cases this
theorem fresh_ne' {h₀ h : Heap} {L a : Addr} {news : List (Addr × Obj)} (fr : h.get? a = none) (N : News h₀ L h news) : ∀ p ∈ news, p.1 ≠ a := fresh_ne N fr
theorem allLt_ne {d : Addr} : ∀ {l : List (Addr × Obj)}, AllLt d l → ∀ p ∈ l, p.1 ≠ d
  | [], _, _, h => nomatch h
  | p :: _, h, q, hq => by
    rcases List.mem_cons.mp hq with rfl | hq
    · exact Nat.ne_of_lt h.1
    · exact allLt_ne h.2 q hq
local macro_rules | `(tactic| k_all) => `(tactic| exact allLt_ne (And.right (And.right (And.right (And.right (And.right (And.right (And.right (by assumption)))))))))
theorem set3 {prog : Program} {w : World} {A : Around} {E : Value → Shared → Prop} {s : Shared} {h₀ : Heap} {L D : Addr} {m : Str → Option Value} {rest : List (Addr × Obj)} {a b c x v : Int} {ta tb tc u tv : Tok} {k : Nat} {Q : Unit → Shared → Prop}
    (F : Fr h₀ L s.heap m) (N : News h₀ L s.heap ((D, listOf #[.int a ta, .int b tb, .int c tc] k) :: rest)) (hne : ∀ p ∈ rest, p.1 ≠ D) (h0 : 0 ≤ x) (h3 : x < 3)
    (h : ∀ ta' tb' tc' h', Fr h₀ L h' m → News h₀ L h' ((D, listOf #[.int (if x = 0 then v else a) ta', .int (if x = 1 then v else b) tb', .int (if x = 2 then v else c) tc'] k) :: rest) → Q () { s with heap := h' }) :
    wpAny (model prog w) A (setItem (.ref D) (.int x u) (.int v tv)) Q E s := by
  obtain rfl | rfl | rfl : x = 0 ∨ x = 1 ∨ x = 2 := by omega
  · exact ki_set F N (by decide) (by decide) (q := [.int v tv, .int b tb, .int c tc]) rfl (Upd.head hne) fun h' F' N' => h tv tb tc h' F' N'
  · exact ki_set F N (by decide) (by decide) (q := [.int a ta, .int v tv, .int c tc]) rfl (Upd.head hne) fun h' F' N' => h ta tv tc h' F' N'
  · exact ki_set F N (by decide) (by decide) (q := [.int a ta, .int b tb, .int v tv]) rfl (Upd.head hne) fun h' F' N' => h ta tb tv h' F' N'
local macro_rules | `(tactic| walk_at "setItem ref int") => `(tactic| (k_here; (with_reducible show wpAny _ _ (setItem (Value.ref _) (Value.int _ _) (Value.int _ _)) _ _ _); k_dflt (refine' set3 ?k1 ?k2 ?k3 ?k4 ?k5 ?_; (case k1 => k_asm); (case k2 => k_asm); (case k3 => k_all); (case k4 => assumption); (case k5 => assumption)); intro ta' tb' tc' h' F' N'; (try k_sweep)))
theorem walkL_len (N : Nat) (step base sg : Int) : (walkL N step base sg).length = N + 1 := by
  unfold walkL stepsL
  split <;> simp
theorem flat_le {β : Type} {f : Int → List β} {n : Nat} (h : ∀ x, (f x).length ≤ n) : ∀ l : List Int, (l.flatMap f).length ≤ l.length * n
  | [] => by simp
  | a :: l => by
    have h1 := flat_le h l
    have h2 := h a
    rw [List.flatMap_cons, List.length_append, List.length_cons, Nat.succ_mul]
    omega
theorem cube_len {N : Nat} (hN : N ≤ 3) (hN0 : 1 ≤ N) {step base g0 g1 g2 x0 x1 x2 : Int} (i j c : Nat) :
    ((((walkL N step base g0).take i).flatMap fun x => cubeY x0 x1 x2 (walkL N step base g1) (walkL N step base g2) x) ++ (((walkL N step base g1).take j).flatMap fun y => cubeZ x0 x1 x2 (walkL N step base g2) ((walkL N step base g0).getD i 0) y) ++ ((walkL N step base g2).take c).map fun z => place x0 x1 x2 ((walkL N step base g0).getD i 0) ((walkL N step base g1).getD j 0) z).length ≤ 1000 := by
  have w0 := walkL_len N step base g0
  have w1 := walkL_len N step base g1
  have w2 := walkL_len N step base g2
  have hz : ∀ x y, (cubeZ x0 x1 x2 (walkL N step base g2) x y).length ≤ 4 := fun x y => by simp only [cubeZ, List.length_map]; omega
  have hy : ∀ x, (cubeY x0 x1 x2 (walkL N step base g1) (walkL N step base g2) x).length ≤ 16 := fun x => by
    have := flat_le (hz x) (walkL N step base g1)
    exact Nat.le_trans this (by omega)
  have h1 := flat_le hy ((walkL N step base g0).take i)
  have h2 := flat_le (hz ((walkL N step base g0).getD i 0)) ((walkL N step base g1).take j)
  have h3 : ((walkL N step base g0).take i).length ≤ 4 := by rw [List.length_take]; omega
  have h4 : ((walkL N step base g1).take j).length ≤ 4 := by rw [List.length_take]; omega
  have h5 : ((walkL N step base g2).take c).length ≤ 4 := by rw [List.length_take]; omega
  rw [List.length_append, List.length_append]
  exact Nat.le_trans (Nat.add_le_add (Nat.add_le_add h1 h2) (Nat.le_of_eq (List.length_map ..))) (by omega)

theorem cube_spec (w : World) {s : Shared} {dp un : Nat} {fr : Option (List Env)} {gd : Option (List Code)} {Q E : Value → Shared → Prop} (S : Std w s.heap) (hdp : dp + 80 < recursionLimit) (hun : un + 800 < cLine)
    (N : Nat) (hN0 : 1 ≤ N) (hN : N ≤ 3) (step base : Int) (t1 t2 t3 : Tok) (hs0 : 1 ≤ step) (hs : step ≤ 131072) (hb0 : 0 ≤ base) (hb : base < 524288)
    (rl r0 r1 r2 : Addr) (x0 x1 x2 g0 g1 g2 : Int) (u0 u1 u2 v0 v1 v2 : Tok) (hr : s.heap.IsList rl #[.ref r0, .ref r1, .ref r2]) (hr0 : s.heap.IsList r0 #[.int x0 u0, .int g0 v0]) (hr1 : s.heap.IsList r1 #[.int x1 u1, .int g1 v1]) (hr2 : s.heap.IsList r2 #[.int x2 u2, .int g2 v2])
    (hx0 : 0 ≤ x0) (hx0' : x0 < 3) (hx1 : 0 ≤ x1) (hx1' : x1 < 3) (hx2 : 0 ≤ x2) (hx2' : x2 < 3) (hg0 : g0 = 1 ∨ g0 = -1) (hg1 : g1 = 1 ∨ g1 = -1) (hg2 : g2 = 1 ∨ g2 = -1)
    (ret : ∀ a k R h' tk', Keep s.heap h' → s.heap.get? a = none → Rows R (cubeX x0 x1 x2 (walkL N step base g0) (walkL N step base g1) (walkL N step base g2)) → (∀ p ∈ R, h'.get? p.1 = some p.2 ∧ s.heap.get? p.1 = none) →
      h'.get? a = some (listOf (refsOf R) k) → Q (.ref a) { s with heap := h', toks := tk' }) :
    wpAny (model Challenge.rw_mq0096_01.row.prog w) (ard dp un fr gd) (call (.ref 92) [.int (N : Int) t1, .int step t2, .int base t3, .ref rl]) Q E s := by
  obtain ⟨X, pp, loose, mean, mg, mb, T⟩ := S
  revert X
  k_fill
  intro X
  walk_at "mine enter"
  walk_at "mine steps"
  have nf0 := fresh_ne' (by assumption) (by assumption)
  refine loop_listM [Str.ofString "x", Str.ofString "y", Str.ofString "z", Str.ofString "colour"] (Jb 1 (fun i => ((walkL N step base g0).take i).flatMap fun x => cubeY x0 x1 x2 (walkL N step base g1) (walkL N step base g2) x)) (by k_asm) (news_swap (by k_asm)) (.inr ⟨_, .tail _ (.head _), ?hm⟩) rfl ⟨[], 0, Rows.nil, (fun _ h => nomatch h), rfl⟩ ?turn ?done
  case hm =>
    rintro i news₁ ⟨R, k, _, _, rfl⟩
    exact .tail _ (.head _)
  case done =>
    rintro u news₁ h tk ⟨R, k, hR, hne, rfl⟩ F1 N1
    dsimp only [ad1, List.headD, List.tail, List.take, List.map] at N1 hne
    simp only [List.cons_append, List.nil_append] at N1
    walk_at "mine steps"
    walk_at "mine end"
    unfold Back
    dsimp only
    have e := IntsAre.length (by assumption : IntsAre _ (walkL N step base g0))
    simp only [List.size_toArray, e, List.take_length] at hR
    exact ret _ _ R _ _ F1.keep (N1 _ (.head _)).2.2 hR (fun p hp => news_fresh N1 p (.tail _ (.tail _ hp))) (N1 _ (.head _)).1
  case turn =>
    rintro i v u news₁ h tk I oI hin hv ⟨R, k, hR, hne, rfl⟩ hoff F1 N1
    obtain ⟨tv, rfl, hin'⟩ := ints_at (by assumption) hv
    dsimp only [ad1, List.headD, List.tail, List.take, List.map] at N1 hoff hne
    simp only [List.cons_append, List.nil_append] at N1 hoff
    (try dsimp only)
    (try k_fold)
    walk_at "mine steps"
    have nf := fresh_ne N1 (by assumption)
    refine loop_listM [Str.ofString "y", Str.ofString "z", Str.ofString "colour"] (Jb 3 (fun j => (((walkL N step base g0).take i).flatMap fun x => cubeY x0 x1 x2 (walkL N step base g1) (walkL N step base g2) x) ++ ((walkL N step base g1).take j).flatMap fun y => cubeZ x0 x1 x2 (walkL N step base g2) ((walkL N step base g0).getD i 0) y)) (by k_asm) (news_rot3 (by k_asm)) (.inr ⟨_, .tail _ (.head _), ?hm⟩) rfl ⟨R, k, by simpa using hR, ?hj, rfl⟩ ?turn ?done
    case hm =>
      rintro i news₁ ⟨R, k, _, _, rfl⟩
      exact .tail _ (.head _)
    case hj =>
      intro p hp
      refine List.forall_mem_cons.mpr ⟨hne p hp _ (.head _), List.forall_mem_cons.mpr ⟨nf p (.tail _ (.tail _ (.tail _ hp))), List.forall_mem_cons.mpr ⟨hoff p (.tail _ (.tail _ hp)), List.forall_mem_cons.mpr ⟨hne p hp _ (.tail _ (.head _)), List.forall_mem_nil _⟩⟩⟩⟩
    case done =>
      rintro u2 news₂ h2 tk2 ⟨R2, k2, hR2, hne2, rfl⟩ F2 N2
      dsimp only [ad1, List.headD, List.tail, List.take, List.map] at N2 hne2
      simp only [List.cons_append, List.nil_append] at N2
      walk_at "mine steps"
      walk_at "mine end"
      (show TEnd _ _ _ _ _ _ _)
      refine TEnd.intro _ F2 (news_pick3 N2) ?za ⟨?zb, R2, k2, ?zr, ?zc, rfl⟩
      case za =>
        refine List.forall_mem_cons.mpr ⟨?_, List.forall_mem_cons.mpr ⟨hoff _ (.tail _ (.head _)), fun p hp => hne2 p hp _ (.tail _ (.tail _ (.head _)))⟩⟩
        have q := hoff _ (.head _)
        exact q
      case zb => exact off_mask (by decide) (offs (by decide) off_refl)
      case zr =>
        show Rows R2 (((walkL N step base g0).take (i + 1)).flatMap _)
        rw [take_flat hin']
        have e := IntsAre.length (by assumption : IntsAre _ (walkL N step base g1))
        simp only [List.size_toArray, e, List.take_length] at hR2
        exact hR2
      case zc =>
        intro p hp
        exact List.forall_mem_cons.mpr ⟨hne2 p hp _ (.head _), List.forall_mem_cons.mpr ⟨hne2 p hp _ (.tail _ (.tail _ (.tail _ (.head _)))), List.forall_mem_nil _⟩⟩
    case turn =>
      rintro j v2 u2 news₂ h2 tk2 I2 oI2 hin2 hv2 ⟨R2, k2, hR2, hne2, rfl⟩ hoff2 F2 N2
      obtain ⟨tv2, rfl, hin2'⟩ := ints_at (by assumption) hv2
      dsimp only [ad1, List.headD, List.tail, List.take, List.map] at N2 hoff2 hne2
      simp only [List.cons_append, List.nil_append] at N2 hoff2
      (try dsimp only)
      (try k_fold)
      walk_at "mine steps"
      have nf2 := fresh_ne N2 (by assumption)
      refine loop_listM [Str.ofString "z", Str.ofString "colour"] (Jb 5 (fun c => (((walkL N step base g0).take i).flatMap fun x => cubeY x0 x1 x2 (walkL N step base g1) (walkL N step base g2) x) ++ (((walkL N step base g1).take j).flatMap fun y => cubeZ x0 x1 x2 (walkL N step base g2) ((walkL N step base g0).getD i 0) y) ++ ((walkL N step base g2).take c).map fun z => place x0 x1 x2 ((walkL N step base g0).getD i 0) ((walkL N step base g1).getD j 0) z)) (by k_asm) (news_rot3 (by k_asm)) (.inr ⟨_, .tail _ (.head _), ?hm⟩) rfl ⟨R2, k2, by simpa using hR2, ?hj, rfl⟩ ?turn ?done
      case hm =>
        rintro i news₁ ⟨R, k, _, _, rfl⟩
        exact .tail _ (.head _)
      case hj =>
        intro p hp
        refine List.forall_mem_cons.mpr ⟨hne2 p hp _ (.head _), List.forall_mem_cons.mpr ⟨nf2 p (.tail _ (.tail _ (.tail _ (.tail _ (.tail _ hp))))), List.forall_mem_cons.mpr ⟨hoff2 p (.tail _ (.tail _ (.tail _ (.tail _ hp)))), List.forall_mem_cons.mpr ⟨hne2 p hp _ (.tail _ (.head _)), List.forall_mem_cons.mpr ⟨hne2 p hp _ (.tail _ (.tail _ (.head _))), List.forall_mem_cons.mpr ⟨hne2 p hp _ (.tail _ (.tail _ (.tail _ (.head _)))), List.forall_mem_nil _⟩⟩⟩⟩⟩⟩
      case done =>
        rintro u3 news₃ h3 tk3 ⟨R3, k3, hR3, hne3, rfl⟩ F3 N3
        dsimp only [ad1, List.headD, List.tail, List.take, List.map] at N3 hne3
        simp only [List.cons_append, List.nil_append] at N3
        walk_at "mine steps"
        walk_at "mine end"
        (show TEnd _ _ _ _ _ _ _)
        refine TEnd.intro _ F3 (news_pick3 N3) ?za ⟨?zb, R3, k3, ?zr, ?zc, rfl⟩
        case za =>
          refine List.forall_mem_cons.mpr ⟨?_, List.forall_mem_cons.mpr ⟨hoff2 _ (.tail _ (.head _)), List.forall_mem_cons.mpr ⟨hoff2 _ (.tail _ (.tail _ (.head _))), List.forall_mem_cons.mpr ⟨hoff2 _ (.tail _ (.tail _ (.tail _ (.head _)))), fun p hp => hne3 p hp _ (.tail _ (.tail _ (.head _)))⟩⟩⟩⟩
          have q := hoff2 _ (.head _)
          exact q
        case zb => exact off_mask (by decide) (offs (by decide) off_refl)
        case zr =>
          show Rows R3 (_ ++ ((walkL N step base g1).take (j + 1)).flatMap _)
          rw [take_flat hin2', ← List.append_assoc]
          have e := IntsAre.length (by assumption : IntsAre _ (walkL N step base g2))
          simp only [List.size_toArray, e, List.take_length] at hR3
          exact hR3
        case zc =>
          intro p hp
          exact List.forall_mem_cons.mpr ⟨hne3 p hp _ (.head _), List.forall_mem_cons.mpr ⟨hne3 p hp _ (.tail _ (.tail _ (.tail _ (.head _)))), List.forall_mem_cons.mpr ⟨hne3 p hp _ (.tail _ (.tail _ (.tail _ (.tail _ (.head _))))), List.forall_mem_cons.mpr ⟨hne3 p hp _ (.tail _ (.tail _ (.tail _ (.tail _ (.tail _ (.head _)))))), List.forall_mem_nil _⟩⟩⟩⟩
      case turn =>
        rintro c v3 u3 news₃ h3 tk3 I3 oI3 hin3 hv3 ⟨R3, k3, hR3, hne3, rfl⟩ hoff3 F3 N3
        obtain ⟨tv3, rfl, hin3'⟩ := ints_at (by assumption) hv3
        dsimp only [ad1, List.headD, List.tail, List.take, List.map] at N3 hoff3 hne3
        simp only [List.cons_append, List.nil_append] at N3 hoff3
        have hD3 := fun p hp => hne3 p hp _ (.head _)
        have q1 := neN (hoff3 _ (.head _))
        have q2 := neN (hoff3 _ (.tail _ (.head _)))
        have q3 := neN (hoff3 _ (.tail _ (.tail _ (.head _))))
        have q4 := neN (hoff3 _ (.tail _ (.tail _ (.tail _ (.head _)))))
        have q5 := neN (hoff3 _ (.tail _ (.tail _ (.tail _ (.tail _ (.head _))))))
        have q6 := neN (hoff3 _ (.tail _ (.tail _ (.tail _ (.tail _ (.tail _ (.head _)))))))
        have q7 := neN (nf2 _ (.tail _ (.head _)))
        have q8 := neN (hoff2 _ (.head _))
        have q9 := neN (nf _ (.tail _ (.head _)))
        have qa := neN (hoff _ (.head _))
        have qc := neN (nf0 _ (.head _))
        have qb : R3.length ≤ 1000 := by
          rw [hR3.1]
          exact cube_len hN hN0 i j c
        (try dsimp only at *)
        (try k_fold)
        walk_at "mine steps"
        walk_at "mine end"
        (show TEnd _ _ _ _ _ _ _)
        k_dflt (refine' tend_snoc (x := place x0 x1 x2 ((walkL N step base g0).getD i 0) ((walkL N step base g1).getD j 0) ((walkL N step base g2).getD c 0)) (Z := [_, _, _, _, _]) ?zF ?zN hoff3 hne3 hR3 rfl ?zM ?zf ?zo ?zi ?zz)
        case zF => k_asm
        case zN => k_asm
        case zo => exact ⟨_, _, _, _, rfl⟩
        case zM => exact offs (by decide) (offs (by decide) off_refl)
        case zf => show _ ++ ((walkL N step base g2).take (c + 1)).map _ = _; rw [take_map hin3', ← List.append_assoc]
        case zi => refine neN ?_; omega
        case zz =>
          refine List.forall_mem_cons.mpr ⟨?_, List.forall_mem_cons.mpr ⟨?_, List.forall_mem_cons.mpr ⟨?_, List.forall_mem_cons.mpr ⟨?_, List.forall_mem_cons.mpr ⟨?_, List.forall_mem_cons.mpr ⟨?_, List.forall_mem_nil _⟩⟩⟩⟩⟩⟩
          all_goals (refine neN ?_; (try dsimp only); omega)
end Mine
end
section
open PySem PySem.W PyProof.Rows PySem.Calls PySem.Spec
set_option Elab.async false
set_option maxRecDepth 100000
set_option maxHeartbeats 4000000
set_option linter.unusedVariables false
set_option rowWalk.seconds 0
namespace Mine
theorem start_S0 : True := by w_top off; trivial
section
variable {M : Model} {A : Around} {Inv : Shared → Prop} {σ : Type}
/-- a run of the sort's monad that keeps Inv -/
def wpT (M : Model) (A : Around) (Inv : Shared → Prop) {α : Type} (m : StateT σ Sem α) (Q : α → σ → Prop) (st : σ) : Prop :=
  ∀ s, Inv s → wpAny M A (m.run st) (fun r s' => Q r.1 r.2 ∧ Inv s') (fun _ _ => False) s
theorem wpT_pure {α : Type} {a : α} {Q : α → σ → Prop} {st : σ} (h : Q a st) : wpT M A Inv (pure a : StateT σ Sem α) Q st := by
  intro s hi; rw [StateT.run_pure]; exact wpAny_pure ⟨h, hi⟩
theorem wpT_bind {α β : Type} {m : StateT σ Sem α} {f : α → StateT σ Sem β} {Q : β → σ → Prop} {st : σ} (h : wpT M A Inv m (fun a st' => wpT M A Inv (f a) Q st') st) : wpT M A Inv (m >>= f) Q st := by
  intro s hi; rw [StateT.run_bind]
  exact wpAny_bind (wpAny_mono (h s hi) (fun r s' h' => h'.1 s' h'.2) fun _ _ e => e)
theorem wpT_mono {α : Type} {m : StateT σ Sem α} {Q Q' : α → σ → Prop} {st : σ} (h : wpT M A Inv m Q st) (hq : ∀ a st', Q a st' → Q' a st') : wpT M A Inv m Q' st :=
  fun s hi => wpAny_mono (h s hi) (fun r _ h' => ⟨hq _ _ h'.1, h'.2⟩) fun _ _ e => e
theorem wpT_get {Q : σ → σ → Prop} {st : σ} (h : Q st st) : wpT M A Inv (get : StateT σ Sem σ) Q st := by
  intro s hi; rw [StateT.run_get]; exact wpAny_pure ⟨h, hi⟩
theorem wpT_set {Q : PUnit → σ → Prop} {st st' : σ} (h : Q ⟨⟩ st') : wpT M A Inv (set st' : StateT σ Sem PUnit) Q st := by
  intro s hi; rw [StateT.run_set]; exact wpAny_pure ⟨h, hi⟩
theorem wpT_modify {f : σ → σ} {Q : PUnit → σ → Prop} {st : σ} (h : Q ⟨⟩ (f st)) : wpT M A Inv (modify f : StateT σ Sem PUnit) Q st := by
  intro s hi; rw [StateT.run_modify]; exact wpAny_pure ⟨h, hi⟩
theorem wpT_lift {α : Type} {m : Sem α} {Q : α → σ → Prop} {st : σ} (h : ∀ s, Inv s → wpAny M A m (fun a s' => Q a st ∧ Inv s') (fun _ _ => False) s) : wpT M A Inv (liftM m : StateT σ Sem α) Q st := by
  intro s hi
  show wpAny M A ((StateT.lift m : StateT σ Sem α).run st) _ _ s
  rw [StateT.run_lift]
  exact wpAny_bind (wpAny_mono (h s hi) (fun a s' h' => wpAny_pure h') fun _ _ e => e)
theorem wpT_rule {tag : String} {Q : Unit → σ → Prop} {st : σ} (h : Q () st) : wpT M A Inv (liftM (rule tag) : StateT σ Sem Unit) Q st :=
  wpT_lift fun s hi => wpAny_rule ⟨h, hi⟩
theorem wpT_forIn_list {β : Type} (f : Nat → β → StateT σ Sem (ForInStep β)) (I : List Nat → β → σ → Prop) (Q : β → σ → Prop)
    (hstep : ∀ x rest b st, I (x :: rest) b st → wpT M A Inv (f x b) (fun r st' => match r with | .done b' => Q b' st' | .yield b' => I rest b' st') st)
    (hend : ∀ b st, I [] b st → Q b st) : ∀ (l : List Nat) (b : β) (st : σ), I l b st → wpT M A Inv (forIn l b f) Q st
  | [], b, st, h => by rw [List.forIn_nil]; exact wpT_pure (hend _ _ h)
  | x :: rest, b, st, h => by
    rw [List.forIn_cons]
    refine wpT_bind (wpT_mono (hstep x rest b st h) fun r st' h' => ?_)
    cases r with
    | done b' => exact wpT_pure h'
    | yield b' => exact wpT_forIn_list f I Q hstep hend rest b' st' h'
theorem wpT_for {β : Type} {a b : Nat} {f : Nat → β → StateT σ Sem (ForInStep β)} (I : Nat → β → σ → Prop) {Q : β → σ → Prop}
    (hstep : ∀ i c st, a ≤ i → i < b → I i c st → wpT M A Inv (f i c) (fun r st' => match r with | .done c' => Q c' st' | .yield c' => I (i + 1) c' st') st)
    (hend : ∀ c st, I (max a b) c st → Q c st) {c : β} {st : σ} (h : I a c st) : wpT M A Inv (forIn [a:b] c f) Q st := by
  rw [Std.Legacy.Range.forIn_eq_forIn_range']
  have hsz : ([a:b] : Std.Legacy.Range).size = b - a := by simp [Std.Legacy.Range.size]
  show wpT M A Inv (forIn (List.range' a ([a:b] : Std.Legacy.Range).size 1) c f) Q st
  rw [hsz]
  refine wpT_forIn_list f (fun l c st => ∃ i, a ≤ i ∧ i ≤ max a b ∧ l = List.range' i (max a b - i) 1 ∧ I i c st) Q ?_ ?_ _ c st ⟨a, Nat.le_refl _, by omega, by congr 1; omega, h⟩
  · rintro x rest c st ⟨i, hai, hib, hl, hI⟩
    have hlt : i < max a b := by
      rcases Nat.lt_or_ge i (max a b) with h' | h'
      · exact h'
      · rw [show max a b - i = 0 by omega] at hl; simp at hl
    obtain ⟨n, hn⟩ : ∃ n, max a b - i = n + 1 := ⟨max a b - i - 1, by omega⟩
    rw [hn, List.range'_succ] at hl
    obtain ⟨rfl, rfl⟩ := List.cons.inj hl
    refine wpT_mono (hstep x c st hai (by omega) hI) fun r st' h' => ?_
    cases r with
    | done c' => exact h'
    | yield c' => exact ⟨x + 1, by omega, by omega, by congr 1; omega, h'⟩
  · rintro c st ⟨i, hai, hib, hl, hI⟩
    have : i = max a b := by
      rcases Nat.lt_or_ge i (max a b) with h' | h'
      · obtain ⟨n, hn⟩ : ∃ n, max a b - i = n + 1 := ⟨max a b - i - 1, by omega⟩
        rw [hn, List.range'_succ] at hl; simp at hl
      · omega
    subst this; exact hend _ _ hI
end

/-- the rank of the item at i -/
def rkAt (rk : Keyed → Int) (xs : Array Keyed) (i : Nat) : Int := match xs[i]? with
  | some p => rk p
  | none => 0
theorem rkAt_congr {rk : Keyed → Int} {xs ys : Array Keyed} {i j : Nat} (h : xs[i]? = ys[j]?) : rkAt rk xs i = rkAt rk ys j := by unfold rkAt; rw [h]
def Inc (rk : Keyed → Int) (xs : Array Keyed) (lo hi : Nat) : Prop := ∀ i j, lo ≤ i → i < j → j < hi → rkAt rk xs i < rkAt rk xs j

/-- what a comparison of two keys gives -/
structure Cmp (M : Model) (A : Around) (Inv : Shared → Prop) (κ : SortKind) (P : Keyed → Prop) (rk : Keyed → Int) : Prop where
  lt : ∀ x y s, P x → P y → Inv s → wpAny M A (keyLt' κ x.1 y.1) (fun b s' => b = decide (rk x < rk y) ∧ Inv s') (fun _ _ => False) s
/-- the items: each bears P, no two are of one rank -/
structure Its (P : Keyed → Prop) (rk : Keyed → Int) (a₀ : Array Keyed) : Prop where
  all : ∀ x, x ∈ a₀.toList → P x
  nd : (a₀.toList.map rk).Nodup
structure SB (κ : SortKind) (a₀ : Array Keyed) (st : SortSt) : Prop where
  perm : (arrOf st).Perm a₀
  kind : kindOf st = κ
  failed : failedOf st = none
section
variable {M : Model} {A : Around} {Inv : Shared → Prop} {κ : SortKind} {P : Keyed → Prop} {rk : Keyed → Int} {a₀ : Array Keyed}
theorem Its.perm {a : Array Keyed} (h : Its P rk a₀) (p : a.Perm a₀) : Its P rk a := by
  have p' := Array.perm_iff_toList_perm.mp p
  exact ⟨fun x hx => h.all x (p'.mem_iff.mp hx), (p'.map rk).nodup_iff.mpr h.nd⟩
theorem Its.get {a : Array Keyed} (h : Its P rk a) {i : Nat} (hi : i < a.size) : ∃ x, a[i]? = some x ∧ P x ∧ rkAt rk a i = rk x := by
  refine ⟨a[i], getElem?_pos a i hi, h.all _ (by simp), ?_⟩
  unfold rkAt
  rw [getElem?_pos a i hi]
theorem Its.ne {a : Array Keyed} (h : Its P rk a) {i j : Nat} (hi : i < a.size) (hj : j < a.size) (hij : i ≠ j) : rkAt rk a i ≠ rkAt rk a j := by
  have key : ∀ i j, i < j → j < a.size → rkAt rk a i ≠ rkAt rk a j := by
    intro i j hij hj
    have q := List.pairwise_iff_getElem.mp h.nd i j (by simp; omega) (by simp; omega) hij
    have ei : rkAt rk a i = rk a[i] := by unfold rkAt; rw [getElem?_pos a i (by omega)]
    have ej : rkAt rk a j = rk a[j] := by unfold rkAt; rw [getElem?_pos a j hj]
    rw [ei, ej]
    simpa using q
  rcases Nat.lt_or_ge i j with h' | h'
  · exact key i j h' hj
  · exact (key j i (by omega) hi).symm
theorem SB.size {st : SortSt} (h : SB κ a₀ st) : (arrOf st).size = a₀.size := h.perm.size_eq
theorem SB.setArr {st : SortSt} (h : SB κ a₀ st) {xs : Array Keyed} (hp : xs.Perm (arrOf st)) : SB κ a₀ (setArr st xs) := ⟨hp.trans h.perm, h.kind, h.failed⟩

theorem wpT_lt {st : SortSt} {x y : Keyed} {Q : Option Bool → SortSt → Prop} (C : Cmp M A Inv κ P rk) (hk : kindOf st = κ) (hx : P x) (hy : P y) (h : Q (some (decide (rk x < rk y))) st) :
    wpT M A Inv (lt' x y) Q st := by
  rw [lt'_eq]
  refine wpT_bind (wpT_get ?_)
  rw [hk]
  refine wpT_bind (wpT_lift fun s hi => wpAny_attempt (wpAny_mono (C.lt x y s hx hy hi) (fun b s' q => ?_) fun _ _ e => e.elim))
  obtain ⟨rfl, hi'⟩ := q
  exact ⟨wpT_pure h, hi'⟩
theorem wpT_elem {st : SortSt} {arr : Array Keyed} {i : Nat} {x : Keyed} {Q : Keyed → SortSt → Prop} (e : arr[i]? = some x) (h : Q x st) : wpT M A Inv (elem' arr i) Q st := by
  rw [elem'_eq, e]; exact wpT_pure h
theorem wpT_ltAt {st : SortSt} {i j : Nat} {Q : Option Bool → SortSt → Prop} (C : Cmp M A Inv κ P rk) (I : Its P rk a₀) (B : SB κ a₀ st) (hi : i < a₀.size) (hj : j < a₀.size)
    (h : Q (some (decide (rkAt rk (arrOf st) i < rkAt rk (arrOf st) j))) st) : wpT M A Inv (ltAt' i j) Q st := by
  obtain ⟨x, ex, px, rx⟩ := (I.perm B.perm).get (i := i) (by rw [B.size]; exact hi)
  obtain ⟨y, ey, py, ry⟩ := (I.perm B.perm).get (i := j) (by rw [B.size]; exact hj)
  rw [ltAt'_eq]
  refine wpT_bind (wpT_get ?_)
  refine wpT_bind (wpT_elem ex (wpT_bind (wpT_elem ey (wpT_lt C B.kind px py ?_))))
  rw [← rx, ← ry]; exact h
end
end Mine
end
section
open PySem PySem.W PyProof.Rows PySem.Calls PySem.Spec
set_option Elab.async false
set_option maxRecDepth 100000
set_option maxHeartbeats 4000000
set_option linter.unusedVariables false
set_option rowWalk.seconds 0
namespace Mine
theorem start_S1 : True := by w_top off; trivial
section
variable {M : Model} {A : Around} {Inv : Shared → Prop} {κ : SortKind} {P : Keyed → Prop} {rk : Keyed → Int} {a₀ : Array Keyed}
theorem rkAt_mirror {xs : Array Keyed} {i j : Nat} (hj : j ≤ xs.size) (k : Nat) :
    rkAt rk (mirror xs i j ((j - i) / 2)) k = if i ≤ k ∧ k < j then rkAt rk xs (i + j - 1 - k) else rkAt rk xs k := by
  have e := getElem?_mirror_all (i := i) hj k
  by_cases h1 : i ≤ k ∧ k < j
  · rw [if_pos h1] at e ⊢; exact rkAt_congr e
  · rw [if_neg h1] at e ⊢; exact rkAt_congr e
theorem rkAt_bubble {xs : Array Keyed} {src d : Nat} (hs : src < xs.size) (hd : d ≤ src) (k : Nat) :
    rkAt rk (bubble xs src d) k = if k = src - d then rkAt rk xs src else if src - d < k ∧ k ≤ src then rkAt rk xs (k - 1) else rkAt rk xs k := by
  have e := getElem?_bubble hs d hd k
  by_cases h1 : k = src - d
  · rw [if_pos h1] at e ⊢; exact rkAt_congr e
  · rw [if_neg h1] at e ⊢
    by_cases h2 : src - d < k ∧ k ≤ src
    · rw [if_pos h2] at e ⊢; exact rkAt_congr e
    · rw [if_neg h2] at e ⊢; exact rkAt_congr e
theorem Inc.step {xs : Array Keyed} {lo hi : Nat} (h : Inc rk xs lo hi) (hlt : hi = lo ∨ rkAt rk xs (hi - 1) < rkAt rk xs hi) : Inc rk xs lo (hi + 1) := by
  intro i j h1 h2 h3
  rcases Nat.lt_or_ge j hi with h4 | h4
  · exact h i j h1 h2 h4
  · have : j = hi := by omega
    subst this
    rcases hlt with e | e
    · omega
    · rcases Nat.lt_or_ge i (j - 1) with h5 | h5
      · exact Int.lt_trans (h i (j - 1) h1 h5 (by omega)) e
      · have : i = j - 1 := by omega
        subst this; exact e

theorem wpT_countRun {st : SortSt} {lo nrem : Nat} {Q : Option Nat → SortSt → Prop} (C : Cmp M A Inv κ P rk) (I : Its P rk a₀) (B : SB κ a₀ st) (hn : 1 ≤ nrem) (hsz : lo + nrem ≤ a₀.size)
    (h : ∀ n st', 1 ≤ n → n ≤ nrem → SB κ a₀ st' → pendingOf st' = pendingOf st → (∀ k, (k < lo ∨ lo + n ≤ k) → (arrOf st')[k]? = (arrOf st)[k]?) → Inc rk (arrOf st') lo (lo + n) → Q (some n) st') :
    wpT M A Inv (countRun' lo nrem) Q st := by
  rw [countRun'_eq]
  have hd : ∀ i j, i < a₀.size → j < a₀.size → i ≠ j → rkAt rk (arrOf st) i ≠ rkAt rk (arrOf st) j := fun i j hi hj => (I.perm B.perm).ne (by rw [B.size]; exact hi) (by rw [B.size]; exact hj)
  refine wpT_bind (wpT_mono (wpT_for (I := fun x c st' => st' = st ∧ c = (none, x) ∧ 1 ≤ x ∧ x ≤ nrem ∧ Inc rk (arrOf st) lo (lo + x))
    (Q := fun c st' => st' = st ∧ ∃ n, c = (none, n) ∧ 1 ≤ n ∧ n ≤ nrem ∧ Inc rk (arrOf st) lo (lo + n) ∧ (n < nrem → rkAt rk (arrOf st) (lo + n) < rkAt rk (arrOf st) (lo + n - 1))) ?s1 ?e1 ?i1) ?p1)
  case i1 => exact ⟨rfl, rfl, Nat.le_refl _, hn, fun i j h1 h2 h3 => by omega⟩
  case e1 =>
    rintro c st' ⟨rfl, rfl, h1, h2, h3⟩
    exact ⟨rfl, _, rfl, h1, h2, h3, fun hlt => by omega⟩
  case s1 =>
    rintro x c st' hx1 hx2 ⟨rfl, rfl, h1, h2, h3⟩
    refine wpT_bind (wpT_ltAt C I B (by omega) (by omega) ?_)
    by_cases hs : rkAt rk (arrOf st') (lo + x) < rkAt rk (arrOf st') (lo + x - 1)
    · simp only [hs, decide_true, if_true]
      exact wpT_pure ⟨rfl, x, rfl, h1, h2, h3, fun _ => hs⟩
    · simp only [hs, decide_false, if_false, Bool.false_eq_true]
      have hne := hd (lo + x - 1) (lo + x) (by omega) (by omega) (by omega)
      exact wpT_pure ⟨rfl, rfl, by omega, by omega, h3.step (.inr (by omega))⟩
  case p1 =>
    rintro c st' ⟨rfl, n, rfl, h1, h2, h3, h4⟩
    dsimp only
    by_cases e1 : n = nrem
    · rw [if_pos (by simpa using e1)]
      exact wpT_pure (h n st' h1 h2 B rfl (fun _ _ => rfl) h3)
    · rw [if_neg (by simpa using e1)]
      by_cases e2 : n > 1
      · rw [if_pos e2]
        refine wpT_bind (wpT_ltAt C I B (by omega) (by omega) ?_)
        have hlt : rkAt rk (arrOf st') lo < rkAt rk (arrOf st') (lo + n - 1) := h3 lo (lo + n - 1) (Nat.le_refl _) (by omega) (by omega)
        simp only [hlt, decide_true, if_true]
        exact wpT_pure (h n st' h1 h2 B rfl (fun _ _ => rfl) h3)
      · rw [if_neg e2]
        have hn1 : n = 1 := by omega
        subst hn1
        have hfirst := h4 (by omega)
        refine wpT_bind (wpT_rule ?_)
        refine wpT_bind (wpT_mono (wpT_for (I := fun x c st2 => st2 = st' ∧ c = (none, x, 0) ∧ 2 ≤ x ∧ x ≤ nrem ∧ (∀ i j, lo ≤ i → i < j → j < lo + x → rkAt rk (arrOf st') j < rkAt rk (arrOf st') i))
          (Q := fun c st2 => st2 = st' ∧ ∃ n, c = (none, n, 0) ∧ 2 ≤ n ∧ n ≤ nrem ∧ (∀ i j, lo ≤ i → i < j → j < lo + n → rkAt rk (arrOf st') j < rkAt rk (arrOf st') i)) ?s2 ?e2 ?i2) ?p2)
        case i2 =>
          refine ⟨rfl, rfl, by omega, by omega, fun i j a b c => ?_⟩
          have : i = lo := by omega
          have : j = lo + 1 := by omega
          subst_vars
          simpa using hfirst
        case e2 =>
          rintro c st2 ⟨rfl, rfl, a1, a2, a3⟩
          exact ⟨rfl, _, rfl, a1, a2, a3⟩
        case s2 =>
          rintro x c st2 hx1 hx2 ⟨rfl, rfl, a1, a2, a3⟩
          dsimp only
          refine wpT_bind (wpT_ltAt C I B (by omega) (by omega) ?_)
          by_cases hs : rkAt rk (arrOf st2) (lo + x) < rkAt rk (arrOf st2) (lo + x - 1)
          · simp only [hs, decide_true, if_true, Nat.lt_irrefl, if_false, gt_iff_lt]
            refine wpT_pure ⟨rfl, rfl, by omega, by omega, fun i j b1 b2 b3 => ?_⟩
            rcases Nat.lt_or_ge j (lo + x) with b4 | b4
            · exact a3 i j b1 b2 b4
            · have : j = lo + x := by omega
              subst this
              rcases Nat.lt_or_ge i (lo + x - 1) with b5 | b5
              · exact Int.lt_trans hs (a3 i (lo + x - 1) b1 b5 (by omega))
              · have : i = lo + x - 1 := by omega
                subst this; exact hs
          · simp only [hs, decide_false, if_false, Bool.false_eq_true]
            refine wpT_bind (wpT_ltAt C I B (by omega) (by omega) ?_)
            have hne := hd (lo + x - 1) (lo + x) (by omega) (by omega) (by omega)
            have hl : rkAt rk (arrOf st2) (lo + x - 1) < rkAt rk (arrOf st2) (lo + x) := by omega
            simp only [hl, decide_true, if_true]
            exact wpT_pure ⟨rfl, x, rfl, a1, a2, a3⟩
        case p2 =>
          rintro c st2 ⟨rfl, n, rfl, a1, a2, a3⟩
          dsimp only
          rw [if_neg (by omega)]
          rw [reverseSlice'_eq]
          refine wpT_bind (wpT_modify ?_)
          have hm : (mirror (arrOf st2) lo (lo + n) ((lo + n - lo) / 2)).Perm (arrOf st2) := mirror_perm _ _ _ _
          have B2 := B.setArr hm
          have hsz2 : lo + n ≤ (arrOf st2).size := by rw [B.size]; omega
          have hinc : Inc rk (mirror (arrOf st2) lo (lo + n) ((lo + n - lo) / 2)) lo (lo + n) := by
            intro i j b1 b2 b3
            rw [rkAt_mirror hsz2, rkAt_mirror hsz2, if_pos ⟨b1, by omega⟩, if_pos ⟨by omega, b3⟩]
            exact a3 _ _ (by omega) (by omega) (by omega)
          have hout : ∀ k, (k < lo ∨ lo + n ≤ k) → (mirror (arrOf st2) lo (lo + n) ((lo + n - lo) / 2))[k]? = (arrOf st2)[k]? := by
            intro k hk
            rw [getElem?_mirror_all hsz2, if_neg (by omega)]
          have hd2 : ∀ i j, i < a₀.size → j < a₀.size → i ≠ j → rkAt rk (mirror (arrOf st2) lo (lo + n) ((lo + n - lo) / 2)) i ≠ rkAt rk (mirror (arrOf st2) lo (lo + n) ((lo + n - lo) / 2)) j :=
            fun i j hi hj => (I.perm (hm.trans B.perm)).ne (by rw [mirror_size, B.size]; exact hi) (by rw [mirror_size, B.size]; exact hj)
          generalize hxs : mirror (arrOf st2) lo (lo + n) ((lo + n - lo) / 2) = xs at *
          refine wpT_bind (wpT_mono (wpT_for (I := fun x c st3 => st3 = setArr st2 xs ∧ c = (none, x) ∧ n ≤ x ∧ x ≤ nrem ∧ Inc rk xs lo (lo + x))
            (Q := fun c st3 => st3 = setArr st2 xs ∧ ∃ n', c = (none, n') ∧ n ≤ n' ∧ n' ≤ nrem ∧ Inc rk xs lo (lo + n')) ?s3 ?e3 ?i3) ?p3)
          case i3 => exact ⟨rfl, rfl, Nat.le_refl _, a2, hinc⟩
          case e3 =>
            rintro c st3 ⟨rfl, rfl, b1, b2, b3⟩
            exact ⟨rfl, _, rfl, b1, b2, b3⟩
          case s3 =>
            rintro x c st3 hx1 hx2 ⟨rfl, rfl, b1, b2, b3⟩
            refine wpT_bind (wpT_ltAt C I B2 (by omega) (by omega) ?_)
            by_cases hs : rkAt rk xs (lo + x) < rkAt rk xs (lo + x - 1)
            · simp only [hs, decide_true, if_true]
              exact wpT_pure ⟨rfl, x, rfl, b1, b2, b3⟩
            · simp only [hs, decide_false, if_false, Bool.false_eq_true]
              have hne := hd2 (lo + x - 1) (lo + x) (by omega) (by omega) (by omega)
              exact wpT_pure ⟨rfl, rfl, by omega, by omega, b3.step (.inr (by omega))⟩
          case p3 =>
            rintro c st3 ⟨rfl, n', rfl, b1, b2, b3⟩
            dsimp only
            exact wpT_pure (h n' _ (by omega) b2 B2 rfl (fun k hk => hout k (by omega)) b3)
end
end Mine
end
section
open PySem PySem.W PyProof.Rows PySem.Calls PySem.Spec
set_option Elab.async false
set_option maxRecDepth 100000
set_option maxHeartbeats 4000000
set_option linter.unusedVariables false
set_option rowWalk.seconds 0
namespace Mine
theorem start_S2 : True := by w_top off; trivial
section
variable {M : Model} {A : Around} {Inv : Shared → Prop} {κ : SortKind} {P : Keyed → Prop} {rk : Keyed → Int} {a₀ : Array Keyed}
theorem wpT_binarySort {st : SortSt} {lo n ok : Nat} {Q : Bool → SortSt → Prop} (C : Cmp M A Inv κ P rk) (I : Its P rk a₀) (B : SB κ a₀ st) (hok : ok ≤ n) (hsz : lo + n ≤ a₀.size) (hs : Inc rk (arrOf st) lo (lo + ok))
    (h : ∀ st', SB κ a₀ st' → pendingOf st' = pendingOf st → (∀ k, (k < lo ∨ lo + n ≤ k) → (arrOf st')[k]? = (arrOf st)[k]?) → Inc rk (arrOf st') lo (lo + n) → Q true st') :
    wpT M A Inv (binarySort' lo n ok) Q st := by
  rw [binarySort'_eq]
  refine wpT_bind (wpT_mono (wpT_for (I := fun k c st' => c = (none, ()) ∧ SB κ a₀ st' ∧ pendingOf st' = pendingOf st ∧ (∀ i, (i < lo ∨ lo + n ≤ i) → (arrOf st')[i]? = (arrOf st)[i]?) ∧ Inc rk (arrOf st') lo (lo + min k n))
    (Q := fun c st' => c = (none, ()) ∧ SB κ a₀ st' ∧ pendingOf st' = pendingOf st ∧ (∀ i, (i < lo ∨ lo + n ≤ i) → (arrOf st')[i]? = (arrOf st)[i]?) ∧ Inc rk (arrOf st') lo (lo + n)) ?step ?fin ?init) ?post)
  case post =>
    rintro c st' ⟨rfl, B', hp, ho, hi⟩
    exact wpT_pure (h st' B' hp ho hi)
  case init =>
    refine ⟨rfl, B, rfl, fun _ _ => rfl, fun i j h1 h2 h3 => ?_⟩
    by_cases h4 : ok = 0
    · omega
    · exact hs i j h1 h2 (by omega)
  case fin =>
    rintro c st' ⟨hc, B', hp, ho, hi⟩
    refine ⟨hc, B', hp, ho, ?_⟩
    rwa [show min (max (max ok 1) n) n = n by omega] at hi
  case step =>
    rintro k c st' hak hkn ⟨rfl, B', hp, ho, hi⟩
    rw [show min k n = k by omega] at hi
    have hd : ∀ i j, i < a₀.size → j < a₀.size → i ≠ j → rkAt rk (arrOf st') i ≠ rkAt rk (arrOf st') j := fun i j hi hj => (I.perm B'.perm).ne (by rw [B'.size]; exact hi) (by rw [B'.size]; exact hj)
    refine wpT_bind (wpT_mono (wpT_for (I := fun x c st2 => st2 = st' ∧ ∃ l r, c = (none, l, r) ∧ l ≤ r ∧ r ≤ k ∧ r - l ≤ k - x ∧
        (∀ i, i < l → rkAt rk (arrOf st') (lo + i) < rkAt rk (arrOf st') (lo + k)) ∧ (∀ i, r ≤ i → i < k → rkAt rk (arrOf st') (lo + k) < rkAt rk (arrOf st') (lo + i)))
      (Q := fun c st2 => st2 = st' ∧ ∃ l r, c = (none, l, r) ∧ l ≤ k ∧
        (∀ i, i < l → rkAt rk (arrOf st') (lo + i) < rkAt rk (arrOf st') (lo + k)) ∧ (∀ i, l ≤ i → i < k → rkAt rk (arrOf st') (lo + k) < rkAt rk (arrOf st') (lo + i))) ?istep ?ifin ?iinit) ?ipost)
    case iinit => exact ⟨rfl, 0, k, rfl, by omega, by omega, by omega, fun i hi => by omega, fun i h1 h2 => by omega⟩
    case ifin =>
      rintro c st2 ⟨rfl, l, r, rfl, hlr, hrk, hm, hlo, hhi⟩
      have : l = r := by omega
      subst this
      exact ⟨rfl, l, l, rfl, hrk, hlo, hhi⟩
    case istep =>
      rintro x c st2 _ hxk ⟨rfl, l, r, rfl, hlr, hrk, hm, hlo, hhi⟩
      dsimp only
      by_cases hge : l ≥ r
      · rw [if_pos hge]
        have : l = r := by omega
        subst this
        exact wpT_pure ⟨rfl, l, l, rfl, hrk, hlo, hhi⟩
      · rw [if_neg hge]
        refine wpT_bind (wpT_ltAt C I B' (by omega) (by omega) ?_)
        by_cases hless : rkAt rk (arrOf st2) (lo + k) < rkAt rk (arrOf st2) (lo + (l + r) / 2)
        · simp only [hless, decide_true, if_true]
          refine wpT_pure ⟨rfl, l, (l + r) / 2, rfl, by omega, by omega, by omega, hlo, fun i h1 h2 => ?_⟩
          rcases Nat.lt_or_ge ((l + r) / 2) i with h3 | h3
          · exact Int.lt_trans hless (hi _ _ (by omega) (by omega) (by omega))
          · have : i = (l + r) / 2 := by omega
            subst this; exact hless
        · simp only [hless, decide_false, Bool.false_eq_true, if_false]
          have hne := hd (lo + k) (lo + (l + r) / 2) (by omega) (by omega) (by omega)
          refine wpT_pure ⟨rfl, (l + r) / 2 + 1, r, rfl, by omega, by omega, by omega, fun i h1 => ?_, hhi⟩
          rcases Nat.lt_or_ge i ((l + r) / 2) with h3 | h3
          · exact Int.lt_trans (hi _ _ (by omega) (by omega) (by omega)) (show rkAt rk (arrOf st2) (lo + (l + r) / 2) < _ by omega)
          · have : i = (l + r) / 2 := by omega
            subst this; omega
    case ipost =>
      rintro c st2 ⟨rfl, l, r, rfl, hlk, hlo, hhi⟩
      show wpT _ _ _ (do moveDown' (lo + k) (lo + l); pure (ForInStep.yield (none, ()))) _ _
      rw [moveDown'_eq]
      have hks : lo + k < (arrOf st2).size := by rw [B'.size]; omega
      refine wpT_bind (wpT_modify (wpT_pure ⟨rfl, B'.setArr (bubble_perm _ _ _), hp, fun i hi' => ?_, ?_⟩))
      · show (bubble (arrOf st2) (lo + k) (lo + k - (lo + l)))[i]? = _
        rw [getElem?_bubble hks _ (by omega), if_neg (by omega), if_neg (by omega)]
        exact ho i hi'
      · rw [show min (k + 1) n = k + 1 by omega]
        intro i j h1 h2 h3
        show rkAt rk (bubble (arrOf st2) (lo + k) (lo + k - (lo + l))) i < rkAt rk (bubble (arrOf st2) (lo + k) (lo + k - (lo + l))) j
        have a1 : ∀ i, lo ≤ i → i < lo + l → rkAt rk (arrOf st2) i < rkAt rk (arrOf st2) (lo + k) := fun i b1 b2 => by
          have := hlo (i - lo) (by omega); rwa [show lo + (i - lo) = i by omega] at this
        have a2 : ∀ i, lo + l ≤ i → i < lo + k → rkAt rk (arrOf st2) (lo + k) < rkAt rk (arrOf st2) i := fun i b1 b2 => by
          have := hhi (i - lo) (by omega) (by omega); rwa [show lo + (i - lo) = i by omega] at this
        rw [rkAt_bubble hks (by omega), rkAt_bubble hks (by omega), show lo + k - (lo + k - (lo + l)) = lo + l by omega]
        repeat' split
        all_goals first
          | (exfalso; omega)
          | exact a1 _ (by omega) (by omega)
          | exact a2 _ (by omega) (by omega)
          | exact hi _ _ (by omega) (by omega) (by omega)
end
end Mine
end
section
open PySem PySem.W PyProof.Rows PySem.Calls PySem.Spec
set_option Elab.async false
set_option maxRecDepth 100000
set_option maxHeartbeats 4000000
set_option linter.unusedVariables false
set_option rowWalk.seconds 0
namespace Mine
theorem start_S3 : True := by w_top off; trivial
def gallop' : Bool → Keyed → Array Keyed → Nat → Nat → Nat → StateT SortSt Sem (Option Nat) := sortPriv% PySem.Builtin.gallop
theorem gallop'_eq (left : Bool) (key : Keyed) (arr : Array Keyed) (base n hint : Nat) : gallop' left key arr base n hint = (do
  let beyond (i : Nat) : StateT SortSt Sem (Option Bool) := do
    let x ← elem' arr (base + i)
    if left then lt' x key else return (← lt' key x).map (!·)
  let mut lastofs := 0
  let mut ofs := 1
  let mut lo := 0
  let mut hi := 0
  let some right ← beyond hint | return none
  if right then
    let maxofs := n - hint
    for _ in [0:n] do
      if ofs ≥ maxofs then break
      let some more ← beyond (hint + ofs) | return none
      if !more then break
      lastofs := ofs
      ofs := 2 * ofs + 1
    lo := hint + lastofs + 1
    hi := hint + min ofs maxofs
  else
    let maxofs := hint + 1
    for _ in [0:n] do
      if ofs ≥ maxofs then break
      let some found ← beyond (hint - ofs) | return none
      if found then break
      lastofs := ofs
      ofs := 2 * ofs + 1
    lo := hint + 1 - min ofs maxofs
    hi := hint - lastofs
  for _ in [0:n] do
    if lo ≥ hi then break
    let m := lo + (hi - lo) / 2
    let some more ← beyond m | return none
    if more then lo := m + 1 else hi := m
  return some hi) := rfl
section
variable {M : Model} {A : Around} {Inv : Shared → Prop} {κ : SortKind} {P : Keyed → Prop} {rk : Keyed → Int} {a₀ : Array Keyed}
theorem wpT_gallop {st : SortSt} {left : Bool} {key : Keyed} {arr : Array Keyed} {base n hint : Nat} {Q : Option Nat → SortSt → Prop} (C : Cmp M A Inv κ P rk) (hk : kindOf st = κ) (hkey : P key)
    (hP : ∀ i, i < n → ∃ x, arr[base + i]? = some x ∧ P x) (hinc : Inc rk arr base (base + n)) (hne : ∀ i, i < n → rkAt rk arr (base + i) ≠ rk key) (hh : hint < n)
    (h : ∀ k, k ≤ n → (∀ i, i < k → rkAt rk arr (base + i) < rk key) → (∀ i, k ≤ i → i < n → rk key < rkAt rk arr (base + i)) → Q (some k) st) :
    wpT M A Inv (gallop' left key arr base n hint) Q st := by
  have mono : ∀ i j, i ≤ j → j < n → rkAt rk arr (base + j) < rk key → rkAt rk arr (base + i) < rk key := by
    intro i j h1 h2 h3
    rcases Nat.lt_or_ge i j with h4 | h4
    · exact Int.lt_trans (hinc _ _ (by omega) (by omega) (by omega)) h3
    · have : i = j := by omega
      subst this; exact h3
  have bey : ∀ (i : Nat) (Q' : Option Bool → SortSt → Prop), i < n → Q' (some (decide (rkAt rk arr (base + i) < rk key))) st →
      wpT M A Inv (do let x ← elem' arr (base + i); if left = true then lt' x key else do let r ← lt' key x; pure (Option.map (fun x => !x) r)) Q' st := by
    intro i Q' hi hq
    obtain ⟨x, ex, px⟩ := hP i hi
    have ei : rkAt rk arr (base + i) = rk x := by unfold rkAt; rw [ex]
    refine wpT_bind (wpT_elem ex ?_)
    cases left with
    | true =>
      simp only [if_true]
      refine wpT_lt C hk px hkey ?_
      rw [← ei]; exact hq
    | false =>
      simp only [Bool.false_eq_true, if_false]
      refine wpT_bind (wpT_lt C hk hkey px (wpT_pure ?_))
      have hn := hne i hi
      have e : (!decide (rk key < rk x)) = decide (rkAt rk arr (base + i) < rk key) := by
        rw [ei] at hn ⊢
        by_cases h1 : rk key < rk x
        · simp [h1]; omega
        · simp [h1]; omega
      show Q' (some (!decide (rk key < rk x))) st
      rw [e]; exact hq
  rw [gallop'_eq]
  refine wpT_bind (bey hint _ hh ?_)
  by_cases hb0 : rkAt rk arr (base + hint) < rk key
  · simp only [hb0, decide_true, if_true]
    refine wpT_bind (wpT_mono (wpT_for (I := fun x c st' => st = st' ∧ ∃ lst ofs, c = (none, lst, ofs) ∧ lst < ofs ∧ x + 1 ≤ ofs ∧ lst < n - hint ∧ rkAt rk arr (base + (hint + lst)) < rk key)
      (Q := fun c st' => st = st' ∧ ∃ lst ofs, c = (none, lst, ofs) ∧ lst < ofs ∧ lst < n - hint ∧ rkAt rk arr (base + (hint + lst)) < rk key ∧ (ofs < n - hint → rk key < rkAt rk arr (base + (hint + ofs)))) ?s1 ?e1 ?i1) ?p1)
    case i1 => exact ⟨rfl, 0, 1, rfl, by omega, by omega, by omega, by simpa using hb0⟩
    case e1 =>
      rintro c st' ⟨rfl, l, o, rfl, b1, b2, b3, b4⟩
      exact ⟨rfl, l, o, rfl, b1, b3, b4, fun _ => by omega⟩
    case s1 =>
      rintro x c st' _ hx ⟨rfl, l, o, rfl, b1, b2, b3, b4⟩
      dsimp only
      by_cases hge : o ≥ n - hint
      · rw [if_pos hge]; exact wpT_pure ⟨rfl, l, o, rfl, b1, b3, b4, fun _ => by omega⟩
      · rw [if_neg hge]
        refine wpT_bind (bey (hint + o) _ (by omega) ?_)
        by_cases hb : rkAt rk arr (base + (hint + o)) < rk key
        · simp only [hb, decide_true, Bool.not_true, Bool.false_eq_true, if_false]
          exact wpT_pure ⟨rfl, o, 2 * o + 1, rfl, by omega, by omega, by omega, hb⟩
        · simp only [hb, decide_false, Bool.not_false, if_true]
          have hn := hne (hint + o) (by omega)
          exact wpT_pure ⟨rfl, l, o, rfl, b1, b3, b4, fun _ => by omega⟩
    case p1 =>
      rintro c st' ⟨rfl, l, o, rfl, b1, b3, b4, b5⟩
      dsimp only
      have f3 : ∀ i, i < hint + l + 1 → rkAt rk arr (base + i) < rk key := fun i hi => mono i (hint + l) (by omega) (by omega) b4
      have f4 : ∀ i, hint + min o (n - hint) ≤ i → i < n → rk key < rkAt rk arr (base + i) := by
        intro i c1 c2
        rcases Nat.lt_or_ge o (n - hint) with c3 | c3
        · have q := b5 c3
          rcases Nat.lt_or_ge (hint + o) i with c4 | c4
          · exact Int.lt_trans q (hinc _ _ (by omega) (by omega) (by omega))
          · have : i = hint + o := by omega
            subst this; exact q
        · omega
      have f1 : hint + l + 1 ≤ hint + min o (n - hint) := by omega
      have f2 : hint + min o (n - hint) ≤ n := by omega
      generalize hint + l + 1 = lo at f1 f3 ⊢
      generalize hint + min o (n - hint) = hi at f1 f2 f4 ⊢
      refine wpT_bind (wpT_mono (wpT_for (I := fun x c st' => st = st' ∧ ∃ l r, c = (none, l, r) ∧ l ≤ r ∧ r ≤ n ∧ r - l ≤ n - x ∧ (∀ i, i < l → rkAt rk arr (base + i) < rk key) ∧ (∀ i, r ≤ i → i < n → rk key < rkAt rk arr (base + i)))
        (Q := fun c st' => st = st' ∧ ∃ l r, c = (none, l, r) ∧ l = r ∧ r ≤ n ∧ (∀ i, i < l → rkAt rk arr (base + i) < rk key) ∧ (∀ i, r ≤ i → i < n → rk key < rkAt rk arr (base + i))) ?s9 ?e9 ?i9) ?p9)
      case i9 => exact ⟨rfl, lo, hi, rfl, f1, f2, by omega, f3, f4⟩
      case e9 =>
        rintro c st' ⟨rfl, l, r, rfl, b1, b2, b3, b4, b5⟩
        exact ⟨rfl, l, r, rfl, by omega, b2, b4, b5⟩
      case s9 =>
        rintro x c st' _ hx ⟨rfl, l, r, rfl, b1, b2, b3, b4, b5⟩
        dsimp only
        by_cases hge : l ≥ r
        · rw [if_pos hge]; exact wpT_pure ⟨rfl, l, r, rfl, by omega, b2, b4, b5⟩
        · rw [if_neg hge]
          refine wpT_bind (bey (l + (r - l) / 2) _ (by omega) ?_)
          by_cases hb : rkAt rk arr (base + (l + (r - l) / 2)) < rk key
          · simp only [hb, decide_true, if_true]
            refine wpT_pure ⟨rfl, _, _, rfl, by omega, by omega, by omega, fun i hi' => mono i _ (by omega) (by omega) hb, b5⟩
          · simp only [hb, decide_false, Bool.false_eq_true, if_false]
            have hn := hne (l + (r - l) / 2) (by omega)
            refine wpT_pure ⟨rfl, _, _, rfl, by omega, by omega, by omega, b4, fun i c1 c2 => ?_⟩
            rcases Nat.lt_or_ge (l + (r - l) / 2) i with c3 | c3
            · exact Int.lt_trans (show rk key < rkAt rk arr (base + (l + (r - l) / 2)) by omega) (hinc _ _ (by omega) (by omega) (by omega))
            · have : i = l + (r - l) / 2 := by omega
              subst this; omega
      case p9 =>
        rintro c st' ⟨rfl, l, r, rfl, rfl, b2, b4, b5⟩
        dsimp only
        exact wpT_pure (h l b2 b4 b5)
  · simp only [hb0, decide_false, Bool.false_eq_true, if_false]
    have hn0 := hne hint hh
    refine wpT_bind (wpT_mono (wpT_for (I := fun x c st' => st = st' ∧ ∃ lst ofs, c = (none, lst, ofs) ∧ lst < ofs ∧ x + 1 ≤ ofs ∧ lst < hint + 1 ∧ rk key < rkAt rk arr (base + (hint - lst)))
      (Q := fun c st' => st = st' ∧ ∃ lst ofs, c = (none, lst, ofs) ∧ lst < ofs ∧ lst < hint + 1 ∧ rk key < rkAt rk arr (base + (hint - lst)) ∧ (ofs < hint + 1 → rkAt rk arr (base + (hint - ofs)) < rk key)) ?s2 ?e2 ?i2) ?p2)
    case i2 => exact ⟨rfl, 0, 1, rfl, by omega, by omega, by omega, by simp; omega⟩
    case e2 =>
      rintro c st' ⟨rfl, l, o, rfl, b1, b2, b3, b4⟩
      exact ⟨rfl, l, o, rfl, b1, b3, b4, fun _ => by omega⟩
    case s2 =>
      rintro x c st' _ hx ⟨rfl, l, o, rfl, b1, b2, b3, b4⟩
      dsimp only
      by_cases hge : o ≥ hint + 1
      · rw [if_pos hge]; exact wpT_pure ⟨rfl, l, o, rfl, b1, b3, b4, fun _ => by omega⟩
      · rw [if_neg hge]
        refine wpT_bind (bey (hint - o) _ (by omega) ?_)
        by_cases hb : rkAt rk arr (base + (hint - o)) < rk key
        · simp only [hb, decide_true, if_true]
          exact wpT_pure ⟨rfl, l, o, rfl, b1, b3, b4, fun _ => hb⟩
        · simp only [hb, decide_false, Bool.false_eq_true, if_false]
          have hn := hne (hint - o) (by omega)
          exact wpT_pure ⟨rfl, o, 2 * o + 1, rfl, by omega, by omega, by omega, by omega⟩
    case p2 =>
      rintro c st' ⟨rfl, l, o, rfl, b1, b3, b4, b5⟩
      dsimp only
      have f3 : ∀ i, i < hint + 1 - min o (hint + 1) → rkAt rk arr (base + i) < rk key := by
        intro i hi
        rcases Nat.lt_or_ge o (hint + 1) with c3 | c3
        · exact mono i (hint - o) (by omega) (by omega) (b5 c3)
        · omega
      have f4 : ∀ i, hint - l ≤ i → i < n → rk key < rkAt rk arr (base + i) := by
        intro i c1 c2
        rcases Nat.lt_or_ge (hint - l) i with c4 | c4
        · exact Int.lt_trans b4 (hinc _ _ (by omega) (by omega) (by omega))
        · have : i = hint - l := by omega
          subst this; exact b4
      have f1 : hint + 1 - min o (hint + 1) ≤ hint - l := by omega
      have f2 : hint - l ≤ n := by omega
      generalize hint + 1 - min o (hint + 1) = lo at f1 f3 ⊢
      generalize hint - l = hi at f1 f2 f4 ⊢
      refine wpT_bind (wpT_mono (wpT_for (I := fun x c st' => st = st' ∧ ∃ l r, c = (none, l, r) ∧ l ≤ r ∧ r ≤ n ∧ r - l ≤ n - x ∧ (∀ i, i < l → rkAt rk arr (base + i) < rk key) ∧ (∀ i, r ≤ i → i < n → rk key < rkAt rk arr (base + i)))
        (Q := fun c st' => st = st' ∧ ∃ l r, c = (none, l, r) ∧ l = r ∧ r ≤ n ∧ (∀ i, i < l → rkAt rk arr (base + i) < rk key) ∧ (∀ i, r ≤ i → i < n → rk key < rkAt rk arr (base + i))) ?s9 ?e9 ?i9) ?p9)
      case i9 => exact ⟨rfl, lo, hi, rfl, f1, f2, by omega, f3, f4⟩
      case e9 =>
        rintro c st' ⟨rfl, l, r, rfl, b1, b2, b3, b4, b5⟩
        exact ⟨rfl, l, r, rfl, by omega, b2, b4, b5⟩
      case s9 =>
        rintro x c st' _ hx ⟨rfl, l, r, rfl, b1, b2, b3, b4, b5⟩
        dsimp only
        by_cases hge : l ≥ r
        · rw [if_pos hge]; exact wpT_pure ⟨rfl, l, r, rfl, by omega, b2, b4, b5⟩
        · rw [if_neg hge]
          refine wpT_bind (bey (l + (r - l) / 2) _ (by omega) ?_)
          by_cases hb : rkAt rk arr (base + (l + (r - l) / 2)) < rk key
          · simp only [hb, decide_true, if_true]
            refine wpT_pure ⟨rfl, _, _, rfl, by omega, by omega, by omega, fun i hi' => mono i _ (by omega) (by omega) hb, b5⟩
          · simp only [hb, decide_false, Bool.false_eq_true, if_false]
            have hn := hne (l + (r - l) / 2) (by omega)
            refine wpT_pure ⟨rfl, _, _, rfl, by omega, by omega, by omega, b4, fun i c1 c2 => ?_⟩
            rcases Nat.lt_or_ge (l + (r - l) / 2) i with c3 | c3
            · exact Int.lt_trans (show rk key < rkAt rk arr (base + (l + (r - l) / 2)) by omega) (hinc _ _ (by omega) (by omega) (by omega))
            · have : i = l + (r - l) / 2 := by omega
              subst this; omega
      case p9 =>
        rintro c st' ⟨rfl, l, r, rfl, rfl, b2, b4, b5⟩
        dsimp only
        exact wpT_pure (h l b2 b4 b5)
end
end Mine
end
section
open PySem PySem.W PyProof.Rows PySem.Calls PySem.Spec
set_option Elab.async false
set_option maxRecDepth 100000
set_option maxHeartbeats 4000000
set_option linter.unusedVariables false
set_option rowWalk.seconds 0
namespace Mine
theorem start_S4 : True := by w_top off; trivial
def mergeLo' : Array Keyed → Array Keyed → StateT SortSt Sem (Array Keyed) := sortPriv% PySem.Builtin.mergeLo
def mergeHi' : Array Keyed → Array Keyed → StateT SortSt Sem (Array Keyed) := sortPriv% PySem.Builtin.mergeHi
def setMg (g : Nat) (st : SortSt) : SortSt := SortSt.mk' (kindOf st) (arrOf st) (pendingOf st) g (failedOf st)
theorem mergeLo'_eq (a b : Array Keyed) : mergeLo' a b = (do
  rule "list.sort.merge-lo"
  let total := a.size + b.size
  let done (out : Array Keyed) (ia ib : Nat) := out ++ a.extract ia a.size ++ b.extract ib b.size
  let lastOfA (out : Array Keyed) (ia ib : Nat) := out ++ b.extract ib b.size ++ a.extract ia a.size
  let mut out : Array Keyed := #[← elem' b 0]
  let mut ia := 0
  let mut ib := 1
  if ib == b.size then return done out ia ib
  if ia + 1 == a.size then return lastOfA out ia ib
  let mut minGallop := gallopOf (← get)
  for _ in [0:total] do
    let mut acount := 0
    let mut bcount := 0
    for _ in [0:total] do
      let some bWins ← lt' (← elem' b ib) (← elem' a ia) | return done out ia ib
      if bWins then
        out := out.push (← elem' b ib); ib := ib + 1; bcount := bcount + 1; acount := 0
        if ib == b.size then return done out ia ib
        if bcount ≥ minGallop then break
      else
        out := out.push (← elem' a ia); ia := ia + 1; acount := acount + 1; bcount := 0
        if ia + 1 == a.size then return lastOfA out ia ib
        if acount ≥ minGallop then break
    rule "list.sort.gallop"
    minGallop := minGallop + 1
    for _ in [0:total] do
      if minGallop > 1 then minGallop := minGallop - 1
      modify (setMg minGallop)
      let some k ← gallop' false (← elem' b ib) a ia (a.size - ia) 0 | return done out ia ib
      acount := k
      if k > 0 then
        out := out ++ a.extract ia (ia + k); ia := ia + k
        if ia + 1 == a.size then return lastOfA out ia ib
        if ia == a.size then return done out ia ib
      out := out.push (← elem' b ib); ib := ib + 1
      if ib == b.size then return done out ia ib
      let some k ← gallop' true (← elem' a ia) b ib (b.size - ib) 0 | return done out ia ib
      bcount := k
      if k > 0 then
        out := out ++ b.extract ib (ib + k); ib := ib + k
        if ib == b.size then return done out ia ib
      out := out.push (← elem' a ia); ia := ia + 1
      if ia + 1 == a.size then return lastOfA out ia ib
      if acount < 7 && bcount < 7 then break
    minGallop := minGallop + 1
    modify (setMg minGallop)
  unsupported "internal:list.sort.merge-bound") := rfl
theorem mergeHi'_eq (a b : Array Keyed) : mergeHi' a b = (do
  rule "list.sort.merge-hi"
  let total := a.size + b.size
  let done (out : Array Keyed) (na nb : Nat) := a.extract 0 na ++ b.extract 0 nb ++ out.reverse
  let firstOfB (out : Array Keyed) (na nb : Nat) := b.extract 0 nb ++ a.extract 0 na ++ out.reverse
  let mut na := a.size - 1
  let mut nb := b.size
  let mut out : Array Keyed := #[← elem' a na]
  if na == 0 then return done out na nb
  if nb == 1 then return firstOfB out na nb
  let mut minGallop := gallopOf (← get)
  for _ in [0:total] do
    let mut acount := 0
    let mut bcount := 0
    for _ in [0:total] do
      let some aWins ← lt' (← elem' b (nb - 1)) (← elem' a (na - 1)) | return done out na nb
      if aWins then
        na := na - 1; out := out.push (← elem' a na); acount := acount + 1; bcount := 0
        if na == 0 then return done out na nb
        if acount ≥ minGallop then break
      else
        nb := nb - 1; out := out.push (← elem' b nb); bcount := bcount + 1; acount := 0
        if nb == 1 then return firstOfB out na nb
        if bcount ≥ minGallop then break
    rule "list.sort.gallop"
    minGallop := minGallop + 1
    for _ in [0:total] do
      if minGallop > 1 then minGallop := minGallop - 1
      modify (setMg minGallop)
      let some at_ ← gallop' false (← elem' b (nb - 1)) a 0 na (na - 1) | return done out na nb
      let k := na - at_
      acount := k
      if k > 0 then
        out := out ++ (a.extract at_ na).reverse; na := at_
        if na == 0 then return done out na nb
      nb := nb - 1; out := out.push (← elem' b nb)
      if nb == 1 then return firstOfB out na nb
      let some at_ ← gallop' true (← elem' a (na - 1)) b 0 nb (nb - 1) | return done out na nb
      let k := nb - at_
      bcount := k
      if k > 0 then
        out := out ++ (b.extract at_ nb).reverse; nb := at_
        if nb == 1 then return firstOfB out na nb
        if nb == 0 then return done out na nb
      na := na - 1; out := out.push (← elem' a na)
      if na == 0 then return done out na nb
      if acount < 7 && bcount < 7 then break
    minGallop := minGallop + 1
    modify (setMg minGallop)
  unsupported "internal:list.sort.merge-bound") := rfl
/-- the state, but for the gallop's number -/
structure Gs (st st' : SortSt) : Prop where
  arr : arrOf st' = arrOf st
  kind : kindOf st' = kindOf st
  pend : pendingOf st' = pendingOf st
  failed : failedOf st' = failedOf st
theorem Gs.refl (st : SortSt) : Gs st st := ⟨rfl, rfl, rfl, rfl⟩
theorem Gs.mg {st st' : SortSt} (h : Gs st st') (g : Nat) : Gs st (setMg g st') := ⟨h.arr, h.kind, h.pend, h.failed⟩
def Lt (rk : Keyed → Int) (x y : Keyed) : Prop := rk x < rk y
/-- a merge's answer -/
structure Good (rk : Keyed → Int) (a b r : Array Keyed) : Prop where
  perm : r.toList.Perm (a.toList ++ b.toList)
  inc : r.toList.Pairwise (Lt rk)
/-- what a merge is given -/
structure MPre (P : Keyed → Prop) (rk : Keyed → Int) (a b : Array Keyed) : Prop where
  pa : ∀ x, x ∈ a.toList → P x
  pb : ∀ x, x ∈ b.toList → P x
  ia : a.toList.Pairwise (Lt rk)
  ib : b.toList.Pairwise (Lt rk)
  na : 1 ≤ a.size
  nb : 1 ≤ b.size
  first : ∀ x y, b[0]? = some x → y ∈ a.toList → rk x < rk y
  last : ∀ x y, x ∈ b.toList → a[a.size - 1]? = some y → rk x < rk y
  ne : ∀ x y, x ∈ a.toList → y ∈ b.toList → rk x ≠ rk y
theorem drop_cons {a : Array Keyed} {i : Nat} {x : Keyed} (h : a[i]? = some x) : a.toList.drop i = x :: a.toList.drop (i + 1) := by
  rw [← Array.getElem?_toList] at h
  exact (List.drop_eq_getElem?_toList_append.trans (by rw [h]; rfl))
theorem mem_of_get {a : Array Keyed} {i : Nat} {x : Keyed} (h : a[i]? = some x) : x ∈ a.toList := by
  rw [← Array.getElem?_toList] at h
  exact List.mem_of_getElem? h
theorem get_of_lt {a : Array Keyed} {i : Nat} (h : i < a.size) : ∃ x, a[i]? = some x := ⟨a[i], getElem?_pos a i h⟩
theorem rkAt_get {rk : Keyed → Int} {a : Array Keyed} {i : Nat} {x : Keyed} (h : a[i]? = some x) : rkAt rk a i = rk x := by unfold rkAt; rw [h]
theorem inc_of {rk : Keyed → Int} {a : Array Keyed} {lo hi : Nat} (h : a.toList.Pairwise (Lt rk)) (hh : hi ≤ a.size) : Inc rk a lo hi := by
  intro i j _ hij hj
  obtain ⟨x, ex⟩ := get_of_lt (a := a) (i := i) (by omega)
  obtain ⟨y, ey⟩ := get_of_lt (a := a) (i := j) (by omega)
  rw [rkAt_get ex, rkAt_get ey]
  have := List.pairwise_iff_getElem.mp h i j (by simp; omega) (by simp; omega) hij
  rw [← Array.getElem?_toList] at ex ey
  rw [List.getElem?_eq_getElem (by simp; omega)] at ex ey
  rw [Option.some.inj ex, Option.some.inj ey] at this
  exact this
/-- lo-merge in progress -/
structure J (rk : Keyed → Int) (a b out : Array Keyed) (ia ib : Nat) : Prop where
  pa : (out.toList ++ a.toList.drop ia).Pairwise (Lt rk)
  pb : (out.toList ++ b.toList.drop ib).Pairwise (Lt rk)
  pm : (out.toList ++ (a.toList.drop ia ++ b.toList.drop ib)).Perm (a.toList ++ b.toList)
theorem J.a {rk : Keyed → Int} {a b out : Array Keyed} {ia ib k : Nat} (h : J rk a b out ia ib) (hl : ∀ x, x ∈ (a.toList.drop ia).take k → ∀ y, y ∈ b.toList.drop ib → rk x < rk y) :
    J rk a b (out ++ a.extract ia (ia + k)) (ia + k) ib := by
  have et : (out ++ a.extract ia (ia + k)).toList = out.toList ++ (a.toList.drop ia).take k := by
    rw [Array.toList_append, Array.toList_extract, List.extract_eq_take_drop, Nat.add_sub_cancel_left]
  have ed : (a.toList.drop ia).take k ++ a.toList.drop (ia + k) = a.toList.drop ia := by rw [← List.drop_drop, List.take_append_drop]
  have p1 : (out.toList ++ ((a.toList.drop ia).take k ++ a.toList.drop (ia + k))).Pairwise (Lt rk) := by rw [ed]; exact h.pa
  refine ⟨?_, ?_, ?_⟩
  · rw [et, List.append_assoc]; exact p1
  · rw [et]
    rw [← List.append_assoc] at p1
    refine List.pairwise_append.mpr ⟨(List.pairwise_append.mp p1).1, (List.pairwise_append.mp h.pb).2.1, fun x hx y hy => ?_⟩
    rcases List.mem_append.mp hx with q | q
    · exact (List.pairwise_append.mp h.pb).2.2 x q y hy
    · exact hl x q y hy
  · rw [et, List.append_assoc, ← List.append_assoc ((a.toList.drop ia).take k), ed]; exact h.pm
theorem J.b {rk : Keyed → Int} {a b out : Array Keyed} {ia ib k : Nat} (h : J rk a b out ia ib) (hl : ∀ x, x ∈ (b.toList.drop ib).take k → ∀ y, y ∈ a.toList.drop ia → rk x < rk y) :
    J rk a b (out ++ b.extract ib (ib + k)) ia (ib + k) := by
  have et : (out ++ b.extract ib (ib + k)).toList = out.toList ++ (b.toList.drop ib).take k := by
    rw [Array.toList_append, Array.toList_extract, List.extract_eq_take_drop, Nat.add_sub_cancel_left]
  have ed : (b.toList.drop ib).take k ++ b.toList.drop (ib + k) = b.toList.drop ib := by rw [← List.drop_drop, List.take_append_drop]
  have p1 : (out.toList ++ ((b.toList.drop ib).take k ++ b.toList.drop (ib + k))).Pairwise (Lt rk) := by rw [ed]; exact h.pb
  refine ⟨?_, ?_, ?_⟩
  · rw [et]
    rw [← List.append_assoc] at p1
    refine List.pairwise_append.mpr ⟨(List.pairwise_append.mp p1).1, (List.pairwise_append.mp h.pa).2.1, fun x hx y hy => ?_⟩
    rcases List.mem_append.mp hx with q | q
    · exact (List.pairwise_append.mp h.pa).2.2 x q y hy
    · exact hl x q y hy
  · rw [et, List.append_assoc]; exact p1
  · rw [et, List.append_assoc]
    refine List.Perm.trans (List.Perm.append_left _ ?_) h.pm
    rw [← List.append_assoc]
    refine List.Perm.trans (List.Perm.append_right _ List.perm_append_comm) ?_
    rw [List.append_assoc, ed]
theorem pw_drop {rk : Keyed → Int} {o : List Keyed} {b : Array Keyed} {i : Nat} {y : Keyed} (h : (o ++ b.toList.drop i).Pairwise (Lt rk)) (e : b[i]? = some y) : ∀ z, z ∈ b.toList.drop i → rk y ≤ rk z := by
  intro z hz
  have := (List.pairwise_append.mp h).2.1
  rw [drop_cons e] at hz this
  rcases List.mem_cons.mp hz with q | q
  · subst q; exact Int.le_refl _
  · exact Int.le_of_lt ((List.pairwise_cons.mp this).1 z q)
theorem take_drop_lt {rk : Keyed → Int} {a : Array Keyed} {ia k : Nat} {r : Int} (h : ∀ i, i < k → rkAt rk a (ia + i) < r) : ∀ x, x ∈ (a.toList.drop ia).take k → rk x < r := by
  intro x hx
  obtain ⟨i, hi⟩ := List.mem_iff_getElem?.mp hx
  rw [List.getElem?_take] at hi
  split at hi
  · rw [List.getElem?_drop, Array.getElem?_toList] at hi
    have := h i (by assumption)
    rwa [rkAt_get hi] at this
  · cases hi
theorem J.aG {rk : Keyed → Int} {a b out : Array Keyed} {ia ib k : Nat} {y : Keyed} (h : J rk a b out ia ib) (e : b[ib]? = some y) (hl : ∀ i, i < k → rkAt rk a (ia + i) < rk y) :
    J rk a b (out ++ a.extract ia (ia + k)) (ia + k) ib :=
  h.a fun x hx z hz => Int.lt_of_lt_of_le (take_drop_lt hl x hx) (pw_drop h.pb e z hz)
theorem J.bG {rk : Keyed → Int} {a b out : Array Keyed} {ia ib k : Nat} {y : Keyed} (h : J rk a b out ia ib) (e : a[ia]? = some y) (hl : ∀ i, i < k → rkAt rk b (ib + i) < rk y) :
    J rk a b (out ++ b.extract ib (ib + k)) ia (ib + k) :=
  h.b fun x hx z hz => Int.lt_of_lt_of_le (take_drop_lt hl x hx) (pw_drop h.pa e z hz)
theorem push_ext {a out : Array Keyed} {i : Nat} {x : Keyed} (e : a[i]? = some x) : out ++ a.extract i (i + 1) = out.push x := by
  apply Array.toList_inj.mp
  rw [Array.toList_append, Array.toList_extract, List.extract_eq_take_drop, Nat.add_sub_cancel_left, drop_cons e, Array.toList_push]
  rfl
theorem J.a1 {rk : Keyed → Int} {a b out : Array Keyed} {ia ib : Nat} {x y : Keyed} (h : J rk a b out ia ib) (ex : a[ia]? = some x) (ey : b[ib]? = some y) (hl : rk x < rk y) : J rk a b (out.push x) (ia + 1) ib := by
  have := h.aG (k := 1) ey (fun i hi => by rw [show i = 0 by omega, Nat.add_zero, rkAt_get ex]; exact hl)
  rwa [push_ext ex] at this
theorem J.b1 {rk : Keyed → Int} {a b out : Array Keyed} {ia ib : Nat} {x y : Keyed} (h : J rk a b out ia ib) (ex : a[ia]? = some x) (ey : b[ib]? = some y) (hl : rk y < rk x) : J rk a b (out.push y) ia (ib + 1) := by
  have := h.bG (k := 1) ex (fun i hi => by rw [show i = 0 by omega, Nat.add_zero, rkAt_get ey]; exact hl)
  rwa [push_ext ey] at this
theorem ext_drop (a : Array Keyed) (i : Nat) : (a.extract i a.size).toList = a.toList.drop i := by
  rw [Array.toList_extract, List.extract_eq_take_drop]
  exact List.take_of_length_le (by simp)
theorem J.doneB {rk : Keyed → Int} {a b out : Array Keyed} {ia ib : Nat} (h : J rk a b out ia ib) (e : ib = b.size) : Good rk a b (out ++ a.extract ia a.size ++ b.extract ib b.size) := by
  subst e
  have e1 : b.toList.drop b.size = [] := List.drop_of_length_le (by simp)
  constructor
  · rw [Array.toList_append, Array.toList_append, ext_drop, ext_drop, List.append_assoc]; exact h.pm
  · rw [Array.toList_append, Array.toList_append, ext_drop, ext_drop, e1, List.append_nil]; exact h.pa
theorem J.doneA {rk : Keyed → Int} {a b out : Array Keyed} {ia ib : Nat} (h : J rk a b out ia ib) (e : ia = a.size) : Good rk a b (out ++ a.extract ia a.size ++ b.extract ib b.size) := by
  subst e
  have e1 : a.toList.drop a.size = [] := List.drop_of_length_le (by simp)
  constructor
  · rw [Array.toList_append, Array.toList_append, ext_drop, ext_drop, List.append_assoc]; exact h.pm
  · rw [Array.toList_append, Array.toList_append, ext_drop, ext_drop, e1, List.append_nil]; exact h.pb
theorem J.lastA {P : Keyed → Prop} {rk : Keyed → Int} {a b out : Array Keyed} {ia ib : Nat} (h : J rk a b out ia ib) (m : MPre P rk a b) (e : ia + 1 = a.size) : Good rk a b (out ++ b.extract ib b.size ++ a.extract ia a.size) := by
  obtain ⟨y, ey⟩ := get_of_lt (a := a) (i := ia) (by omega)
  have e1 : a.toList.drop ia = [y] := by rw [drop_cons ey, List.drop_of_length_le (by simp; omega)]
  constructor
  · rw [Array.toList_append, Array.toList_append, ext_drop, ext_drop, List.append_assoc]
    exact List.Perm.trans (List.Perm.append_left _ List.perm_append_comm) h.pm
  · rw [Array.toList_append, Array.toList_append, ext_drop, ext_drop, e1]
    refine List.pairwise_append.mpr ⟨h.pb, by simp, fun x hx z hz => ?_⟩
    obtain rfl : z = y := by simpa using hz
    rcases List.mem_append.mp hx with q | q
    · exact (List.pairwise_append.mp h.pa).2.2 x q z (by rw [e1]; simp)
    · exact m.last x z (List.mem_of_mem_drop q) (by rw [← e]; exact ey)
section
variable {M : Model} {A : Around} {Inv : Shared → Prop} {κ : SortKind} {P : Keyed → Prop} {rk : Keyed → Int} {a₀ : Array Keyed}
theorem wpT_mergeLo {st : SortSt} {a b : Array Keyed} {Q : Array Keyed → SortSt → Prop} (C : Cmp M A Inv κ P rk) (hk : kindOf st = κ) (m : MPre P rk a b)
    (h : ∀ r st', Good rk a b r → Gs st st' → Q r st') : wpT M A Inv (mergeLo' a b) Q st := by
  rw [mergeLo'_eq]
  refine wpT_bind (wpT_rule ?_)
  dsimp only
  obtain ⟨b0, eb0⟩ := get_of_lt (a := b) (i := 0) m.nb
  have J0 : J rk a b #[b0] 0 1 := by
    have q := drop_cons eb0
    rw [List.drop_zero] at q
    refine ⟨?_, ?_, ?_⟩
    · show ([b0] ++ a.toList.drop 0).Pairwise _
      rw [List.drop_zero]
      exact List.pairwise_cons.mpr ⟨fun y hy => m.first b0 y eb0 hy, m.ia⟩
    · show (b0 :: b.toList.drop 1).Pairwise _
      rw [← q]; exact m.ib
    · show ([b0] ++ (a.toList.drop 0 ++ b.toList.drop 1)).Perm _
      rw [List.drop_zero]
      conv => rhs; rw [q]
      show (b0 :: (a.toList ++ b.toList.drop 1)).Perm (a.toList ++ b0 :: b.toList.drop 1)
      exact List.perm_middle.symm
  have na := m.na
  have nb := m.nb
  refine wpT_bind (wpT_elem eb0 ?_)
  by_cases h1 : 1 = b.size
  · rw [if_pos (by rw [h1]; simp)]; exact wpT_pure (h _ _ (J0.doneB h1) (Gs.refl _))
  rw [if_neg (by simpa using h1)]
  by_cases h2 : 0 + 1 = a.size
  · rw [if_pos (by rw [h2]; simp)]; exact wpT_pure (h _ _ (J0.lastA m h2) (Gs.refl _))
  rw [if_neg (by simpa using h2)]
  refine wpT_bind (wpT_get ?_)
  refine wpT_bind (wpT_mono (wpT_for (I := fun x c st' => Gs st st' ∧ ∃ out ia ib mg, c = (none, out, ia, ib, mg) ∧ J rk a b out ia ib ∧ ia + 1 < a.size ∧ ib < b.size ∧ x + 1 ≤ ia + ib)
    (Q := fun c st' => Gs st st' ∧ ∃ r c', c = (some r, c') ∧ Good rk a b r) ?s1 ?e1 ?i1) ?p1)
  case i1 => exact ⟨Gs.refl _, _, _, _, _, rfl, J0, by omega, by omega, by omega⟩
  case e1 =>
    rintro c st' ⟨_, out, ia, ib, mg, rfl, j, b1, b2, b3⟩
    omega
  case p1 =>
    rintro c st' ⟨g, r, c', rfl, gd⟩
    exact wpT_pure (h _ _ gd g)
  case s1 =>
    rintro x c st1 _ hx ⟨g, out, ia, ib, mg, rfl, j, b1, b2, b3⟩
    dsimp only
    refine wpT_bind (wpT_mono (wpT_for (I := fun y c st' => Gs st st' ∧ ∃ out ia ib ac bc, c = (none, out, ia, ib, ac, bc) ∧ J rk a b out ia ib ∧ ia + 1 < a.size ∧ ib < b.size ∧ x + 1 ≤ ia + ib)
      (Q := fun c st' => Gs st st' ∧ ((∃ r c', c = (some r, c') ∧ Good rk a b r) ∨ (∃ out ia ib ac bc, c = (none, out, ia, ib, ac, bc) ∧ J rk a b out ia ib ∧ ia + 1 < a.size ∧ ib < b.size ∧ x + 1 ≤ ia + ib))) ?s2 ?e2 ?i2) ?p2)
    case i2 => exact ⟨g, _, _, _, _, _, rfl, j, b1, b2, b3⟩
    case e2 =>
      rintro c st' ⟨g, rest⟩
      exact ⟨g, .inr rest⟩
    case s2 =>
      rintro y c st2 _ hy ⟨g, out, ia, ib, ac, bc, rfl, j, b1, b2, b3⟩
      dsimp only
      obtain ⟨u, eu⟩ := get_of_lt (a := b) (i := ib) b2
      obtain ⟨v, ev⟩ := get_of_lt (a := a) (i := ia) (by omega)
      refine wpT_bind (wpT_elem eu (wpT_bind (wpT_elem ev (wpT_bind (wpT_lt C (g.kind.trans hk) (m.pb _ (mem_of_get eu)) (m.pa _ (mem_of_get ev)) ?_)))))
      by_cases hb : rk u < rk v
      · simp only [hb, decide_true, if_true]
        have j' := j.b1 ev eu hb
        refine wpT_bind (wpT_elem eu ?_)
        by_cases q1 : ib + 1 = b.size
        · rw [if_pos (by rw [q1]; simp)]; exact wpT_pure ⟨g, .inl ⟨_, _, rfl, j'.doneB q1⟩⟩
        rw [if_neg (by simpa using q1)]
        split
        · exact wpT_pure ⟨g, .inr ⟨_, _, _, _, _, rfl, j', b1, by omega, by omega⟩⟩
        · exact wpT_pure ⟨g, _, _, _, _, _, rfl, j', b1, by omega, by omega⟩
      · simp only [hb, decide_false, Bool.false_eq_true, if_false]
        have hn := m.ne v u (mem_of_get ev) (mem_of_get eu)
        have j' := j.a1 ev eu (by omega)
        refine wpT_bind (wpT_elem ev ?_)
        by_cases q1 : ia + 1 + 1 = a.size
        · rw [if_pos (by rw [q1]; simp)]; exact wpT_pure ⟨g, .inl ⟨_, _, rfl, j'.lastA m q1⟩⟩
        rw [if_neg (by simpa using q1)]
        split
        · exact wpT_pure ⟨g, .inr ⟨_, _, _, _, _, rfl, j', by omega, by omega, by omega⟩⟩
        · exact wpT_pure ⟨g, _, _, _, _, _, rfl, j', by omega, by omega, by omega⟩
    case p2 =>
      clear j b1 b2 b3
      rintro c st2 ⟨g, ⟨r, c', rfl, gd⟩ | ⟨out, ia, ib, ac, bc, rfl, j, b1, b2, b3⟩⟩
      · exact wpT_pure ⟨g, _, _, rfl, gd⟩
      dsimp only
      refine wpT_bind (wpT_rule ?_)
      refine wpT_bind (wpT_mono (wpT_for (I := fun y c st' => Gs st st' ∧ ∃ out ia ib mg ac bc, c = (none, out, ia, ib, mg, ac, bc) ∧ J rk a b out ia ib ∧ ia + 1 < a.size ∧ ib < b.size ∧ x + 1 + y ≤ ia + ib)
        (Q := fun c st' => Gs st st' ∧ ((∃ r c', c = (some r, c') ∧ Good rk a b r) ∨ (∃ out ia ib mg ac bc, c = (none, out, ia, ib, mg, ac, bc) ∧ J rk a b out ia ib ∧ ia + 1 < a.size ∧ ib < b.size ∧ x + 2 ≤ ia + ib))) ?s3 ?e3 ?i3) ?p3)
      case i3 => exact ⟨g, _, _, _, _, _, _, rfl, j, b1, b2, by omega⟩
      case e3 =>
        rintro c st' ⟨g, out, ia, ib, mg, ac, bc, rfl, j, b1, b2, b3⟩
        omega
      case p3 =>
        clear j b1 b2 b3
        rintro c st3 ⟨g, ⟨r, c', rfl, gd⟩ | ⟨out, ia, ib, mg, ac, bc, rfl, j, b1, b2, b3⟩⟩
        · exact wpT_pure ⟨g, _, _, rfl, gd⟩
        dsimp only
        refine wpT_bind (wpT_modify ?_)
        exact wpT_pure ⟨g.mg _, _, _, _, _, rfl, j, b1, b2, by omega⟩
      case s3 =>
        clear j b1 b2 b3
        rintro y c st3 _ hy ⟨g, out, ia, ib, mg, ac, bc, rfl, j, b1, b2, b3⟩
        dsimp only
        by_cases hm : mg > 1
        all_goals
          first | rw [if_pos hm] | rw [if_neg hm]
          refine wpT_bind (wpT_modify ?_)
          obtain ⟨u, eu⟩ := get_of_lt (a := b) (i := ib) b2
          have mu := mem_of_get eu
          refine wpT_bind (wpT_elem eu (wpT_bind (wpT_gallop C ((g.mg _).kind.trans hk) (m.pb _ mu) ?z1 ?z2 ?z3 (by omega) fun k c1 c2 c3 => ?z4)))
          case z1 =>
            intro i hi
            obtain ⟨v, ev⟩ := get_of_lt (a := a) (i := ia + i) (by omega)
            exact ⟨v, ev, m.pa _ (mem_of_get ev)⟩
          case z2 => exact inc_of m.ia (by omega)
          case z3 =>
            intro i hi
            obtain ⟨v, ev⟩ := get_of_lt (a := a) (i := ia + i) (by omega)
            rw [rkAt_get ev]
            exact m.ne v u (mem_of_get ev) mu
          case z4 =>
            dsimp only
            have j' := j.aG eu c2
            by_cases hk0 : k > 0
            · rw [if_pos hk0]
              by_cases q1 : ia + k + 1 = a.size
              · rw [if_pos (by rw [q1]; simp)]; exact wpT_pure ⟨g.mg _, .inl ⟨_, _, rfl, j'.lastA m q1⟩⟩
              rw [if_neg (by simpa using q1)]
              by_cases q2 : ia + k = a.size
              · rw [if_pos (by rw [q2]; simp)]; exact wpT_pure ⟨g.mg _, .inl ⟨_, _, rfl, j'.doneA q2⟩⟩
              rw [if_neg (by simpa using q2)]
              have c4 := c3 k (Nat.le_refl _) (by omega)
              have l1 : ia + k + 1 < a.size := by omega
              have l2 : ia ≤ ia + k := by omega
              generalize out ++ a.extract ia (ia + k) = o2 at j' ⊢
              generalize ia + k = i2 at j' c4 l1 l2 ⊢
              refine wpT_bind (wpT_elem eu ?_)
              obtain ⟨v, ev⟩ := get_of_lt (a := a) (i := i2) (by omega)
              have mv := mem_of_get ev
              have j2 := j'.b1 ev eu (by rwa [rkAt_get ev] at c4)
              by_cases q3 : ib + 1 = b.size
              · rw [if_pos (by rw [q3]; simp)]; exact wpT_pure ⟨g.mg _, .inl ⟨_, _, rfl, j2.doneB q3⟩⟩
              rw [if_neg (by simpa using q3)]
              refine wpT_bind (wpT_elem ev (wpT_bind (wpT_gallop C ((g.mg _).kind.trans hk) (m.pa _ mv) ?y1 ?y2 ?y3 (by omega) fun k2 d1 d2 d3 => ?y4)))
              case y1 =>
                intro i hi
                obtain ⟨v', ev'⟩ := get_of_lt (a := b) (i := ib + 1 + i) (by omega)
                exact ⟨v', ev', m.pb _ (mem_of_get ev')⟩
              case y2 => exact inc_of m.ib (by omega)
              case y3 =>
                intro i hi
                obtain ⟨v', ev'⟩ := get_of_lt (a := b) (i := ib + 1 + i) (by omega)
                rw [rkAt_get ev']
                exact (m.ne v v' mv (mem_of_get ev')).symm
              case y4 =>
                dsimp only
                have j3 := j2.bG ev d2
                by_cases hk2 : k2 > 0
                · rw [if_pos hk2]
                  by_cases q4 : ib + 1 + k2 = b.size
                  · rw [if_pos (by rw [q4]; simp)]; exact wpT_pure ⟨g.mg _, .inl ⟨_, _, rfl, j3.doneB q4⟩⟩
                  rw [if_neg (by simpa using q4)]
                  have c5 := d3 k2 (Nat.le_refl _) (by omega)
                  have l3 : ib + 1 + k2 < b.size := by omega
                  have l4 : ib + 1 ≤ ib + 1 + k2 := by omega
                  generalize o2.push u ++ b.extract (ib + 1) (ib + 1 + k2) = o3 at j3 ⊢
                  generalize ib + 1 + k2 = i3 at j3 c5 l3 l4 ⊢
                  refine wpT_bind (wpT_elem ev ?_)
                  obtain ⟨z, ez⟩ := get_of_lt (a := b) (i := i3) (by omega)
                  have j4 := j3.a1 ev ez (by rwa [rkAt_get ez] at c5)
                  by_cases q4 : i2 + 1 + 1 = a.size
                  · rw [if_pos (by rw [q4]; simp)]; exact wpT_pure ⟨g.mg _, .inl ⟨_, _, rfl, j4.lastA m q4⟩⟩
                  rw [if_neg (by simpa using q4)]
                  by_cases q5 : (decide (k < 7) && decide (k2 < 7)) = true
                  · rw [if_pos q5]; exact wpT_pure ⟨g.mg _, .inr ⟨_, _, _, _, _, _, rfl, j4, by omega, by omega, by omega⟩⟩
                  · rw [if_neg q5]; exact wpT_pure ⟨g.mg _, _, _, _, _, _, _, rfl, j4, by omega, by omega, by omega⟩
                · rw [if_neg hk2]
                  obtain rfl : k2 = 0 := by omega
                  have c5 := d3 0 (Nat.le_refl _) (by omega)
                  rw [Nat.add_zero] at c5
                  clear j3
                  have j3 := j2
                  have l3 : ib + 1 < b.size := by omega
                  have l4 : ib + 1 ≤ ib + 1 := by omega
                  generalize o2.push u = o3 at j3 ⊢
                  generalize hi3 : ib + 1 = i3 at j3 c5 l3 l4 ⊢
                  refine wpT_bind (wpT_elem ev ?_)
                  obtain ⟨z, ez⟩ := get_of_lt (a := b) (i := i3) (by omega)
                  have j4 := j3.a1 ev ez (by rwa [rkAt_get ez] at c5)
                  by_cases q4 : i2 + 1 + 1 = a.size
                  · rw [if_pos (by rw [q4]; simp)]; exact wpT_pure ⟨g.mg _, .inl ⟨_, _, rfl, j4.lastA m q4⟩⟩
                  rw [if_neg (by simpa using q4)]
                  by_cases q5 : (decide (k < 7) && decide (0 < 7)) = true
                  · rw [if_pos q5]; exact wpT_pure ⟨g.mg _, .inr ⟨_, _, _, _, _, _, rfl, j4, by omega, by omega, by omega⟩⟩
                  · rw [if_neg q5]; exact wpT_pure ⟨g.mg _, _, _, _, _, _, _, rfl, j4, by omega, by omega, by omega⟩
            · rw [if_neg hk0]
              obtain rfl : k = 0 := by omega
              have c4 := c3 0 (Nat.le_refl _) (by omega)
              rw [Nat.add_zero] at c4
              clear j'
              have j' := j
              have l1 : ia + 1 < a.size := by omega
              have l2 : ia ≤ ia := by omega
              generalize out = o2 at j' ⊢
              generalize hi2 : ia = i2 at j' c4 l1 l2 ⊢
              refine wpT_bind (wpT_elem eu ?_)
              obtain ⟨v, ev⟩ := get_of_lt (a := a) (i := i2) (by omega)
              have mv := mem_of_get ev
              have j2 := j'.b1 ev eu (by rwa [rkAt_get ev] at c4)
              by_cases q3 : ib + 1 = b.size
              · rw [if_pos (by rw [q3]; simp)]; exact wpT_pure ⟨g.mg _, .inl ⟨_, _, rfl, j2.doneB q3⟩⟩
              rw [if_neg (by simpa using q3)]
              refine wpT_bind (wpT_elem ev (wpT_bind (wpT_gallop C ((g.mg _).kind.trans hk) (m.pa _ mv) ?y1 ?y2 ?y3 (by omega) fun k2 d1 d2 d3 => ?y4)))
              case y1 =>
                intro i hi
                obtain ⟨v', ev'⟩ := get_of_lt (a := b) (i := ib + 1 + i) (by omega)
                exact ⟨v', ev', m.pb _ (mem_of_get ev')⟩
              case y2 => exact inc_of m.ib (by omega)
              case y3 =>
                intro i hi
                obtain ⟨v', ev'⟩ := get_of_lt (a := b) (i := ib + 1 + i) (by omega)
                rw [rkAt_get ev']
                exact (m.ne v v' mv (mem_of_get ev')).symm
              case y4 =>
                dsimp only
                have j3 := j2.bG ev d2
                by_cases hk2 : k2 > 0
                · rw [if_pos hk2]
                  by_cases q4 : ib + 1 + k2 = b.size
                  · rw [if_pos (by rw [q4]; simp)]; exact wpT_pure ⟨g.mg _, .inl ⟨_, _, rfl, j3.doneB q4⟩⟩
                  rw [if_neg (by simpa using q4)]
                  have c5 := d3 k2 (Nat.le_refl _) (by omega)
                  have l3 : ib + 1 + k2 < b.size := by omega
                  have l4 : ib + 1 ≤ ib + 1 + k2 := by omega
                  generalize o2.push u ++ b.extract (ib + 1) (ib + 1 + k2) = o3 at j3 ⊢
                  generalize ib + 1 + k2 = i3 at j3 c5 l3 l4 ⊢
                  refine wpT_bind (wpT_elem ev ?_)
                  obtain ⟨z, ez⟩ := get_of_lt (a := b) (i := i3) (by omega)
                  have j4 := j3.a1 ev ez (by rwa [rkAt_get ez] at c5)
                  by_cases q4 : i2 + 1 + 1 = a.size
                  · rw [if_pos (by rw [q4]; simp)]; exact wpT_pure ⟨g.mg _, .inl ⟨_, _, rfl, j4.lastA m q4⟩⟩
                  rw [if_neg (by simpa using q4)]
                  by_cases q5 : (decide (0 < 7) && decide (k2 < 7)) = true
                  · rw [if_pos q5]; exact wpT_pure ⟨g.mg _, .inr ⟨_, _, _, _, _, _, rfl, j4, by omega, by omega, by omega⟩⟩
                  · rw [if_neg q5]; exact wpT_pure ⟨g.mg _, _, _, _, _, _, _, rfl, j4, by omega, by omega, by omega⟩
                · rw [if_neg hk2]
                  obtain rfl : k2 = 0 := by omega
                  have c5 := d3 0 (Nat.le_refl _) (by omega)
                  rw [Nat.add_zero] at c5
                  clear j3
                  have j3 := j2
                  have l3 : ib + 1 < b.size := by omega
                  have l4 : ib + 1 ≤ ib + 1 := by omega
                  generalize o2.push u = o3 at j3 ⊢
                  generalize hi3 : ib + 1 = i3 at j3 c5 l3 l4 ⊢
                  refine wpT_bind (wpT_elem ev ?_)
                  obtain ⟨z, ez⟩ := get_of_lt (a := b) (i := i3) (by omega)
                  have j4 := j3.a1 ev ez (by rwa [rkAt_get ez] at c5)
                  by_cases q4 : i2 + 1 + 1 = a.size
                  · rw [if_pos (by rw [q4]; simp)]; exact wpT_pure ⟨g.mg _, .inl ⟨_, _, rfl, j4.lastA m q4⟩⟩
                  rw [if_neg (by simpa using q4)]
                  by_cases q5 : (decide (0 < 7) && decide (0 < 7)) = true
                  · rw [if_pos q5]; exact wpT_pure ⟨g.mg _, .inr ⟨_, _, _, _, _, _, rfl, j4, by omega, by omega, by omega⟩⟩
                  · rw [if_neg q5]; exact wpT_pure ⟨g.mg _, _, _, _, _, _, _, rfl, j4, by omega, by omega, by omega⟩
end
end Mine
end
section
open PySem PySem.W PyProof.Rows PySem.Calls PySem.Spec
set_option Elab.async false
set_option maxRecDepth 100000
set_option maxHeartbeats 4000000
set_option linter.unusedVariables false
set_option rowWalk.seconds 0
namespace Mine
theorem start_S5 : True := by w_top off; trivial
/-- hi-merge in progress -/
structure JH (rk : Keyed → Int) (a b out : Array Keyed) (na nb : Nat) : Prop where
  pa : (a.toList.take na ++ out.toList.reverse).Pairwise (Lt rk)
  pb : (b.toList.take nb ++ out.toList.reverse).Pairwise (Lt rk)
  pm : (a.toList.take na ++ (b.toList.take nb ++ out.toList.reverse)).Perm (a.toList ++ b.toList)
theorem take_seg (a : Array Keyed) {i n : Nat} (h : i ≤ n) : a.toList.take i ++ (a.extract i n).toList = a.toList.take n := by
  rw [Array.toList_extract, List.extract_eq_take_drop]
  have : a.toList.take n = a.toList.take (i + (n - i)) := by rw [Nat.add_sub_cancel' h]
  rw [this, List.take_add]
theorem JH.a {rk : Keyed → Int} {a b out : Array Keyed} {na nb i : Nat} (h : JH rk a b out na nb) (hi : i ≤ na) (hl : ∀ x, x ∈ (a.extract i na).toList → ∀ y, y ∈ b.toList.take nb → rk y < rk x) :
    JH rk a b (out ++ (a.extract i na).reverse) i nb := by
  have et : (out ++ (a.extract i na).reverse).toList.reverse = (a.extract i na).toList ++ out.toList.reverse := by
    rw [Array.toList_append, List.reverse_append, Array.toList_reverse, List.reverse_reverse]
  have ed := take_seg a hi
  have p1 : (a.toList.take i ++ ((a.extract i na).toList ++ out.toList.reverse)).Pairwise (Lt rk) := by rw [← List.append_assoc, ed]; exact h.pa
  refine ⟨?_, ?_, ?_⟩
  · rw [et]; exact p1
  · rw [et]
    refine List.pairwise_append.mpr ⟨(List.pairwise_append.mp h.pb).1, (List.pairwise_append.mp p1).2.1, fun x hx y hy => ?_⟩
    rcases List.mem_append.mp hy with q | q
    · exact hl y q x hx
    · exact (List.pairwise_append.mp h.pb).2.2 x hx y q
  · rw [et]
    refine List.Perm.trans ?_ h.pm
    rw [← ed, List.append_assoc]
    refine List.Perm.append_left _ ?_
    rw [← List.append_assoc, ← List.append_assoc]
    exact List.Perm.append_right _ List.perm_append_comm
theorem JH.b {rk : Keyed → Int} {a b out : Array Keyed} {na nb i : Nat} (h : JH rk a b out na nb) (hi : i ≤ nb) (hl : ∀ x, x ∈ (b.extract i nb).toList → ∀ y, y ∈ a.toList.take na → rk y < rk x) :
    JH rk a b (out ++ (b.extract i nb).reverse) na i := by
  have et : (out ++ (b.extract i nb).reverse).toList.reverse = (b.extract i nb).toList ++ out.toList.reverse := by
    rw [Array.toList_append, List.reverse_append, Array.toList_reverse, List.reverse_reverse]
  have ed := take_seg b hi
  have p1 : (b.toList.take i ++ ((b.extract i nb).toList ++ out.toList.reverse)).Pairwise (Lt rk) := by rw [← List.append_assoc, ed]; exact h.pb
  refine ⟨?_, ?_, ?_⟩
  · rw [et]
    refine List.pairwise_append.mpr ⟨(List.pairwise_append.mp h.pa).1, (List.pairwise_append.mp p1).2.1, fun x hx y hy => ?_⟩
    rcases List.mem_append.mp hy with q | q
    · exact hl y q x hx
    · exact (List.pairwise_append.mp h.pa).2.2 x hx y q
  · rw [et]; exact p1
  · rw [et, ← List.append_assoc (b.toList.take i), ed]
    exact h.pm
theorem pw_take {rk : Keyed → Int} {o : List Keyed} {b : Array Keyed} {n : Nat} {y : Keyed} (h : (b.toList.take n ++ o).Pairwise (Lt rk)) (e : b[n - 1]? = some y) (hn : 1 ≤ n) : ∀ z, z ∈ b.toList.take n → rk z ≤ rk y := by
  intro z hz
  have hlt : n - 1 < b.size := by
    rcases Nat.lt_or_ge (n - 1) b.size with q | q
    · exact q
    · rw [Array.getElem?_eq_none q] at e; cases e
  have := (List.pairwise_append.mp h).1
  have ed := take_seg b (Nat.sub_le n 1)
  have e1 : (b.extract (n - 1) n).toList = [y] := by
    rw [Array.toList_extract, List.extract_eq_take_drop, drop_cons e, show n - (n - 1) = 1 by omega]; rfl
  rw [e1] at ed
  rw [← ed] at this hz
  rcases List.mem_append.mp hz with q | q
  · exact Int.le_of_lt ((List.pairwise_append.mp this).2.2 z q y (by simp))
  · have : z = y := by simpa using q
    subst this; exact Int.le_refl _
theorem seg_gt {rk : Keyed → Int} {a : Array Keyed} {i n : Nat} {r : Int} (h : ∀ j, i ≤ j → j < n → r < rkAt rk a (0 + j)) : ∀ x, x ∈ (a.extract i n).toList → r < rk x := by
  intro x hx
  rw [Array.toList_extract, List.extract_eq_take_drop] at hx
  obtain ⟨j, hj⟩ := List.mem_iff_getElem?.mp hx
  rw [List.getElem?_take] at hj
  split at hj
  · rw [List.getElem?_drop, Array.getElem?_toList] at hj
    have := h (i + j) (by omega) (by omega)
    rw [Nat.zero_add, rkAt_get hj] at this
    exact this
  · cases hj
theorem JH.aG {rk : Keyed → Int} {a b out : Array Keyed} {na nb i : Nat} {y : Keyed} (h : JH rk a b out na nb) (hi : i ≤ na) (e : b[nb - 1]? = some y) (hn : 1 ≤ nb) (hl : ∀ j, i ≤ j → j < na → rk y < rkAt rk a (0 + j)) :
    JH rk a b (out ++ (a.extract i na).reverse) i nb :=
  h.a hi fun x hx z hz => Int.lt_of_le_of_lt (pw_take h.pb e hn z hz) (seg_gt hl x hx)
theorem JH.bG {rk : Keyed → Int} {a b out : Array Keyed} {na nb i : Nat} {y : Keyed} (h : JH rk a b out na nb) (hi : i ≤ nb) (e : a[na - 1]? = some y) (hn : 1 ≤ na) (hl : ∀ j, i ≤ j → j < nb → rk y < rkAt rk b (0 + j)) :
    JH rk a b (out ++ (b.extract i nb).reverse) na i :=
  h.b hi fun x hx z hz => Int.lt_of_le_of_lt (pw_take h.pa e hn z hz) (seg_gt hl x hx)
theorem push_rev {a out : Array Keyed} {n : Nat} {x : Keyed} (e : a[n - 1]? = some x) (hn : 1 ≤ n) : out ++ (a.extract (n - 1) n).reverse = out.push x := by
  apply Array.toList_inj.mp
  rw [Array.toList_append, Array.toList_reverse, Array.toList_extract, List.extract_eq_take_drop, drop_cons e, Array.toList_push, show n - (n - 1) = 1 by omega]
  rfl
theorem JH.a1 {rk : Keyed → Int} {a b out : Array Keyed} {na nb : Nat} {x y : Keyed} (h : JH rk a b out na nb) (ex : a[na - 1]? = some x) (ey : b[nb - 1]? = some y) (h1 : 1 ≤ na) (h2 : 1 ≤ nb) (hl : rk y < rk x) : JH rk a b (out.push x) (na - 1) nb := by
  have := h.aG (i := na - 1) (by omega) ey h2 (fun j h3 h4 => by rw [show j = na - 1 by omega, Nat.zero_add, rkAt_get ex]; exact hl)
  rwa [push_rev ex h1] at this
theorem JH.b1 {rk : Keyed → Int} {a b out : Array Keyed} {na nb : Nat} {x y : Keyed} (h : JH rk a b out na nb) (ex : a[na - 1]? = some x) (ey : b[nb - 1]? = some y) (h1 : 1 ≤ na) (h2 : 1 ≤ nb) (hl : rk x < rk y) : JH rk a b (out.push y) na (nb - 1) := by
  have := h.bG (i := nb - 1) (by omega) ex h1 (fun j h3 h4 => by rw [show j = nb - 1 by omega, Nat.zero_add, rkAt_get ey]; exact hl)
  rwa [push_rev ey h2] at this
theorem ext_take (a : Array Keyed) (n : Nat) : (a.extract 0 n).toList = a.toList.take n := by
  rw [Array.toList_extract, List.extract_eq_take_drop]; rfl
theorem JH.doneA {rk : Keyed → Int} {a b out : Array Keyed} {na nb : Nat} (h : JH rk a b out na nb) (e : na = 0) : Good rk a b (a.extract 0 na ++ b.extract 0 nb ++ out.reverse) := by
  subst e
  have p := h.pb
  have q := h.pm
  rw [List.take_zero, List.nil_append] at q
  constructor <;> rw [Array.toList_append, Array.toList_append, ext_take, ext_take, Array.toList_reverse, List.take_zero, List.nil_append]
  · exact q
  · exact p
theorem JH.doneB {rk : Keyed → Int} {a b out : Array Keyed} {na nb : Nat} (h : JH rk a b out na nb) (e : nb = 0) : Good rk a b (a.extract 0 na ++ b.extract 0 nb ++ out.reverse) := by
  subst e
  have p := h.pa
  have q := h.pm
  rw [List.take_zero, List.nil_append] at q
  constructor <;> rw [Array.toList_append, Array.toList_append, ext_take, ext_take, Array.toList_reverse, List.take_zero, List.append_nil]
  · exact q
  · exact p
theorem JH.firstB {P : Keyed → Prop} {rk : Keyed → Int} {a b out : Array Keyed} {na nb : Nat} (h : JH rk a b out na nb) (m : MPre P rk a b) (e : nb = 1) : Good rk a b (b.extract 0 nb ++ a.extract 0 na ++ out.reverse) := by
  subst e
  obtain ⟨y, ey⟩ := get_of_lt (a := b) (i := 0) m.nb
  have e1 : b.toList.take 1 = [y] := by
    have := drop_cons ey
    rw [List.drop_zero] at this
    rw [this]; rfl
  constructor
  · rw [Array.toList_append, Array.toList_append, ext_take, ext_take, Array.toList_reverse]
    refine List.Perm.trans ?_ h.pm
    rw [← List.append_assoc]
    exact List.Perm.append_right _ List.perm_append_comm
  · rw [Array.toList_append, Array.toList_append, ext_take, ext_take, Array.toList_reverse, e1, List.append_assoc]
    refine List.pairwise_append.mpr ⟨by simp, h.pa, fun x hx z hz => ?_⟩
    obtain rfl : x = y := by simpa using hx
    rcases List.mem_append.mp hz with q | q
    · exact m.first x z ey (List.mem_of_mem_take q)
    · exact (List.pairwise_append.mp h.pb).2.2 x (by rw [e1]; simp) z q
section
variable {M : Model} {A : Around} {Inv : Shared → Prop} {κ : SortKind} {P : Keyed → Prop} {rk : Keyed → Int} {a₀ : Array Keyed}
theorem wpT_mergeHi {st : SortSt} {a b : Array Keyed} {Q : Array Keyed → SortSt → Prop} (C : Cmp M A Inv κ P rk) (hk : kindOf st = κ) (m : MPre P rk a b)
    (h : ∀ r st', Good rk a b r → Gs st st' → Q r st') : wpT M A Inv (mergeHi' a b) Q st := by
  rw [mergeHi'_eq]
  refine wpT_bind (wpT_rule ?_)
  dsimp only
  have na0 := m.na
  have nb0 := m.nb
  obtain ⟨a0, ea0⟩ := get_of_lt (a := a) (i := a.size - 1) (by omega)
  have J0 : JH rk a b #[a0] (a.size - 1) b.size := by
    have q := take_seg a (i := a.size - 1) (n := a.size) (by omega)
    have e1 : (a.extract (a.size - 1) a.size).toList = [a0] := by rw [ext_drop, drop_cons ea0, List.drop_of_length_le (by simp; omega)]
    have e2 : a.toList.take a.size = a.toList := List.take_of_length_le (by simp)
    have e3 : b.toList.take b.size = b.toList := List.take_of_length_le (by simp)
    rw [e1, e2] at q
    refine ⟨?_, ?_, ?_⟩
    · show (a.toList.take (a.size - 1) ++ [a0]).Pairwise _
      rw [q]; exact m.ia
    · show (b.toList.take b.size ++ [a0]).Pairwise _
      rw [e3]
      refine List.pairwise_append.mpr ⟨m.ib, by simp, fun x hx z hz => ?_⟩
      obtain rfl : z = a0 := by simpa using hz
      exact m.last x z hx ea0
    · show (a.toList.take (a.size - 1) ++ (b.toList.take b.size ++ [a0])).Perm _
      rw [e3]
      conv => rhs; rw [← q, List.append_assoc]
      exact List.Perm.append_left _ List.perm_append_comm
  refine wpT_bind (wpT_elem ea0 ?_)
  by_cases h1 : a.size - 1 = 0
  · rw [if_pos (by rw [h1]; simp)]; exact wpT_pure (h _ _ (J0.doneA h1) (Gs.refl _))
  rw [if_neg (by simpa using h1)]
  by_cases h2 : b.size = 1
  · rw [if_pos (by rw [h2]; simp)]; exact wpT_pure (h _ _ (J0.firstB m h2) (Gs.refl _))
  rw [if_neg (by simpa using h2)]
  refine wpT_bind (wpT_get ?_)
  refine wpT_bind (wpT_mono (wpT_for (I := fun x c st' => Gs st st' ∧ ∃ out na nb mg, c = (none, na, nb, out, mg) ∧ JH rk a b out na nb ∧ 1 ≤ na ∧ na ≤ a.size ∧ 2 ≤ nb ∧ nb ≤ b.size ∧ x + 1 + na + nb ≤ a.size + b.size)
    (Q := fun c st' => Gs st st' ∧ ∃ r c', c = (some r, c') ∧ Good rk a b r) ?s1 ?e1 ?i1) ?p1)
  case i1 => exact ⟨Gs.refl _, _, _, _, _, rfl, J0, by omega, by omega, by omega, by omega, by omega⟩
  case e1 =>
    rintro c st' ⟨_, out, na, nb, mg, rfl, j, b1, b2, b3, b4, b5⟩
    omega
  case p1 =>
    rintro c st' ⟨g, r, c', rfl, gd⟩
    exact wpT_pure (h _ _ gd g)
  case s1 =>
    rintro x c st1 _ hx ⟨g, out, na, nb, mg, rfl, j, b1, b2, b3, b4, b5⟩
    dsimp only
    refine wpT_bind (wpT_mono (wpT_for (I := fun y c st' => Gs st st' ∧ ∃ out na nb ac bc, c = (none, na, nb, out, ac, bc) ∧ JH rk a b out na nb ∧ 1 ≤ na ∧ na ≤ a.size ∧ 2 ≤ nb ∧ nb ≤ b.size ∧ x + 1 + na + nb ≤ a.size + b.size)
      (Q := fun c st' => Gs st st' ∧ ((∃ r c', c = (some r, c') ∧ Good rk a b r) ∨ (∃ out na nb ac bc, c = (none, na, nb, out, ac, bc) ∧ JH rk a b out na nb ∧ 1 ≤ na ∧ na ≤ a.size ∧ 2 ≤ nb ∧ nb ≤ b.size ∧ x + 1 + na + nb ≤ a.size + b.size))) ?s2 ?e2 ?i2) ?p2)
    case i2 => exact ⟨g, _, _, _, _, _, rfl, j, b1, b2, b3, b4, b5⟩
    case e2 =>
      rintro c st' ⟨g, rest⟩
      exact ⟨g, .inr rest⟩
    case s2 =>
      rintro y c st2 _ hy ⟨g, out, na, nb, ac, bc, rfl, j, b1, b2, b3, b4, b5⟩
      dsimp only
      obtain ⟨u, eu⟩ := get_of_lt (a := b) (i := nb - 1) (by omega)
      obtain ⟨v, ev⟩ := get_of_lt (a := a) (i := na - 1) (by omega)
      refine wpT_bind (wpT_elem eu (wpT_bind (wpT_elem ev (wpT_bind (wpT_lt C (g.kind.trans hk) (m.pb _ (mem_of_get eu)) (m.pa _ (mem_of_get ev)) ?_)))))
      by_cases hb : rk u < rk v
      · simp only [hb, decide_true, if_true]
        have j' := j.a1 ev eu (by omega) (by omega) hb
        refine wpT_bind (wpT_elem ev ?_)
        by_cases q1 : na - 1 = 0
        · rw [if_pos (by rw [q1]; simp)]; exact wpT_pure ⟨g, .inl ⟨_, _, rfl, j'.doneA q1⟩⟩
        rw [if_neg (by simpa using q1)]
        split
        · exact wpT_pure ⟨g, .inr ⟨_, _, _, _, _, rfl, j', by omega, by omega, by omega, by omega, by omega⟩⟩
        · exact wpT_pure ⟨g, _, _, _, _, _, rfl, j', by omega, by omega, by omega, by omega, by omega⟩
      · simp only [hb, decide_false, Bool.false_eq_true, if_false]
        have hn := m.ne v u (mem_of_get ev) (mem_of_get eu)
        have j' := j.b1 ev eu (by omega) (by omega) (by omega)
        refine wpT_bind (wpT_elem eu ?_)
        by_cases q1 : nb - 1 = 1
        · rw [if_pos (by rw [q1]; simp)]; exact wpT_pure ⟨g, .inl ⟨_, _, rfl, j'.firstB m q1⟩⟩
        rw [if_neg (by simpa using q1)]
        split
        · exact wpT_pure ⟨g, .inr ⟨_, _, _, _, _, rfl, j', by omega, by omega, by omega, by omega, by omega⟩⟩
        · exact wpT_pure ⟨g, _, _, _, _, _, rfl, j', by omega, by omega, by omega, by omega, by omega⟩
    case p2 =>
      clear j b1 b2 b3 b4 b5
      rintro c st2 ⟨g, ⟨r, c', rfl, gd⟩ | ⟨out, na, nb, ac, bc, rfl, j, b1, b2, b3, b4, b5⟩⟩
      · exact wpT_pure ⟨g, _, _, rfl, gd⟩
      dsimp only
      refine wpT_bind (wpT_rule ?_)
      refine wpT_bind (wpT_mono (wpT_for (I := fun y c st' => Gs st st' ∧ ∃ out na nb mg ac bc, c = (none, na, nb, out, mg, ac, bc) ∧ JH rk a b out na nb ∧ 1 ≤ na ∧ na ≤ a.size ∧ 2 ≤ nb ∧ nb ≤ b.size ∧ x + 1 + y + na + nb ≤ a.size + b.size)
        (Q := fun c st' => Gs st st' ∧ ((∃ r c', c = (some r, c') ∧ Good rk a b r) ∨ (∃ out na nb mg ac bc, c = (none, na, nb, out, mg, ac, bc) ∧ JH rk a b out na nb ∧ 1 ≤ na ∧ na ≤ a.size ∧ 2 ≤ nb ∧ nb ≤ b.size ∧ x + 2 + na + nb ≤ a.size + b.size))) ?s3 ?e3 ?i3) ?p3)
      case i3 => exact ⟨g, _, _, _, _, _, _, rfl, j, b1, b2, b3, b4, by omega⟩
      case e3 =>
        rintro c st' ⟨g, out, na, nb, mg, ac, bc, rfl, j, b1, b2, b3, b4, b5⟩
        omega
      case p3 =>
        clear j b1 b2 b3 b4 b5
        rintro c st3 ⟨g, ⟨r, c', rfl, gd⟩ | ⟨out, na, nb, mg, ac, bc, rfl, j, b1, b2, b3, b4, b5⟩⟩
        · exact wpT_pure ⟨g, _, _, rfl, gd⟩
        dsimp only
        refine wpT_bind (wpT_modify ?_)
        exact wpT_pure ⟨g.mg _, _, _, _, _, rfl, j, b1, b2, b3, b4, by omega⟩
      case s3 =>
        clear j b1 b2 b3 b4 b5
        rintro y c st3 _ hy ⟨g, out, na, nb, mg, ac, bc, rfl, j, b1, b2, b3, b4, b5⟩
        dsimp only
        by_cases hm : mg > 1
        all_goals
          first | rw [if_pos hm] | rw [if_neg hm]
          refine wpT_bind (wpT_modify ?_)
          obtain ⟨u, eu⟩ := get_of_lt (a := b) (i := nb - 1) (by omega)
          have mu := mem_of_get eu
          refine wpT_bind (wpT_elem eu (wpT_bind (wpT_gallop C ((g.mg _).kind.trans hk) (m.pb _ mu) ?z1 ?z2 ?z3 (by omega) fun k c1 c2 c3 => ?z4)))
          case z1 =>
            intro i hi
            obtain ⟨v, ev⟩ := get_of_lt (a := a) (i := 0 + i) (by omega)
            exact ⟨v, ev, m.pa _ (mem_of_get ev)⟩
          case z2 => exact inc_of m.ia (by omega)
          case z3 =>
            intro i hi
            obtain ⟨v, ev⟩ := get_of_lt (a := a) (i := 0 + i) (by omega)
            rw [rkAt_get ev]
            exact m.ne v u (mem_of_get ev) mu
          case z4 =>
            dsimp only
            have j' := j.aG c1 eu (by omega) c3
            by_cases hk0 : na - k > 0
            · rw [if_pos hk0]
              by_cases q1 : k = 0
              · rw [if_pos (by rw [q1]; simp)]; exact wpT_pure ⟨g.mg _, .inl ⟨_, _, rfl, j'.doneA q1⟩⟩
              rw [if_neg (by simpa using q1)]
              have c4 := c2 (k - 1) (by omega)
              have l1 : 1 ≤ k := by omega
              have l2 : k ≤ na := by omega
              generalize out ++ (a.extract k na).reverse = o2 at j' ⊢
              generalize hi2 : k = i2 at j' c4 l1 l2 ⊢
              obtain ⟨v, ev⟩ := get_of_lt (a := a) (i := i2 - 1) (by omega)
              have mv := mem_of_get ev
              have j2 := j'.b1 ev eu (by omega) (by omega) (by rwa [Nat.zero_add, rkAt_get ev] at c4)
              refine wpT_bind (wpT_elem eu ?_)
              by_cases q3 : nb - 1 = 1
              · rw [if_pos (by rw [q3]; simp)]; exact wpT_pure ⟨g.mg _, .inl ⟨_, _, rfl, j2.firstB m q3⟩⟩
              rw [if_neg (by simpa using q3)]
              refine wpT_bind (wpT_elem ev (wpT_bind (wpT_gallop C ((g.mg _).kind.trans hk) (m.pa _ mv) ?y1 ?y2 ?y3 (by omega) fun k2 d1 d2 d3 => ?y4)))
              case y1 =>
                intro i hi
                obtain ⟨v', ev'⟩ := get_of_lt (a := b) (i := 0 + i) (by omega)
                exact ⟨v', ev', m.pb _ (mem_of_get ev')⟩
              case y2 => exact inc_of m.ib (by omega)
              case y3 =>
                intro i hi
                obtain ⟨v', ev'⟩ := get_of_lt (a := b) (i := 0 + i) (by omega)
                rw [rkAt_get ev']
                exact (m.ne v v' mv (mem_of_get ev')).symm
              case y4 =>
                dsimp only
                have j3 := j2.bG d1 ev (by omega) d3
                by_cases hk2 : nb - 1 - k2 > 0
                · rw [if_pos hk2]
                  by_cases q4 : k2 = 1
                  · rw [if_pos (by rw [q4]; simp)]; exact wpT_pure ⟨g.mg _, .inl ⟨_, _, rfl, j3.firstB m q4⟩⟩
                  rw [if_neg (by simpa using q4)]
                  by_cases q5 : k2 = 0
                  · rw [if_pos (by rw [q5]; simp)]; exact wpT_pure ⟨g.mg _, .inl ⟨_, _, rfl, j3.doneB q5⟩⟩
                  rw [if_neg (by simpa using q5)]
                  have c5 := d2 (k2 - 1) (by omega)
                  have l3 : 2 ≤ k2 := by omega
                  have l4 : k2 ≤ nb - 1 := by omega
                  generalize o2.push u ++ (b.extract k2 (nb - 1)).reverse = o3 at j3 ⊢
                  generalize hi3 : k2 = i3 at j3 c5 l3 l4 ⊢
                  obtain ⟨z, ez⟩ := get_of_lt (a := b) (i := i3 - 1) (by omega)
                  have j4 := j3.a1 ev ez (by omega) (by omega) (by rwa [Nat.zero_add, rkAt_get ez] at c5)
                  refine wpT_bind (wpT_elem ev ?_)
                  by_cases q4 : i2 - 1 = 0
                  · rw [if_pos (by rw [q4]; simp)]; exact wpT_pure ⟨g.mg _, .inl ⟨_, _, rfl, j4.doneA q4⟩⟩
                  rw [if_neg (by simpa using q4)]
                  split
                  · exact wpT_pure ⟨g.mg _, .inr ⟨_, _, _, _, _, _, rfl, j4, by omega, by omega, by omega, by omega, by omega⟩⟩
                  · exact wpT_pure ⟨g.mg _, _, _, _, _, _, _, rfl, j4, by omega, by omega, by omega, by omega, by omega⟩
                · rw [if_neg hk2]
                  obtain rfl : k2 = nb - 1 := by omega
                  have c5 := d2 (nb - 1 - 1) (by omega)
                  clear j3
                  have j3 := j2
                  have l3 : 2 ≤ nb - 1 := by omega
                  have l4 : nb - 1 ≤ nb - 1 := by omega
                  generalize o2.push u = o3 at j3 ⊢
                  generalize hi3 : nb - 1 = i3 at j3 c5 l3 l4 ⊢
                  obtain ⟨z, ez⟩ := get_of_lt (a := b) (i := i3 - 1) (by omega)
                  have j4 := j3.a1 ev ez (by omega) (by omega) (by rwa [Nat.zero_add, rkAt_get ez] at c5)
                  refine wpT_bind (wpT_elem ev ?_)
                  by_cases q4 : i2 - 1 = 0
                  · rw [if_pos (by rw [q4]; simp)]; exact wpT_pure ⟨g.mg _, .inl ⟨_, _, rfl, j4.doneA q4⟩⟩
                  rw [if_neg (by simpa using q4)]
                  split
                  · exact wpT_pure ⟨g.mg _, .inr ⟨_, _, _, _, _, _, rfl, j4, by omega, by omega, by omega, by omega, by omega⟩⟩
                  · exact wpT_pure ⟨g.mg _, _, _, _, _, _, _, rfl, j4, by omega, by omega, by omega, by omega, by omega⟩
            · rw [if_neg hk0]
              obtain rfl : k = na := by omega
              have c4 := c2 (k - 1) (by omega)
              clear j'
              have j' := j
              have l1 : 1 ≤ k := by omega
              have l2 : k ≤ k := by omega
              generalize out = o2 at j' ⊢
              generalize hi2 : k = i2 at j' c4 l1 l2 ⊢
              obtain ⟨v, ev⟩ := get_of_lt (a := a) (i := i2 - 1) (by omega)
              have mv := mem_of_get ev
              have j2 := j'.b1 ev eu (by omega) (by omega) (by rwa [Nat.zero_add, rkAt_get ev] at c4)
              refine wpT_bind (wpT_elem eu ?_)
              by_cases q3 : nb - 1 = 1
              · rw [if_pos (by rw [q3]; simp)]; exact wpT_pure ⟨g.mg _, .inl ⟨_, _, rfl, j2.firstB m q3⟩⟩
              rw [if_neg (by simpa using q3)]
              refine wpT_bind (wpT_elem ev (wpT_bind (wpT_gallop C ((g.mg _).kind.trans hk) (m.pa _ mv) ?y1 ?y2 ?y3 (by omega) fun k2 d1 d2 d3 => ?y4)))
              case y1 =>
                intro i hi
                obtain ⟨v', ev'⟩ := get_of_lt (a := b) (i := 0 + i) (by omega)
                exact ⟨v', ev', m.pb _ (mem_of_get ev')⟩
              case y2 => exact inc_of m.ib (by omega)
              case y3 =>
                intro i hi
                obtain ⟨v', ev'⟩ := get_of_lt (a := b) (i := 0 + i) (by omega)
                rw [rkAt_get ev']
                exact (m.ne v v' mv (mem_of_get ev')).symm
              case y4 =>
                dsimp only
                have j3 := j2.bG d1 ev (by omega) d3
                by_cases hk2 : nb - 1 - k2 > 0
                · rw [if_pos hk2]
                  by_cases q4 : k2 = 1
                  · rw [if_pos (by rw [q4]; simp)]; exact wpT_pure ⟨g.mg _, .inl ⟨_, _, rfl, j3.firstB m q4⟩⟩
                  rw [if_neg (by simpa using q4)]
                  by_cases q5 : k2 = 0
                  · rw [if_pos (by rw [q5]; simp)]; exact wpT_pure ⟨g.mg _, .inl ⟨_, _, rfl, j3.doneB q5⟩⟩
                  rw [if_neg (by simpa using q5)]
                  have c5 := d2 (k2 - 1) (by omega)
                  have l3 : 2 ≤ k2 := by omega
                  have l4 : k2 ≤ nb - 1 := by omega
                  generalize o2.push u ++ (b.extract k2 (nb - 1)).reverse = o3 at j3 ⊢
                  generalize hi3 : k2 = i3 at j3 c5 l3 l4 ⊢
                  obtain ⟨z, ez⟩ := get_of_lt (a := b) (i := i3 - 1) (by omega)
                  have j4 := j3.a1 ev ez (by omega) (by omega) (by rwa [Nat.zero_add, rkAt_get ez] at c5)
                  refine wpT_bind (wpT_elem ev ?_)
                  by_cases q4 : i2 - 1 = 0
                  · rw [if_pos (by rw [q4]; simp)]; exact wpT_pure ⟨g.mg _, .inl ⟨_, _, rfl, j4.doneA q4⟩⟩
                  rw [if_neg (by simpa using q4)]
                  split
                  · exact wpT_pure ⟨g.mg _, .inr ⟨_, _, _, _, _, _, rfl, j4, by omega, by omega, by omega, by omega, by omega⟩⟩
                  · exact wpT_pure ⟨g.mg _, _, _, _, _, _, _, rfl, j4, by omega, by omega, by omega, by omega, by omega⟩
                · rw [if_neg hk2]
                  obtain rfl : k2 = nb - 1 := by omega
                  have c5 := d2 (nb - 1 - 1) (by omega)
                  clear j3
                  have j3 := j2
                  have l3 : 2 ≤ nb - 1 := by omega
                  have l4 : nb - 1 ≤ nb - 1 := by omega
                  generalize o2.push u = o3 at j3 ⊢
                  generalize hi3 : nb - 1 = i3 at j3 c5 l3 l4 ⊢
                  obtain ⟨z, ez⟩ := get_of_lt (a := b) (i := i3 - 1) (by omega)
                  have j4 := j3.a1 ev ez (by omega) (by omega) (by rwa [Nat.zero_add, rkAt_get ez] at c5)
                  refine wpT_bind (wpT_elem ev ?_)
                  by_cases q4 : i2 - 1 = 0
                  · rw [if_pos (by rw [q4]; simp)]; exact wpT_pure ⟨g.mg _, .inl ⟨_, _, rfl, j4.doneA q4⟩⟩
                  rw [if_neg (by simpa using q4)]
                  split
                  · exact wpT_pure ⟨g.mg _, .inr ⟨_, _, _, _, _, _, rfl, j4, by omega, by omega, by omega, by omega, by omega⟩⟩
                  · exact wpT_pure ⟨g.mg _, _, _, _, _, _, _, rfl, j4, by omega, by omega, by omega, by omega, by omega⟩
end
end Mine
end
section
open PySem PySem.W PyProof.Rows PySem.Calls PySem.Spec
set_option Elab.async false
set_option maxRecDepth 100000
set_option maxHeartbeats 4000000
set_option linter.unusedVariables false
set_option rowWalk.seconds 0
namespace Mine
theorem start_S6 : True := by w_top off; trivial
theorem mergeAt'_eq (i : Nat) : mergeAt' i = (do
  let s ← get
  let (some (sa, na, power), some (sb, nb, _)) := ((pendingOf s)[i]?, (pendingOf s)[i + 1]?) | unsupported "internal:list.sort.pending"
  set (setPending s (((pendingOf s).setIfInBounds i (sa, na + nb, power)).eraseIdxIfInBounds (i + 1)))
  let some k ← gallop' false (← elem' (arrOf s) sb) (arrOf s) sa na 0 | return false
  let (sa, na) := (sa + k, na - k)
  if na == 0 then return true
  let some nb ← gallop' true (← elem' (arrOf s) (sa + na - 1)) (arrOf s) sb nb (nb - 1) | return false
  if nb == 0 then return true
  let x := (arrOf s).extract sa sb
  let y := (arrOf s).extract sb (sb + nb)
  let merged ← if na ≤ nb then mergeLo' x y else mergeHi' x y
  modify fun s => setArr s (merged.toList.zipIdx.foldl (fun a (p, j) => a.setIfInBounds (sa + j) p) (arrOf s))
  return (failedOf (← get)).isNone) := rfl
theorem writeback (sa : Nat) : ∀ (r : List Keyed) (i : Nat) (a : Array Keyed), sa + i + r.length ≤ a.size →
    ((r.zipIdx i).foldl (fun a (p : Keyed × Nat) => a.setIfInBounds (sa + p.2) p.1) a).toList = a.toList.take (sa + i) ++ (r ++ a.toList.drop (sa + i + r.length))
  | [], i, a, h => by simp
  | x :: r, i, a, h => by
    rw [List.zipIdx_cons, List.foldl_cons]
    simp only [List.length_cons] at h ⊢
    rw [writeback sa r (i + 1) _ (by simp; omega)]
    simp only [Array.toList_setIfInBounds]
    rw [List.drop_set, if_pos (by omega), List.take_set, show sa + (i + 1) = (sa + i) + 1 by omega, List.take_succ_eq_append_getElem (by simp; omega), List.set_append_right _ _ (by simp; omega)]
    have : sa + i - (List.take (sa + i) a.toList).length = 0 := by simp; omega
    rw [this]
    simp only [List.set_cons_zero, List.append_assoc, List.cons_append, List.nil_append]
    rw [show sa + i + 1 + r.length = sa + i + (r.length + 1) by omega]
theorem ext_get {a : Array Keyed} {lo hi i : Nat} (h : lo + i < hi) (h2 : hi ≤ a.size) : (a.extract lo hi)[i]? = a[lo + i]? := by
  rw [Array.getElem?_extract, if_pos (by omega)]
theorem ext_mem {a : Array Keyed} {lo hi : Nat} {x : Keyed} (h : x ∈ (a.extract lo hi).toList) : ∃ i, lo ≤ i ∧ i < hi ∧ i < a.size ∧ a[i]? = some x := by
  obtain ⟨i, hi⟩ := List.mem_iff_getElem?.mp h
  rw [Array.getElem?_toList, Array.getElem?_extract] at hi
  split at hi
  · exact ⟨lo + i, by omega, by omega, by omega, hi⟩
  · cases hi
theorem pw_of_inc {rk : Keyed → Int} {a : Array Keyed} {lo hi : Nat} (h : Inc rk a lo hi) (h2 : hi ≤ a.size) : (a.extract lo hi).toList.Pairwise (Lt rk) := by
  refine List.pairwise_iff_getElem.mpr fun i j ki kj hij => ?_
  have l1 : j < (a.extract lo hi).size := by rw [Array.length_toList] at kj; exact kj
  have sz : (a.extract lo hi).size = hi - lo := by simp; omega
  have ei := ext_get (a := a) (lo := lo) (hi := hi) (i := i) (by omega) h2
  have ej := ext_get (a := a) (lo := lo) (hi := hi) (i := j) (by omega) h2
  rw [getElem?_pos _ i (by omega)] at ei
  rw [getElem?_pos _ j (by omega)] at ej
  have := h (lo + i) (lo + j) (by omega) (by omega) (by omega)
  rw [rkAt_get ei.symm, rkAt_get ej.symm] at this
  show rk _ < rk _
  rw [Array.getElem_toList, Array.getElem_toList]
  exact this
section
variable {M : Model} {A : Around} {Inv : Shared → Prop} {κ : SortKind} {P : Keyed → Prop} {rk : Keyed → Int} {a₀ : Array Keyed}
theorem wpT_mergeAt {st : SortSt} {n1 n2 p q : Nat} {Q : Bool → SortSt → Prop} (C : Cmp M A Inv κ P rk) (I : Its P rk a₀) (B : SB κ a₀ st) (hp : pendingOf st = #[(0, n1, p), (n1, n2, q)]) (h1 : 1 ≤ n1) (h2 : 1 ≤ n2) (hs : n1 + n2 = a₀.size)
    (i1 : Inc rk (arrOf st) 0 n1) (i2 : Inc rk (arrOf st) n1 (n1 + n2))
    (h : ∀ st', SB κ a₀ st' → pendingOf st' = #[(0, n1 + n2, p)] → (arrOf st').toList.Pairwise (Lt rk) → Q true st') :
    wpT M A Inv (mergeAt' 0) Q st := by
  rw [mergeAt'_eq]
  refine wpT_bind (wpT_get ?_)
  rw [hp]
  have er : ((#[(0, n1, p), (n1, n2, q)] : Array (Nat × Nat × Nat)).setIfInBounds 0 (0, n1 + n2, p)).eraseIdxIfInBounds (0 + 1) = #[(0, n1 + n2, p)] := by
    apply Array.toList_inj.mp
    simp
  simp only [show (#[(0, n1, p), (n1, n2, q)] : Array (Nat × Nat × Nat))[0]? = some (0, n1, p) from rfl, show (#[(0, n1, p), (n1, n2, q)] : Array (Nat × Nat × Nat))[0 + 1]? = some (n1, n2, q) from rfl,
    show ((#[(0, n1, p), (n1, n2, q)] : Array (Nat × Nat × Nat)).setIfInBounds 0 (0, n1 + n2, p)).eraseIdxIfInBounds (0 + 1) = #[(0, n1 + n2, p)] from er]
  refine wpT_bind (wpT_set ?_)
  have sz := B.size
  have I' := I.perm B.perm
  have bp := B.perm
  have B' : SB κ a₀ (setPending st #[(0, n1 + n2, p)]) := ⟨B.perm, B.kind, B.failed⟩
  have pd' : pendingOf (setPending st #[(0, n1 + n2, p)]) = #[(0, n1 + n2, p)] := rfl
  have ar' : arrOf (setPending st #[(0, n1 + n2, p)]) = arrOf st := rfl
  generalize setPending st #[(0, n1 + n2, p)] = st1 at B' pd' ar' ⊢
  generalize arrOf st = arr at *
  obtain ⟨u, eu⟩ := get_of_lt (a := arr) (i := n1) (by omega)
  have pu := I'.all _ (mem_of_get eu)
  have pall : ∀ i, i < arr.size → ∃ x, arr[i]? = some x ∧ P x := fun i hi => (I'.get hi).imp fun x hx => ⟨hx.1, hx.2.1⟩
  refine wpT_bind (wpT_elem eu (wpT_bind (wpT_gallop C B'.kind pu (fun i hi => pall _ (by omega)) (by rw [Nat.zero_add]; exact i1) (fun i hi => ?z3) h1 fun k c1 c2 c3 => ?z4)))
  case z3 =>
    rw [← rkAt_get (rk := rk) eu]
    exact I'.ne (by omega) (by omega) (by omega)
  case z4 =>
    simp only [Nat.zero_add] at c2 c3 ⊢
    -- before k, all is below the second run
    have lowL : ∀ i j, i < k → n1 ≤ j → j < n1 + n2 → rkAt rk arr i < rkAt rk arr j := by
      intro i j hi hj hj2
      have := c2 i hi
      rw [← rkAt_get (rk := rk) eu] at this
      rcases Nat.lt_or_ge n1 j with l | l
      · exact Int.lt_trans this (i2 _ _ (by omega) l hj2)
      · rw [show j = n1 by omega]; exact this
    by_cases q1 : n1 - k = 0
    · rw [if_pos (by rw [q1]; simp)]
      refine wpT_pure (h _ B' pd' ?_)
      rw [ar']
      have e : arr.toList = (arr.extract 0 arr.size).toList := by simp
      rw [e]
      refine pw_of_inc (fun i j _ hij hj => ?_) (Nat.le_refl _)
      rcases Nat.lt_or_ge j n1 with l | l
      · exact i1 _ _ (by omega) hij l
      · rcases Nat.lt_or_ge i n1 with l' | l'
        · exact lowL i j (by omega) l (by omega)
        · exact i2 _ _ l' hij (by omega)
    rw [if_neg (by simpa using q1)]
    rw [show k + (n1 - k) - 1 = n1 - 1 by omega]
    obtain ⟨v, ev⟩ := get_of_lt (a := arr) (i := n1 - 1) (by omega)
    have pv := I'.all _ (mem_of_get ev)
    refine wpT_bind (wpT_elem ev (wpT_bind (wpT_gallop C B'.kind pv (fun i hi => pall _ (by omega)) i2 (fun i hi => ?y3) (by omega) fun k2 d1 d2 d3 => ?y4)))
    case y3 =>
      rw [← rkAt_get (rk := rk) ev]
      exact I'.ne (by omega) (by omega) (by omega)
    case y4 =>
      dsimp only
      have hiR : ∀ i j, i < n1 → n1 + k2 ≤ j → j < n1 + n2 → rkAt rk arr i < rkAt rk arr j := by
        intro i j hi hj hj2
        have := d3 (j - n1) (by omega) (by omega)
        rw [← rkAt_get (rk := rk) ev, show n1 + (j - n1) = j by omega] at this
        rcases Nat.lt_or_ge i (n1 - 1) with l | l
        · exact Int.lt_trans (i1 _ _ (by omega) l (by omega)) this
        · rw [show i = n1 - 1 by omega]; exact this
      by_cases q2 : k2 = 0
      · rw [if_pos (by rw [q2]; simp)]
        refine wpT_pure (h _ B' pd' ?_)
        rw [ar']
        have e : arr.toList = (arr.extract 0 arr.size).toList := by simp
        rw [e]
        refine pw_of_inc (fun i j _ hij hj => ?_) (Nat.le_refl _)
        rcases Nat.lt_or_ge j n1 with l | l
        · exact i1 _ _ (by omega) hij l
        · rcases Nat.lt_or_ge i n1 with l' | l'
          · exact hiR i j l' (by omega) (by omega)
          · exact i2 _ _ l' hij (by omega)
      rw [if_neg (by simpa using q2)]
      have szx : (arr.extract k n1).size = n1 - k := by simp; omega
      have szy : (arr.extract n1 (n1 + k2)).size = k2 := by simp; omega
      have m : MPre P rk (arr.extract k n1) (arr.extract n1 (n1 + k2)) := by
        refine ⟨fun x hx => ?_, fun x hx => ?_, pw_of_inc (fun i j a1 a2 a3 => i1 i j (by omega) a2 a3) (by omega), pw_of_inc (fun i j a1 a2 a3 => i2 i j a1 a2 (by omega)) (by omega), by omega, by omega, fun x y hx hy => ?_, fun x y hx hy => ?_, fun x y hx hy => ?_⟩
        · obtain ⟨i, _, _, _, e⟩ := ext_mem hx
          exact I'.all _ (mem_of_get e)
        · obtain ⟨i, _, _, _, e⟩ := ext_mem hx
          exact I'.all _ (mem_of_get e)
        · obtain ⟨i, l1, l2, _, e⟩ := ext_mem hy
          rw [ext_get (by omega) (by omega), Nat.add_zero, eu] at hx
          rw [← Option.some.inj hx, ← rkAt_get (rk := rk) e]
          exact c3 i l1 l2
        · obtain ⟨i, l1, l2, _, e⟩ := ext_mem hx
          rw [szx, ext_get (by omega) (by omega), show k + (n1 - k - 1) = n1 - 1 by omega, ev] at hy
          rw [← Option.some.inj hy, ← rkAt_get (rk := rk) e]
          have := d2 (i - n1) (by omega)
          rwa [show n1 + (i - n1) = i by omega] at this
        · obtain ⟨i, l1, l2, l3, e⟩ := ext_mem hx
          obtain ⟨j, m1, m2, m3, f⟩ := ext_mem hy
          rw [← rkAt_get (rk := rk) e, ← rkAt_get (rk := rk) f]
          exact I'.ne l3 m3 (by omega)
      have fin : ∀ r st', Good rk (arr.extract k n1) (arr.extract n1 (n1 + k2)) r → Gs st1 st' → wpT M A Inv (do
          modify fun s => setArr s (r.toList.zipIdx.foldl (fun a (x : Keyed × Nat) => a.setIfInBounds (k + x.2) x.1) (arrOf s))
          return (failedOf (← get)).isNone) Q st' := by
        intro r st' G g
        refine wpT_bind (wpT_modify (wpT_bind (wpT_get ?_)))
        have lr : r.toList.length = (n1 - k) + k2 := by
          rw [G.perm.length_eq]; simp; omega
        have wb := writeback k r.toList 0 arr (by omega)
        rw [g.arr, ar']
        have hf : (failedOf (setArr st' (r.toList.zipIdx.foldl (fun a (x : Keyed × Nat) => a.setIfInBounds (k + x.2) x.1) arr))).isNone = true := by
          show (failedOf st').isNone = true
          rw [g.failed, B'.failed]; rfl
        rw [hf]
        have eL : arr.toList.take (k + 0) = (arr.extract 0 k).toList := by rw [ext_take]; rfl
        have eR : arr.toList.drop (k + 0 + r.toList.length) = (arr.extract (n1 + k2) arr.size).toList := by rw [ext_drop, lr]; congr 1; omega
        rw [eL, eR] at wb
        have eA : arr.toList = (arr.extract 0 k).toList ++ (((arr.extract k n1).toList ++ (arr.extract n1 (n1 + k2)).toList) ++ (arr.extract (n1 + k2) arr.size).toList) := by
          have t1 := take_seg arr (i := k) (n := n1) (by omega)
          have t2 := take_seg arr (i := n1) (n := n1 + k2) (by omega)
          rw [ext_take, ext_drop, List.append_assoc, ← List.append_assoc (List.take k arr.toList), t1, ← List.append_assoc, t2, List.take_append_drop]
        refine wpT_pure (h _ ⟨?_, ?_, ?_⟩ ?_ ?_)
        · refine Array.Perm.trans (Array.perm_iff_toList_perm.mpr ?_) bp
          show (r.toList.zipIdx.foldl (fun a (x : Keyed × Nat) => a.setIfInBounds (k + x.2) x.1) arr).toList.Perm _
          rw [wb]
          conv => rhs; rw [eA]
          exact List.Perm.append_left _ (List.Perm.append_right _ G.perm)
        · show kindOf st' = κ
          rw [g.kind, B'.kind]
        · show failedOf st' = none
          rw [g.failed, B'.failed]
        · show pendingOf st' = _
          rw [g.pend, pd']
        · show (r.toList.zipIdx.foldl (fun a (x : Keyed × Nat) => a.setIfInBounds (k + x.2) x.1) arr).toList.Pairwise _
          rw [wb]
          have memr : ∀ x, x ∈ r.toList → ∃ i, k ≤ i ∧ i < n1 + k2 ∧ arr[i]? = some x := by
            intro x hx
            rcases List.mem_append.mp (G.perm.mem_iff.mp hx) with t | t
            · obtain ⟨i, l1, l2, _, e⟩ := ext_mem t
              exact ⟨i, l1, by omega, e⟩
            · obtain ⟨i, l1, l2, _, e⟩ := ext_mem t
              exact ⟨i, by omega, l2, e⟩
          have rR : ∀ i j, i < n1 + k2 → n1 + k2 ≤ j → j < n1 + n2 → rkAt rk arr i < rkAt rk arr j := by
            intro i j l1 l2 l3
            rcases Nat.lt_or_ge i n1 with l | l
            · exact hiR i j l l2 l3
            · exact i2 i j l (by omega) l3
          refine List.pairwise_append.mpr ⟨pw_of_inc (fun i j a1 a2 a3 => i1 i j (by omega) a2 (by omega)) (by omega), List.pairwise_append.mpr ⟨G.inc, pw_of_inc (fun i j a1 a2 a3 => i2 i j (by omega) a2 (by omega)) (by omega), fun x hx y hy => ?_⟩, fun x hx y hy => ?_⟩
          · obtain ⟨i, l1, l2, e⟩ := memr x hx
            obtain ⟨j, m1, m2, m3, f⟩ := ext_mem hy
            show rk x < rk y
            rw [← rkAt_get (rk := rk) e, ← rkAt_get (rk := rk) f]
            exact rR i j l2 m1 (by omega)
          · obtain ⟨i, l1, l2, l3, e⟩ := ext_mem hx
            show rk x < rk y
            rw [← rkAt_get (rk := rk) e]
            rcases List.mem_append.mp hy with t | t
            · obtain ⟨j, m1, m2, f⟩ := memr y t
              rw [← rkAt_get (rk := rk) f]
              rcases Nat.lt_or_ge j n1 with l | l
              · exact i1 i j (by omega) (by omega) l
              · exact lowL i j l2 l (by omega)
            · obtain ⟨j, m1, m2, m3, f⟩ := ext_mem t
              rw [← rkAt_get (rk := rk) f]
              exact rR i j (by omega) m1 (by omega)
      by_cases hle : n1 - k ≤ k2
      · rw [if_pos hle]
        exact wpT_bind (wpT_mergeLo C B'.kind m fin)
      · rw [if_neg hle]
        exact wpT_bind (wpT_mergeHi C B'.kind m fin)
end
end Mine
end
section
open PySem PySem.W PyProof.Rows PySem.Calls PySem.Spec
set_option Elab.async false
set_option maxRecDepth 100000
set_option maxHeartbeats 4000000
set_option linter.unusedVariables false
set_option rowWalk.seconds 0
namespace Mine
theorem start_S7 : True := by w_top off; trivial
theorem minRun_le (n : Nat) (h2 : 2 ≤ n) (h : n ≤ 64) : 1 ≤ minRun' n n 0 ∧ minRun' n n 0 ≤ n ∧ n ≤ 2 * minRun' n n 0 := by
  rcases Nat.lt_or_ge n 64 with l | l
  · obtain ⟨f, hf⟩ : ∃ f, n = f + 1 := ⟨n - 1, by omega⟩
    have : minRun' (f + 1) n 0 = n := by rw [minRun'_succ, if_pos l]; rfl
    rw [← hf] at this
    rw [this]; omega
  · have : n = 64 := by omega
    subst this
    decide
section
variable {M : Model} {A : Around} {Inv : Shared → Prop} {κ : SortKind} {P : Keyed → Prop} {rk : Keyed → Int} {a₀ : Array Keyed}
theorem inc_congr {xs ys : Array Keyed} {lo hi : Nat} (h : Inc rk xs lo hi) (e : ∀ k, lo ≤ k → k < hi → ys[k]? = xs[k]?) : Inc rk ys lo hi := by
  intro i j h1 h2 h3
  rw [rkAt_congr (e i h1 (by omega)), rkAt_congr (e j (by omega) h3)]
  exact h i j h1 h2 h3
theorem pw_all {a : Array Keyed} (h : Inc rk a 0 a.size) : a.toList.Pairwise (Lt rk) := by
  have e : a.toList = (a.extract 0 a.size).toList := by simp
  rw [e]
  exact pw_of_inc h (Nat.le_refl _)
/-- the state of the run's loop -/
def RI (κ : SortKind) (rk : Keyed → Int) (a₀ : Array Keyed) (R x lo : Nat) (st : SortSt) : Prop :=
  (x = 0 ∧ lo = 0 ∧ SB κ a₀ st ∧ pendingOf st = #[]) ∨ (x = 1 ∧ SB κ a₀ st ∧ pendingOf st = #[(0, lo, 0)] ∧ R ≤ lo ∧ lo ≤ a₀.size ∧ Inc rk (arrOf st) 0 lo) ∨
  (x = 2 ∧ lo = a₀.size ∧ ∃ n q, SB κ a₀ st ∧ pendingOf st = #[(0, n, q), (n, a₀.size - n, 0)] ∧ R ≤ n ∧ n < a₀.size ∧ Inc rk (arrOf st) 0 n ∧ Inc rk (arrOf st) n a₀.size)
theorem wpT_sortRuns {st : SortSt} {Q : Unit → SortSt → Prop} (C : Cmp M A Inv κ P rk) (I : Its P rk a₀) (B : SB κ a₀ st) (hp : pendingOf st = #[]) (h2 : 2 ≤ a₀.size) (h64 : a₀.size ≤ 64)
    (h : ∀ st', SB κ a₀ st' → (arrOf st').toList.Pairwise (Lt rk) → Q () st') : wpT M A Inv sortRuns' Q st := by
  rw [sortRuns'_eq]
  refine wpT_bind (wpT_get ?_)
  dsimp only
  obtain ⟨r1, r2, r3⟩ := minRun_le a₀.size h2 h64
  simp only [B.size]
  generalize minRun' a₀.size a₀.size 0 = R at r1 r2 r3 ⊢
  refine wpT_bind (wpT_mono (wpT_for
    (I := fun x c st' => ∃ lo, c = (none, lo) ∧ RI κ rk a₀ R x lo st')
    (Q := fun c st' => c = (none, a₀.size) ∧ ((SB κ a₀ st' ∧ pendingOf st' = #[(0, a₀.size, 0)] ∧ Inc rk (arrOf st') 0 a₀.size) ∨ RI κ rk a₀ R 2 a₀.size st')) ?step ?fin ⟨0, rfl, .inl ⟨rfl, rfl, B, hp⟩⟩) ?post)
  case fin =>
    rintro c st' ⟨lo, rfl, r⟩
    rcases r with ⟨hx, _⟩ | ⟨hx, _⟩ | ⟨hx, rfl, r⟩
    · omega
    · omega
    · exact ⟨rfl, .inr (.inr (.inr ⟨rfl, rfl, r⟩))⟩
  case step =>
    rintro x c st' _ hx ⟨lo, rfl, r⟩
    dsimp only
    by_cases hge : lo ≥ a₀.size
    · rw [if_pos hge]
      rcases r with ⟨hx, rfl, _⟩ | ⟨hx, B, p, h1, h2, i⟩ | ⟨hx, rfl, r⟩
      · omega
      · obtain rfl : lo = a₀.size := by omega
        exact wpT_pure ⟨rfl, .inl ⟨B, p, i⟩⟩
      · exact wpT_pure ⟨rfl, .inr (.inr (.inr ⟨rfl, rfl, r⟩))⟩
    · rw [if_neg hge]
      rcases r with ⟨rfl, rfl, B, p⟩ | ⟨rfl, B, p, h1, h2, i⟩ | ⟨_, rfl, _⟩
      rotate_left 2
      · omega
      · refine wpT_bind (wpT_countRun C I B (by omega) (by omega) fun m st2 hm1 hm2 B2 p2 _ s2 => ?_)
        simp only [Nat.zero_add, Nat.sub_zero] at *
        by_cases hlt : m < R
        · rw [if_pos hlt]
          refine wpT_bind (wpT_rule ?_)
          simp only [Nat.min_eq_right r2]
          refine wpT_bind (wpT_binarySort C I B2 (by omega) (by omega) (by rw [Nat.zero_add]; exact s2) fun st3 B3 p3 _ s3 => ?_)
          simp only [Bool.not_true, Bool.false_eq_true, if_false, Nat.zero_add] at *
          refine wpT_bind (wpT_get ?_)
          have hb : (pendingOf st3).back? = none := by rw [p3, p2, p]; rfl
          rw [hb]
          dsimp only
          refine wpT_bind (wpT_modify (wpT_pure ⟨_, rfl, .inr (.inl ⟨rfl, ⟨B3.perm, B3.kind, B3.failed⟩, ?_, Nat.le_refl _, r2, s3⟩)⟩))
          show (pendingOf st3).push _ = _
          rw [p3, p2, p]; rfl
        · rw [if_neg hlt]
          refine wpT_bind (wpT_get ?_)
          have hb : (pendingOf st2).back? = none := by rw [p2, p]; rfl
          rw [hb]
          dsimp only
          refine wpT_bind (wpT_modify (wpT_pure ⟨_, rfl, .inr (.inl ⟨rfl, ⟨B2.perm, B2.kind, B2.failed⟩, ?_, by omega, by omega, s2⟩)⟩))
          show (pendingOf st2).push _ = _
          rw [p2, p]; rfl
      · have tail : ∀ st3, SB κ a₀ st3 → pendingOf st3 = #[(0, lo, 0)] → Inc rk (arrOf st3) 0 lo → Inc rk (arrOf st3) lo a₀.size → ∀ pw, RI κ rk a₀ R 2 (lo + (a₀.size - lo)) (setPending (setPending st3 ((pendingOf st3).modify ((pendingOf st3).size - 1) fun (x : Nat × Nat × Nat) => (x.1, x.2.1, pw))) ((pendingOf (setPending st3 ((pendingOf st3).modify ((pendingOf st3).size - 1) fun (x : Nat × Nat × Nat) => (x.1, x.2.1, pw)))).push (lo, a₀.size - lo, 0))) := by
          intro st3 B3 p3 j1 j2 pw
          rw [show lo + (a₀.size - lo) = a₀.size by omega]
          refine .inr (.inr ⟨rfl, rfl, lo, pw, ⟨B3.perm, B3.kind, B3.failed⟩, ?_, h1, by omega, j1, j2⟩)
          show ((pendingOf st3).modify ((pendingOf st3).size - 1) fun (x : Nat × Nat × Nat) => (x.1, x.2.1, pw)).push _ = _
          rw [p3]; rfl
        refine wpT_bind (wpT_countRun C I B (by omega) (by omega) fun m st2 hm1 hm2 B2 p2 o2 s2 => ?_)
        dsimp only
        by_cases hlt : m < R
        · rw [if_pos hlt]
          refine wpT_bind (wpT_rule ?_)
          simp only [Nat.min_eq_left (show a₀.size - lo ≤ R by omega)]
          refine wpT_bind (wpT_binarySort C I B2 (by omega) (by omega) s2 fun st3 B3 p3 o3 s3 => ?_)
          simp only [Bool.not_true, Bool.false_eq_true, if_false]
          refine wpT_bind (wpT_get ?_)
          have pp : pendingOf st3 = #[(0, lo, 0)] := by rw [p3, p2, p]
          have hb : (pendingOf st3).back? = some (0, lo, 0) := by rw [pp]; rfl
          rw [hb]
          dsimp only
          refine wpT_bind (wpT_mono (wpT_for (I := fun _ c st'' => st3 = st'' ∧ c = (none, ())) (Q := fun c st'' => st3 = st'' ∧ c = (none, ())) ?_ (fun _ _ hh => hh) ⟨rfl, rfl⟩) ?_)
          · rintro y c st'' _ _ ⟨rfl, rfl⟩
            refine wpT_bind (wpT_get ?_)
            rw [pp]
            exact wpT_pure ⟨rfl, rfl⟩
          · rintro c st'' ⟨rfl, rfl⟩
            dsimp only
            refine wpT_bind (wpT_modify (wpT_bind (wpT_modify (wpT_pure ⟨_, rfl, tail _ B3 pp ?_ ?_ _⟩))))
            · exact inc_congr i fun k _ hk => (o3 k (.inl hk)).trans (o2 k (.inl hk))
            · rw [show lo + (a₀.size - lo) = a₀.size by omega] at s3; exact s3
        · rw [if_neg hlt]
          obtain rfl : m = a₀.size - lo := by omega
          refine wpT_bind (wpT_get ?_)
          have pp : pendingOf st2 = #[(0, lo, 0)] := by rw [p2, p]
          have hb : (pendingOf st2).back? = some (0, lo, 0) := by rw [pp]; rfl
          rw [hb]
          dsimp only
          refine wpT_bind (wpT_mono (wpT_for (I := fun _ c st'' => st2 = st'' ∧ c = (none, ())) (Q := fun c st'' => st2 = st'' ∧ c = (none, ())) ?_ (fun _ _ hh => hh) ⟨rfl, rfl⟩) ?_)
          · rintro y c st'' _ _ ⟨rfl, rfl⟩
            refine wpT_bind (wpT_get ?_)
            rw [pp]
            exact wpT_pure ⟨rfl, rfl⟩
          · rintro c st'' ⟨rfl, rfl⟩
            dsimp only
            refine wpT_bind (wpT_modify (wpT_bind (wpT_modify (wpT_pure ⟨_, rfl, tail _ B2 pp ?_ ?_ _⟩))))
            · exact inc_congr i fun k _ hk => o2 k (.inl hk)
            · rw [show lo + (a₀.size - lo) = a₀.size by omega] at s2; exact s2
  case post =>
    rintro c st' ⟨rfl, r⟩
    dsimp only
    refine wpT_bind (wpT_mono (wpT_for (I := fun x c st' => c = (none, ()) ∧ ((SB κ a₀ st' ∧ (∃ q, pendingOf st' = #[(0, a₀.size, q)]) ∧ (arrOf st').toList.Pairwise (Lt rk)) ∨ (x = 0 ∧ RI κ rk a₀ R 2 a₀.size st')))
      (Q := fun c st' => c = (none, ()) ∧ SB κ a₀ st' ∧ (arrOf st').toList.Pairwise (Lt rk)) ?_ ?_ ⟨rfl, ?_⟩) ?_)
    · rintro x c st' _ hx ⟨rfl, ⟨B, ⟨q, hq⟩, s⟩ | ⟨rfl, r⟩⟩
      · refine wpT_bind (wpT_get ?_)
        rw [if_pos (by rw [hq]; exact Nat.le_refl 1)]
        exact wpT_pure ⟨rfl, B, s⟩
      · rcases r with ⟨hx, _⟩ | ⟨hx, _⟩ | ⟨_, _, n, q, B, p, h1, h2, i, i2⟩
        · omega
        · omega
        · refine wpT_bind (wpT_get ?_)
          rw [if_neg (by rw [p]; exact (by decide : ¬ (2 ≤ 1)))]
          rw [p]
          have := h1
          refine wpT_bind (wpT_mergeAt C I B p (by omega) (by omega) (by omega) i (by rw [show n + (a₀.size - n) = a₀.size by omega]; exact i2) fun st4 B4 p4 s4 => ?_)
          simp only [Bool.not_true, Bool.false_eq_true, if_false]
          refine wpT_pure ⟨rfl, .inl ⟨B4, ⟨q, ?_⟩, s4⟩⟩
          rw [p4, show n + (a₀.size - n) = a₀.size by omega]
    · rintro c st' ⟨rfl, ⟨B, ⟨q, hq⟩, s⟩ | ⟨h0, r⟩⟩
      · exact ⟨rfl, B, s⟩
      · omega
    · rcases r with ⟨B, p, i⟩ | r
      · exact .inl ⟨B, ⟨0, p⟩, pw_all (by rw [B.size]; exact i)⟩
      · exact .inr ⟨rfl, r⟩
    · rintro c st' ⟨rfl, B, s⟩
      exact wpT_pure (h _ B s)
end
end Mine
end
section
open PySem PySem.W PyProof.Rows PySem.Calls PySem.Spec
set_option Elab.async false
set_option maxRecDepth 100000
set_option maxHeartbeats 4000000
set_option linter.unusedVariables false
set_option rowWalk.seconds 0
namespace Mine
theorem start_S8 : True := by w_top off; trivial
/-- the keys made of the first items -/
def KeysAre (KO : Value → Obj → Prop) (kS D : Addr) (h : Heap) (kA : Array Value) (vs : List Value) : Prop :=
  kA.size = vs.length ∧ ∀ (j : Nat) (x : Value), vs[j]? = some x → ∃ y o, kA[j]? = some (Value.ref y) ∧ h.get? y = some o ∧ KO x o ∧ y ≠ kS ∧ y ≠ D
theorem keep_but {h h' : Heap} {a : Addr} {h₀ : Heap} (k : Keep h₀ h) (hs : Heap.SameBut a h h') (h0 : h₀.get? a = none) : Keep h₀ h' :=
  fun b x e => (hs.2 b (fun q => by rw [q, h0] at e; cases e)).trans (k b x e)
section
variable {prog : Program} {w : World} {A : Around} {E : Value → Shared → Prop} {s : Shared} {H₀ : Heap} {K D kS : Addr} {vs : List Value} {KO : Value → Obj → Prop} {rv : Value → Int} {P : PySem.Fin → Shared → Prop} {e1 : Nat}
theorem sk_rest (kp : Keep H₀ s.heap) (hD : s.heap.get? D = some (seqObj "list" #[] e1)) (hS : s.heap.get? kS = some (seqObj "list" #[] 0)) (hne : kS ≠ D) (hD0 : H₀.get? D = none) (hS0 : H₀.get? kS = none)
    (h2 : 2 ≤ vs.length) (h64 : vs.length ≤ 64) (hnd : (vs.map rv).Nodup) (hcls : ∀ x o, KO x o → o.cls = .ref K)
    (KC : ∀ x ∈ vs, ∀ h tk, Keep H₀ h → wpAny (model prog w) A (call (.ref K) [x]) (fun v s' => ∃ y o h' tk', v = .ref y ∧ s' = { s with heap := h', toks := tk' } ∧ Keep h h' ∧ h.get? y = none ∧ h'.get? y = some o ∧ KO x o) (fun _ _ => False) { s with heap := h, toks := tk })
    (CC : ∀ x ∈ vs, ∀ y ∈ vs, ∀ a b oa ob h tk, Keep H₀ h → h.get? a = some oa → KO x oa → h.get? b = some ob → KO y ob →
      wpAny (model prog w) A (keyLt' oneType' (.ref a) (.ref b)) (fun r s' => r = decide (rv x < rv y) ∧ ∃ h' tk', s' = { s with heap := h', toks := tk' } ∧ Keep h h') (fun _ _ => False) { s with heap := h, toks := tk })
    (ret : ∀ h' tk' out c, Keep H₀ h' → h'.get? D = some (listOf (List.toArray out) c) → out.Perm vs → out.Pairwise (fun x y => rv x < rv y) → P (.done (.ret .none)) { s with heap := h', toks := tk' }) :
    wpAny (model prog w) A (ksk_rest D (.ref K) false vs.toArray e1 (.ref kS)) P E s := by
  unfold ksk_rest
  refine wpAny_bind (wpAny_rule ?_)
  first
    | rw [List.forIn_toArray]
    | (rw [← Array.forIn_toList]; simp only [List.toList_toArray])
    | rw [← Array.forIn_toList]
  refine wpAny_bind (ksk_fold (fun i s' => ∃ h' tk kA e, s' = { s with heap := h', toks := tk } ∧ Keep H₀ h' ∧ h'.get? D = some (seqObj "list" #[] e1) ∧ h'.get? kS = some (seqObj "list" kA e) ∧ KeysAre KO kS D h' kA (vs.take i)) vs 0 s
    ⟨s.heap, s.toks, #[], 0, rfl, kp, hD, hS, rfl, fun j x h => by simp at h⟩ ?step ?done)
  case step =>
    rintro j x s' hx ⟨h', tk, kA, e, rfl, k', d', n', hk⟩
    simp only [Nat.zero_add] at hk ⊢
    have hj : j < vs.length := (List.getElem?_eq_some_iff.mp hx).1
    have hz : kA.size = j := by rw [hk.1, List.length_take]; omega
    refine wpAny_bind (wpAny_attempt (wpAny_mono (KC x (List.mem_of_getElem? hx) h' tk k') (fun v s'' he => ?_) fun _ _ hF => hF.elim))
    obtain ⟨y, o, g, tk2, rfl, rfl, kg, fy, gy, ko⟩ := he
    try dsimp only
    have nk := kg _ _ n'
    have nd := kg _ _ d'
    have s1 := Heap.SameBut.update g kS (Obj.mapSeq (·.push (.ref y)))
    have hyS : y ≠ kS := fun q => by rw [q, n'] at fy; cases fy
    have hyD : y ≠ D := fun q => by rw [q, d'] at fy; cases fy
    obtain ⟨c2, hc2⟩ : ∃ c2, (g.update kS (Obj.mapSeq (·.push (.ref y)))).get? kS = some (seqObj "list" (kA.push (.ref y)) c2) := ⟨_, get?_update_seq nk (·.push (.ref y))⟩
    refine wpAny_bind (listUpdate_at nk rfl ?_ (by rw [sizeLine_eq]; omega) (Nat.le_trans (Nat.le_of_eq (Array.size_push ..)) (by rw [sizeLine_eq]; omega)))
    refine wpAny_pure ⟨rfl, _, _, kA.push (.ref y), c2, rfl, keep_but (k'.trans kg) s1 hS0, (s1.2 D hne.symm).trans nd, hc2, ?_, fun i z hi => ?_⟩
    · rw [Array.size_push, hz, List.length_take]; omega
    · have hi' : i < j + 1 := by
        have := (List.getElem?_eq_some_iff.mp hi).1
        rw [List.length_take] at this; omega
      rcases Nat.lt_or_ge i j with l | l
      · obtain ⟨y', o', q1, q2, q3, q4, q5⟩ := hk.2 i z (by rw [List.getElem?_take] at hi ⊢; rw [if_pos hi'] at hi; rw [if_pos l]; exact hi)
        refine ⟨y', o', ?_, (s1.2 y' q4).trans (kg _ _ q2), q3, q4, q5⟩
        rw [Array.getElem?_push_lt (by omega)]
        rw [getElem?_pos kA i (by omega)] at q1; exact q1
      · obtain rfl : i = j := by omega
        rw [List.getElem?_take, if_pos hi', hx] at hi
        obtain rfl := Option.some.inj hi
        refine ⟨y, o, ?_, (s1.2 y hyS).trans gy, ko, hyS, hyD⟩
        rw [← hz, Array.getElem?_push_size]
  case done =>
    rintro s' ⟨h', tk, kA, e, rfl, k', d', n', hk⟩
    rw [Nat.zero_add, List.take_length] at hk
    try dsimp only
    refine wpAny_bind (listItems_at n' rfl ?_)
    unfold ksk_end
    dsimp only
    have hsz := hk.1
    rw [if_neg (by simp), if_neg (by rw [List.size_toArray]; omega), if_neg (by rw [List.size_toArray]; omega), if_neg (by simp)]
    have kl : kA = kA.toList.toArray := by simp
    refine wpAny_bind ?_
    have kk := kas_kind (M := model prog w) (A := A) (E := E) (s := { s with heap := h', toks := tk }) (vs := kA.toList) (T := .ref K)
      (Q := fun kind s' => wpAny (model prog w) A (do let ((), st) ← sortRuns'.run (SortSt.mk' kind (kA.zip vs.toArray) #[] 7 none); ksk_tail D false e1 (.ref kS) st) P E s')
      (by rw [Array.length_toList]; omega) (fun v hv => ?_) (by rfl) (by simp) ?_
    · rw [← kl] at kk
      exact kk
    · obtain ⟨j, hj⟩ := List.mem_iff_getElem?.mp hv
      have lj : j < vs.length := by
        have := (List.getElem?_eq_some_iff.mp hj).1
        rw [Array.length_toList] at this; omega
      obtain ⟨y, o, q1, q2, q3, _⟩ := hk.2 j vs[j] (List.getElem?_eq_getElem lj)
      rw [Array.getElem?_toList, q1] at hj
      obtain rfl := Option.some.inj hj
      exact (hcls _ _ q3) ▸ (Looks.ld q2).andThen .now
    · have zl : (kA.zip vs.toArray).toList = kA.toList.zip vs := ksk_zip _ _
      have zs : (kA.zip vs.toArray).size = vs.length := by rw [Array.size_zip, hsz, List.size_toArray, Nat.min_self]
      have zsnd : (kA.zip vs.toArray).toList.map (·.2) = vs := by
        rw [zl]
        exact List.map_snd_zip (by simp [hsz])
      have I : Its (fun p => ∃ x ∈ vs, ∃ y o, p = (.ref y, x) ∧ h'.get? y = some o ∧ KO x o) (fun p => rv p.2) (kA.zip vs.toArray) := by
        refine ⟨fun p hp => ?_, ?_⟩
        · rw [zl] at hp
          obtain ⟨j, hj⟩ := List.mem_iff_getElem?.mp hp
          rw [List.getElem?_zip_eq_some] at hj
          obtain ⟨j1, j2⟩ := hj
          obtain ⟨y, o, q1, q2, q3, _⟩ := hk.2 j _ j2
          rw [Array.getElem?_toList, q1] at j1
          exact ⟨_, List.mem_of_getElem? j2, y, o, Prod.ext (Option.some.inj j1).symm rfl, q2, q3⟩
        · have : (kA.zip vs.toArray).toList.map (fun p => rv p.2) = ((kA.zip vs.toArray).toList.map (·.2)).map rv := by rw [List.map_map]; rfl
          rw [this, zsnd]; exact hnd
      have C : Cmp (model prog w) A (fun s' => ∃ g tk', s' = { s with heap := g, toks := tk' } ∧ Keep h' g) oneType' (fun p => ∃ x ∈ vs, ∃ y o, p = (.ref y, x) ∧ h'.get? y = some o ∧ KO x o) (fun p => rv p.2) := by
        refine ⟨?_⟩
        rintro x y s' ⟨vx, mx, ax, ox, rfl, gx, kx⟩ ⟨vy, my, ay, oy, rfl, gy, ky⟩ ⟨g, tk', rfl, kg⟩
        refine wpAny_mono (CC vx mx vy my ax ay ox oy g tk' (k'.trans kg) (kg _ _ gx) kx (kg _ _ gy) ky) (fun r s'' hr => ?_) fun _ _ e => e
        obtain ⟨rfl, g2, tk2, rfl, kg2⟩ := hr
        exact ⟨rfl, g2, tk2, rfl, kg.trans kg2⟩
      refine wpAny_bind (wpAny_mono (wpT_sortRuns C I (st := SortSt.mk' oneType' (kA.zip vs.toArray) #[] 7 none) (Q := fun _ st' => SB oneType' (kA.zip vs.toArray) st' ∧ (arrOf st').toList.Pairwise (Lt fun p => rv p.2)) ⟨Array.Perm.refl _, rfl, rfl⟩ rfl (by omega) (by omega) (fun st' B' p' => ⟨B', p'⟩) _ ⟨h', tk, rfl, Keep.rfl'⟩) ?_ fun _ _ e => e.elim)
      rintro ⟨⟨⟩, st'⟩ s' ⟨⟨B', hp⟩, g, tk', rfl, kg⟩
      dsimp only
      have nk := kg _ _ n'
      have na := kg _ _ d'
      have hsz2 : (arrOf st').size = vs.length := by rw [B'.perm.size_eq, zs]
      have s1 := Heap.SameBut.update g kS (Obj.mapSeq fun _ => (#[] : Array Value))
      have na1 : (g.update kS (Obj.mapSeq fun _ => (#[] : Array Value))).get? D = some (seqObj "list" #[] e1) := (s1.2 D hne.symm).trans na
      have s2 := Heap.SameBut.update (g.update kS (Obj.mapSeq fun _ => (#[] : Array Value))) D (Obj.mapSeq fun _ => (arrOf st').map (·.2))
      obtain ⟨c2, hc2⟩ : ∃ c2, ((g.update kS (Obj.mapSeq fun _ => (#[] : Array Value))).update D (Obj.mapSeq fun _ => (arrOf st').map (·.2))).get? D = some (seqObj "list" ((arrOf st').map (·.2)) c2) :=
        ⟨_, get?_update_seq na1 fun _ => (arrOf st').map (·.2)⟩
      unfold ksk_tail
      try dsimp only
      refine wpAny_bind (listUpdate_at nk rfl ?_ (by rw [sizeLine_eq]; omega) (Nat.zero_le _))
      refine wpAny_bind (wpAny_letGo ?_)
      refine wpAny_bind (seqEpoch_at na1 rfl ?_)
      refine wpAny_bind (listUpdate_at na1 rfl ?_ (Nat.zero_le _) (by simp only [Bool.false_eq_true, if_false, Array.size_map]; rw [hsz2, sizeLine_eq]; omega))
      rw [B'.failed]
      simp only [bne_self_eq_false, Bool.false_eq_true, if_false]
      have hout : ((arrOf st').map (·.2)) = (((arrOf st').toList.map (·.2)).toArray) := by apply Array.toList_inj.mp; simp
      refine wpAny_pure (ret _ _ ((arrOf st').toList.map (·.2)) c2 (keep_but (keep_but (k'.trans kg) s1 hS0) s2 hD0) ?_ ?_ ?_)
      · rw [← hout]; exact hc2
      · conv => rhs; rw [← zsnd]
        exact (Array.perm_iff_toList_perm.mp B'.perm).map _
      · exact List.pairwise_map.mpr hp
end
section
variable {prog : Program} {w : World} {A : Around} {E : Value → Shared → Prop} {s : Shared} {l K : Addr} {vs : List Value} {KO : Value → Obj → Prop} {rv : Value → Int} {Q : Value → Shared → Prop}
theorem sorted_key (hl : s.heap.IsList l vs.toArray)
    (h2 : 2 ≤ vs.length) (h64 : vs.length ≤ 64) (hnd : (vs.map rv).Nodup) (hcls : ∀ x o, KO x o → o.cls = .ref K)
    (KC : ∀ x ∈ vs, ∀ h tk, Keep s.heap h → wpAny (model prog w) A.in1.in1 (call (.ref K) [x]) (fun v s' => ∃ y o h' tk', v = .ref y ∧ s' = { s with heap := h', toks := tk' } ∧ Keep h h' ∧ h.get? y = none ∧ h'.get? y = some o ∧ KO x o) (fun _ _ => False) { s with heap := h, toks := tk })
    (CC : ∀ x ∈ vs, ∀ y ∈ vs, ∀ a b oa ob h tk, Keep s.heap h → h.get? a = some oa → KO x oa → h.get? b = some ob → KO y ob →
      wpAny (model prog w) A.in1.in1 (keyLt' oneType' (.ref a) (.ref b)) (fun r s' => r = decide (rv x < rv y) ∧ ∃ h' tk', s' = { s with heap := h', toks := tk' } ∧ Keep h h') (fun _ _ => False) { s with heap := h, toks := tk })
    (ret : ∀ D h' tk' out c, Keep s.heap h' → s.heap.get? D = none → h'.get? D = some (listOf (List.toArray out) c) → out.Perm vs → out.Pairwise (fun x y => rv x < rv y) → Q (.ref D) { s with heap := h', toks := tk' }) :
    wpAny (model prog w) A (call (.builtin "sorted") [.ref l] [(Str.ofString "key", .ref K)]) Q E s := by
  refine call_function_entry_kw kind_sorted plain_sorted entry_sorted (ksk_s1 _ _) ?_
  unfold Builtin.«sorted»
  refine wpAny_bind (m := checkCount "sorted" 1 1 _) (wpAny_pure ?_)
  refine wpAny_bind (collect_list hl ?_ (by rw [sizeLine_eq]; omega))
  refine wpAny_bind (wpAny_newList ?_ (by rw [sizeLine_eq]; omega))
  have hsz : ((s.heap.push (seqObj "list" #[] 0)).update s.heap.objs.size (Obj.mapSeq (· ++ vs.toArray))).objs.size = s.heap.objs.size + 1 := by
    rw [Heap.size_update, size_push']
  have hoL : (((s.heap.push (seqObj "list" #[] 0)).update s.heap.objs.size (Obj.mapSeq (· ++ vs.toArray))).push (seqObj "list" vs.toArray 0)).get? (s.heap.objs.size + 1) = some (seqObj "list" vs.toArray 0) := by
    rw [← hsz]; exact Heap.get?_push_size _ rfl
  have keep : Keep s.heap (((s.heap.push (seqObj "list" #[] 0)).update s.heap.objs.size (Obj.mapSeq (· ++ vs.toArray))).push (seqObj "list" vs.toArray 0)) := fun b o q => by
    have hlt : b < s.heap.objs.size := Heap.lt_size q
    rw [Heap.get?_push_ne _ _ _ (by rw [hsz]; exact Nat.ne_of_lt (Nat.lt_succ_of_lt hlt)), Heap.get?_update_ne _ _ _ _ (Nat.ne_of_lt hlt), Heap.get?_push_ne _ _ _ (Nat.ne_of_lt hlt)]
    exact q
  show wpAny _ _ _ _ _ { s with heap := ((s.heap.push (seqObj "list" #[] 0)).update s.heap.objs.size (Obj.mapSeq (· ++ vs.toArray))).push (seqObj "list" vs.toArray 0) }
  rw [hsz]
  have hz3 : (((s.heap.push (seqObj "list" #[] 0)).update s.heap.objs.size (Obj.mapSeq (· ++ vs.toArray))).push (seqObj "list" vs.toArray 0)).objs.size = s.heap.objs.size + 2 := by rw [size_push', hsz]
  generalize ((s.heap.push (seqObj "list" #[] 0)).update s.heap.objs.size (Obj.mapSeq (· ++ vs.toArray))).push (seqObj "list" vs.toArray 0) = h1 at hoL keep hz3 ⊢
  have hD0 : s.heap.get? (s.heap.objs.size + 1) = none := Heap.get?_none_of_le (by omega)
  refine wpAny_bind (wpAny_holding (wpAny_call_entry_kw slot_list_sort ⟨_, hoL, rfl⟩ entry_list_sort ?body (ksk_l1 _ _)))
  case body =>
    show wpAny (model prog w) A.in1.in1 (Builtin.«list.sort» ⟨[.ref (s.heap.objs.size + 1)], [(Str.ofString "key", .ref K)]⟩) _ _ _
    rw [ksk_t1]
    generalize hDD : s.heap.objs.size + 1 = D at *
    have s1 := Heap.SameBut.update h1 D (Obj.mapSeq fun _ => (#[] : Array Value))
    obtain ⟨e1, ho1⟩ : ∃ e1, (h1.update D (Obj.mapSeq fun _ => (#[] : Array Value))).get? D = some (seqObj "list" #[] e1) := ⟨_, get?_update_seq hoL fun _ => #[]⟩
    have hkS : ((h1.update D (Obj.mapSeq fun _ => (#[] : Array Value))).push (seqObj "tuple" vs.toArray 0)).objs.size = s.heap.objs.size + 3 := by rw [size_push', Heap.size_update, hz3]
    unfold ksk_tree
    refine wpAny_bind (listItems_at hoL rfl ?_)
    refine wpAny_bind (listUpdate_at hoL rfl ?_ (by rw [List.size_toArray, sizeLine_eq]; omega) (Nat.zero_le _))
    refine wpAny_bind (seqEpoch_at ho1 rfl ?_)
    refine wpAny_bind (wpAny_newTuple ?_ (by show vs.length ≤ _; rw [sizeLine_eq]; omega))
    refine wpAny_bind (wpAny_newList ?_ (Nat.zero_le _))
    refine wpAny_holding ?_
    have hDlt : D < h1.objs.size := Heap.lt_size hoL
    refine sk_rest (s := { s with heap := ((h1.update D (Obj.mapSeq fun _ => (#[] : Array Value))).push (seqObj "tuple" vs.toArray 0)).push (seqObj "list" #[] 0) }) (kS := ((h1.update D (Obj.mapSeq fun _ => (#[] : Array Value))).push (seqObj "tuple" vs.toArray 0)).objs.size)
      (H₀ := s.heap) ?q1 (Heap.get?_push_of_some _ (Heap.get?_push_of_some _ ho1)) (Heap.get?_push_size _ rfl) ?q2 hD0 ?q3 h2 h64 hnd hcls KC CC ?q4
    case q1 => exact fun b o e => Heap.get?_push_of_some _ (Heap.get?_push_of_some _ (keep_but keep s1 hD0 b o e))
    case q2 => exact fun e => absurd (show (s.heap.objs.size + 3 : Nat) = s.heap.objs.size + 1 from hkS.symm.trans (e.trans hDD.symm)) (by omega)
    case q3 => rw [hkS]; exact Heap.get?_none_of_le (by omega)
    case q4 =>
      intro h' tk' out c k' g' p' o'
      exact ⟨_, rfl, wpAny_pure ⟨_, rfl, ret D h' tk' out c k' hD0 g' p' o'⟩⟩
end
end Mine
end
section
open PySem PySem.W PySem.W.X PyProof.Rows PySem.Calls PySem.Spec
set_option Elab.async false
set_option maxRecDepth 100000
set_option maxHeartbeats 1000000
set_option rowWalk.seconds 0
namespace Mine
theorem start_M0 : True := by w_top off; trivial
theorem nilIn (h : Heap) : Frag.In [] h := fun _ _ e => nomatch e
section
variable {M : Model} {A : Around} {s : Shared} {E : Value → Shared → Prop}
theorem r_sub {T : String} {B : Value} (r : Bool) {Q : Bool → Shared → Prop} (e : subIn [] (.type T) B = some r) (q : Q r s) : wpAny M A (isSubtype (.type T) B) Q E s := (looks_subIn (nilIn _) e).here q
theorem r_find {T : String} {n : Str} (r : Option Value) {Q : Option Value → Shared → Prop} (e : findIn [] (.type T) n = some r) (q : Q r s) : wpAny M A (typeLookup (.type T) n) Q E s := (looks_findIn (nilIn _) e).here q
theorem r_pure {α : Type} {t : Sem α} (v : α) {Q : α → Shared → Prop} (e : t = pure v) (q : Q v s) : wpAny M A t Q E s := e ▸ wpAny_pure q
theorem r_peek {α : Type} {t : Sem α} (v : α) {Q : α → Shared → Prop} (e : peek [] ⟨M.prog, M.w.params⟩ t = some v) (q : Q v s) : wpAny M A t Q E s := (Looks.of_peek (nilIn _) e).here q
theorem r_isType {T : String} {Q : Bool → Shared → Prop} (q : Q true s) : wpAny M A (isType (.type T)) Q E s := wpAny_pure q
theorem r_inst {b : Addr} {o : Obj} {T : String} {B : Value} (r : Bool) {Q : Bool → Shared → Prop} (ho : s.heap.get? b = some o) (hc : o.cls = .type T) (e : subIn [] (.type T) B = some r) (q : Q r s) : wpAny M A (isInstance (.ref b) B) Q E s := by
  unfold isInstance
  refine wpAny_bind (wpAny_typeOf_ref ho ?_)
  rw [hc]
  exact r_sub r e q
theorem r_spec {b : Addr} {o : Obj} {T : String} {n : Str} (r : Option Value) {Q : Option Value → Shared → Prop} (ho : s.heap.get? b = some o) (hc : o.cls = .type T) (e : findIn [] (.type T) n = some r) (q : Q r s) : wpAny M A (specialOf (.ref b) n) Q E s := by
  unfold specialOf
  refine wpAny_bind (wpAny_typeOf_ref ho ?_)
  rw [hc]
  exact r_find r e q
/-- what a namespace's entries say of a name -/
def entGet (es : Array DictEntry) (name : Str) : Option (Option Value) := match es.toList.find? (·.key.isStr name) with
  | some e => some (some e.val)
  | none => if es.toList.any (·.refKey) then none else some none
theorem r_get {a : Addr} {c : Value} {d : Option Addr} {es : Array DictEntry} {n : Nat} {sl : Array (Option Value)} {name : Str} (r : Option Value) {Q : Option Value → Shared → Prop} (ho : s.heap.get? a = some ⟨c, d, .dict es n, sl⟩)
    (e : entGet es name = some r) (q : Q r s) : wpAny M A (nsGet a name) Q E s := by
  refine wpAny_bind (wpAny_loadPart ho ?_)
  rw [nsLook_eq]
  unfold nsLookByArray
  dsimp only
  rw [← Array.find?_toList]
  unfold entGet at e
  split at e
  · rename_i en he; cases e; rw [he]; exact wpAny_pure q
  · rename_i he
    rw [he]
    split at e
    · cases e
    · rename_i hr; cases e
      rw [← Array.any_toList, if_neg hr]; exact wpAny_pure q
theorem r_dict {a : Addr} {c : Value} {d : Option Addr} {es : Array DictEntry} {n : Nat} {sl : Array (Option Value)} {p : Option Value} {Q : Array DictEntry → Shared → Prop} (ho : s.heap.get? a = some ⟨c, d, .dict es n, sl⟩) (q : Q es s) :
    wpAny M A (dictEntries a p) Q E s := wpAny_bind (wpAny_loadPart ho (wpAny_pure q))
theorem r_ite_t {α : Type} {c : Prop} [Decidable c] {a b : Sem α} {Q : α → Shared → Prop} (hc : c) (h : wpAny M A a Q E s) : wpAny M A (if c then a else b) Q E s := by rw [if_pos hc]; exact h
theorem r_ite_f {α : Type} {c : Prop} [Decidable c] {a b : Sem α} {Q : α → Shared → Prop} (hc : ¬ c) (h : wpAny M A b Q E s) : wpAny M A (if c then a else b) Q E s := by rw [if_neg hc]; exact h
theorem not_bool {b : Bool} (h : b = false) : ¬ (b = true) := by rw [h]; decide
end
theorem r_alloc {α : Type} {M : Model} {A : Around} {s : Shared} {E : Value → Shared → Prop} {Q : α → Shared → Prop} {o : Obj} {k : Addr → Sem α} (hf : o.isFreed = false)
    (h : ∀ a h', Keep s.heap h' → h'.get? a = some o → s.heap.get? a = none → wpAny M A (k a) Q E { s with heap := h' }) : wpAny M A (.alloc o k) Q E s := by
  refine nd_alloc (h _ _ (fun b x e => Heap.get?_push_of_some _ e) (Heap.get?_push_size _ hf) ?_)
  cases q : s.heap.get? s.heap.objs.size with
  | none => rfl
  | some x => exact absurd (Heap.lt_size q) (Nat.lt_irrefl _)
theorem r_update {α : Type} {M : Model} {A : Around} {s : Shared} {E : Value → Shared → Prop} {Q : α → Shared → Prop} {a : Addr} {q : Option Value} {f : Obj → Obj} {k : Unit → Sem α} {o : Obj} (ho : s.heap.get? a = some o) (hf : (f o).isFreed = false)
    (h : ∀ h', Heap.SameBut a s.heap h' → h'.get? a = some (f o) → wpAny M A (k ()) Q E { s with heap := h' }) : wpAny M A (.update a q f k) Q E s :=
  wpAny_bind (m := updatePart a q f) (f := k) (wpAny_updatePart ho (h _ (Heap.SameBut.update ..) (by first | exact Heap.get?_update_self f ho hf | exact Heap.get?_update_self _ ho hf | (rw [Heap.get?_update_self _ ho]; exact hf))))
section
variable {α : Type} {M : Model} {A : Around} {E : Value → Shared → Prop} {Q : α → Shared → Prop} {h : Heap} {g : Array GenState} {d : Drawn} {tk : Nat} {os : OsState}
theorem m_alloc {o : Obj} {k : Addr → Sem α} (hf : o.isFreed = false)
    (q : ∀ a h', Keep h h' → h'.get? a = some o → h.get? a = none → wpAny M A (k a) Q E ⟨h', g, d, tk, os⟩) : wpAny M A (.alloc o k) Q E ⟨h, g, d, tk, os⟩ := r_alloc hf q
theorem m_update {a : Addr} {p : Option Value} {f : Obj → Obj} {k : Unit → Sem α} {o : Obj} (ho : h.get? a = some o) (hf : (f o).isFreed = false)
    (q : ∀ h', Heap.SameBut a h h' → h'.get? a = some (f o) → wpAny M A (k ()) Q E ⟨h', g, d, tk, os⟩) : wpAny M A (.update a p f k) Q E ⟨h, g, d, tk, os⟩ := r_update ho hf q
theorem m_try {m : Sem α} {k : Value → Sem α} {s : Shared} (q : wpAny M A m Q (fun e s' => wpAny M A (k e) Q E s') s) : wpAny M A (m.tryCatch k) Q E s := wpAny_tryCatch q
theorem m_fresh {k : Tok → Sem α} (q : wpAny M A (k tk) Q E ⟨h, g, d, tk + 1, os⟩) : wpAny M A (.fresh k) Q E ⟨h, g, d, tk, os⟩ := q
end
theorem keep_butM {h h' : Heap} {a : Addr} {h₀ : Heap} (k : Keep h₀ h) (hs : Heap.SameBut a h h') (h0 : h₀.get? a = none) : Keep h₀ h' :=
  fun b x e => (hs.2 b (fun q => by rw [q, h0] at e; cases e)).trans (k b x e)
theorem but_ne {h h' : Heap} {a b : Addr} {o : Obj} (hs : Heap.SameBut a h h') (ne : b ≠ a) (e : h.get? b = some o) : h'.get? b = some o := (hs.2 b ne).trans e
theorem ne_none {h : Heap} {a b : Addr} {o : Obj} (e : h.get? b = some o) (n : h.get? a = none) : b ≠ a := fun q => by rw [q, n] at e; cases e
theorem none_keep {h h' : Heap} {a : Addr} (k : Keep h h') (n : h'.get? a = none) : h.get? a = none := by
  cases q : h.get? a with
  | none => rfl
  | some o => rw [k _ _ q] at n; cases n
theorem mem_keep {h₀ h : Heap} {news : List (Addr × Obj)} (D : Mem h₀ h [] news) : Keep h₀ h := fun b o e => D.keep b o e (by rw [show away [] b = true from rfl, Bool.or_true])
theorem mem_at {h₀ h : Heap} {a : Addr} {o : Obj} {news : List (Addr × Obj)} (D : Mem h₀ h [] news) (hm : (a, o) ∈ news) : h.get? a = some o := (D.nw _ hm).1
theorem mem_new {h₀ h : Heap} {a : Addr} {o : Obj} {news : List (Addr × Obj)} (D : Mem h₀ h [] news) (hm : (a, o) ∈ news) : h₀.get? a = none := (D.nw _ hm).2
/-- a run by x_run, and the walk behind it -/
theorem x_then {α : Type} {M : Model} {A : Around} {t : Sem α} {s : Shared} {E : Value → Shared → Prop} {Q : α → Shared → Prop} (R : α → Shared → Prop) (x : wpAny M A t R (fun _ _ => False) s) (q : ∀ v s', R v s' → Q v s') : wpAny M A t Q E s :=
  wpAny_mono x q fun _ _ h => h.elim
end Mine
end
section
open PySem PySem.W PySem.W.X PyProof.Rows PySem.Calls PySem.Spec
set_option Elab.async false
set_option maxRecDepth 100000
set_option maxHeartbeats 1000000
set_option rowWalk.seconds 0
namespace Mine
theorem start_M2 : True := by w_top off; trivial
local macro_rules | `(tactic| dsimp only) => `(tactic| skip)
local macro_rules | `(tactic| walk_at "go") => `(tactic| repeat (first
  | with_reducible refine m_alloc rfl ?_
  | with_reducible refine m_update (by assumption) rfl ?_
  | with_reducible refine m_fresh ?_
  | with_reducible refine m_try ?_
  | with_reducible refine r_sub true (by kernel_rfl) ?_
  | with_reducible refine r_isType ?_
  | lk))
abbrev A0 : Around := { handled := none, depth := 500, frames := none, guards := none, units := 1000 }
abbrev superObj (a : Addr) : Obj := ⟨.type "super", none, .fields #[.ref a, .ref a, .ref a], #[]⟩
abbrev bimObj (f self : Value) : Obj := ⟨.type "builtin_function_or_method", none, .fields #[f, self], #[]⟩
theorem e_sga : entryFor table "super.__getattribute__" = some Builtin.«super.__getattribute__» := entryFor_of_tree (by kernel_rfl)
theorem a_sga (a b : Value) : argsOk "super.__getattribute__" ⟨[a, b], []⟩ := by unfold argsOk; kernel_rfl
theorem e_tnew : entryFor table "type.__new__" = some Builtin.«type.__new__» := entryFor_of_tree (by kernel_rfl)
theorem loop_of2 {α β : Type} {M : Model} {A : Around} {E : Value → Shared → Prop} {Q : β → Shared → Prop} {s : Shared} {L : List α} {f : α → β → Sem (ForInStep β)} {b : β} {h : ∃ bs, bs ++ L = L} (L' : List α) (e : L = L') (q : wpAny M A (forIn L' b f) Q E s) : wpAny M A (List.forIn'.loop L (fun a _ => f a) L b h) Q E s := by subst e; exact q
local macro_rules | `(tactic| x_close) => `(tactic| exact ⟨_, _, _, rfl, rfl, mem_keep (by assumption), mem_at (by assumption) (.head _)⟩)
def Bim (h : Heap) (g : Array GenState) (d : Drawn) (os : OsState) (f self : Value) (v : Flow) (s' : Shared) : Prop := ∃ h' tk l, v = .ret (.ref l) ∧ s' = ⟨h', g, d, tk, os⟩ ∧ Keep h h' ∧ h'.get? l = some (bimObj f self)
theorem sga {w : World} {h : Heap} {g : Array GenState} {dr : Drawn} {tk : Nat} {os : OsState} {su a b d : Addr} {t t4 tn : Tok}
   (hX : (hd.heap_39 w.params).In h)
   (hs : h.get? su = some (superObj a)) (ha : h.get? a = some { cls := .type "type", data := .cls { name := Str.ofString "K", bases := [.type "object"], mro := [.ref a, .type "object"], ns := d, qualname := Str.ofString "cmp_to_key.<locals>.K", hasDict := false, slotNames := [Str.ofString "obj"], hasDel := false }, slots := #[some (.ref b), none, some (.str (Str.ofString "K") t), some (.str (Str.ofString "cmp_to_key.<locals>.K") t4), some (.builtin "object.__new__"), some (.bool false)] }) :
   wpAny (model Challenge.rw_mq0096_01.row.prog w) A0 (Sem.call (Code.call (Value.builtin "super.__getattribute__") { pos := [Value.ref su, Value.str (Str.ofString "__init_subclass__") tn] }) none false [] fun x =>
      match x with
      | Except.ok f => Sem.pure f
      | Except.error e => Sem.raise e) (Bim h g dr os (.builtin "object.__init_subclass__") (.ref a)) (fun _ _ => False) ⟨h, g, dr, tk, os⟩ := by
  refine x_call ?_ (by intro h; cases h)
  refine codeAny_call_builtin (by decide +kernel) e_sga ?_
  refine @check_slot (model Challenge.rw_mq0096_01.row.prog w) _ _ ⟨h, g, dr, tk, os⟩ "super.__getattribute__" "super" "__getattribute__" (.ref su) [.str (Str.ofString "__init_subclass__") tn] [] _ (by decide +kernel) (by decide +kernel) ?_ (a_sga _ _) ?_
  · unfold isInstance
    exact Looks.andThen ((Looks.ld hs).andThen .now) (looks_subIn (nilIn _) (by kernel_rfl))
  delta Builtin.«super.__getattribute__»
  have ho : Looks (model Challenge.rw_mq0096_01.row.prog w) h (nsGet cStatics (Str.ofString "thirdparty.any")) none := looks_nsIn hX (by kernel_rfl)
  walk_at "go"
  refine loop_of2 [.type "object"] (by show List.drop 1 (List.dropWhile (fun x => x != Value.ref a) [Value.ref a, Value.type "object"]) = _; rw [List.dropWhile_cons_of_neg (by simp)]; rfl) ?_
  walk_at "go"
  have e : (if (#[Value.ref a, Value.ref a, Value.ref a][1] == #[Value.ref a, Value.ref a, Value.ref a][2]) = true then Value.none else #[Value.ref a, Value.ref a, Value.ref a][1]) = Value.none := if_pos (beq_self_eq_true (Value.ref a))
  rw [e]
  refine x_then (Bim h g dr os (.builtin "object.__init_subclass__") (.ref a)) (by x_run) ?_
  rintro v s' ⟨h5, tk5, l, rfl, rfl, kp5, hl⟩
  walk_at "go"
  exact ⟨h5, tk5, l, rfl, rfl, kp5, hl⟩
end Mine
end
section
open PySem PySem.W PySem.W.X PyProof.Rows PySem.Calls PySem.Spec
set_option Elab.async false
set_option maxRecDepth 100000
set_option maxHeartbeats 1000000
set_option rowWalk.seconds 0
namespace Mine
theorem start_M3 : True := by w_top off; trivial
local macro_rules | `(tactic| dsimp only) => `(tactic| skip)
local macro_rules | `(tactic| walk_at "go") => `(tactic| repeat (first
  | with_reducible refine m_alloc rfl ?_
  | with_reducible refine m_update (by assumption) rfl ?_
  | with_reducible refine m_fresh ?_
  | with_reducible refine m_try ?_
  | with_reducible refine r_sub true (by kernel_rfl) ?_
  | with_reducible refine r_isType ?_
  | lk))

def Col (u : Tok) (s : Shared) (v : Flow) (s' : Shared) : Prop := ∃ h' l n, v = .ret (.ref l) ∧ s' = { s with heap := h' } ∧ Keep s.heap h' ∧ h'.get? l = some ⟨.type "list", none, .seq #[.str (Str.ofString "obj") u] n, #[]⟩
local macro_rules | `(tactic| x_close) => `(tactic| exact ⟨_, _, _, rfl, rfl, mem_keep (by assumption), mem_at (by assumption) (.head _)⟩)
def Sup (a : Addr) (h : Heap) (g : Array GenState) (d : Drawn) (os : OsState) (v : Flow) (s' : Shared) : Prop := ∃ h' tk l, v = .ret (.ref l) ∧ s' = ⟨h', g, d, tk, os⟩ ∧ Keep h h' ∧ h'.get? l = some ⟨.type "super", none, .fields #[.ref a, .ref a, .ref a], #[]⟩
def Nn (h : Heap) (g : Array GenState) (d : Drawn) (os : OsState) (v : Flow) (s' : Shared) : Prop := ∃ h' tk, v = .ret .none ∧ s' = ⟨h', g, d, tk, os⟩ ∧ Keep h h'
local macro_rules | `(tactic| x_close) => `(tactic| first | exact ⟨_, _, _, rfl, rfl, mem_keep (by assumption), mem_at (by assumption) (.head _)⟩ | exact ⟨_, _, rfl, rfl, mem_keep (by assumption)⟩ | exact ⟨_, _, rfl, rfl, Keep.rfl'⟩)
theorem tnew {w : World} {h0 : Heap} {g0 : Array GenState} {dr0 : Drawn} {k0 : Nat} {os0 : OsState} {Q : PySem.Fin → Shared → Prop} {E : Value → Shared → Prop} (b n sl f1 f2 f3 f4 f5 f6 st : Addr) (t t1 t2 t3 t4 t5 t6 t7 t8 t9 ta tb tc td te tf : Tok) (h1 h2' h3' h4' h5 h6 h7 h8 h9 ha' hb' hc : Int) (k : Nat)
  (u : Tok) (k2 : Nat) (hsl : h0.get? sl = some { cls := .type "list", data := .seq #[.str (Str.ofString "obj") u] k2 })
  (e1 e2 e3 e4 e5 e6 e7 : Option Addr) (dt1 dt2 dt3 dt4 dt5 dt6 dt7 : Data) (s1 s2 s3 s4 s5 s6 s7 : Array (Option Value))
  (hf1 : h0.get? f1 = some ⟨.type "function", e1, dt1, s1⟩)
  (hf2 : h0.get? f2 = some ⟨.type "function", e2, dt2, s2⟩)
  (hf3 : h0.get? f3 = some ⟨.type "function", e3, dt3, s3⟩)
  (hf4 : h0.get? f4 = some ⟨.type "function", e4, dt4, s4⟩)
  (hf5 : h0.get? f5 = some ⟨.type "function", e5, dt5, s5⟩)
  (hf6 : h0.get? f6 = some ⟨.type "function", e6, dt6, s6⟩)
  (hX : (hd.heap_39 w.params).In h0)
  (hst : h0.get? st = some ⟨.type "tuple", e7, dt7, s7⟩)
  (hb : h0.get? b = some { cls := .type "tuple", data := .seq #[.type "object"] }) (hns : n ≠ sysModules)
  (hn : h0.get? n = some { cls := .type "dict", data := .dict #[⟨h1, .str (Str.ofString "__module__") t1, .str (Str.ofString "cpy313.functools") t2⟩, ⟨h2', .str (Str.ofString "__qualname__") t3, .str (Str.ofString "cmp_to_key.<locals>.K") t4⟩, ⟨h3', .str (Str.ofString "__firstlineno__") t5, .int 47 t6⟩,
     ⟨h4', .str (Str.ofString "__slots__") t7, .ref sl⟩, ⟨h5, .str (Str.ofString "__init__") t8, .ref f1⟩, ⟨h6, .str (Str.ofString "__lt__") t9, .ref f2⟩, ⟨h7, .str (Str.ofString "__gt__") ta, .ref f3⟩, ⟨h8, .str (Str.ofString "__eq__") tb, .ref f4⟩, ⟨h9, .str (Str.ofString "__le__") tc, .ref f5⟩, ⟨ha', .str (Str.ofString "__ge__") td, .ref f6⟩,
     ⟨hb', .str (Str.ofString "__hash__") te, .none⟩, ⟨hc, .str (Str.ofString "__static_attributes__") tf, .ref st⟩] k })
  (ret : ∀ a d md hx tx hy ty tm h' tk, Keep h0 h' → h0.get? a = none → h'.get? a = some { cls := .type "type", data := .cls { name := Str.ofString "K", bases := [.type "object"], mro := [.ref a, .type "object"], ns := d, qualname := Str.ofString "cmp_to_key.<locals>.K", hasDict := false, slotNames := [Str.ofString "obj"], hasDel := false }, slots := #[some (.ref b), none, some (.str (Str.ofString "K") t), some (.str (Str.ofString "cmp_to_key.<locals>.K") t4), some (.builtin "object.__new__"), some (.bool false)] } → h'.get? d = some { cls := .type "dict", data := .dict #[⟨h1, .str (Str.ofString "__module__") t1, .str (Str.ofString "cpy313.functools") t2⟩, ⟨h3', .str (Str.ofString "__firstlineno__") t5, .int 47 t6⟩, ⟨h4', .str (Str.ofString "__slots__") t7, .ref sl⟩, ⟨h5, .str (Str.ofString "__init__") t8, .ref f1⟩, ⟨h6, .str (Str.ofString "__lt__") t9, .ref f2⟩, ⟨h7, .str (Str.ofString "__gt__") ta, .ref f3⟩, ⟨h8, .str (Str.ofString "__eq__") tb, .ref f4⟩, ⟨h9, .str (Str.ofString "__le__") tc, .ref f5⟩, ⟨ha', .str (Str.ofString "__ge__") td, .ref f6⟩, ⟨hb', .str (Str.ofString "__hash__") te, .none⟩, ⟨hc, .str (Str.ofString "__static_attributes__") tf, .ref st⟩, ⟨hx, .str (Str.ofString "obj") tx, .ref md⟩, ⟨hy, .str (Str.ofString "__doc__") ty, .none⟩] 3 } → h'.get? md = some { cls := .type "member_descriptor", data := .fields #[.str (Str.ofString "obj") tm, .ref a, .builtin "proto.slot", .builtin "proto.slot#set", .int 0 0] } → Q (.done (.ret (.ref a))) ⟨h', g0, dr0, tk, os0⟩) :
  wpAny (model Challenge.rw_mq0096_01.row.prog w) A0 (Builtin.«type.__new__» ⟨[.type "type", .str (Str.ofString "K") t, .ref b, .ref n], []⟩) Q E ⟨h0, g0, dr0, k0, os0⟩ := by
  delta Builtin.«type.__new__»
  walk_at "go"
  refine r_ite_f (by simpa using hns) ?_
  walk_at "go"
  refine x_then (Col u ⟨h0, g0, dr0, k0, os0⟩) (by x_run) ?_
  rintro v s' ⟨h', l, kk, rfl, rfl, kp, hl⟩
  have hb1 := kp _ _ hb
  have hn1 := kp _ _ hn
  have hsl1 := kp _ _ hsl
  walk_at "go"
  rw [show Builtin.Slots.isIdentifier (Str.ofString "obj") = some true from by kernel_rfl]
  walk_at "go"
  refine r_ite_f (not_bool (by kernel_rfl)) ?_
  walk_at "go"
  intro d h2 kp2 hd hd0
  have d0 := none_keep kp hd0
  have kq := kp.trans kp2
  walk_at "go"
  refine r_ite_f (not_bool (by kernel_rfl)) ?_
  walk_at "go"
  refine r_ite_f (not_bool (by kernel_rfl)) ?_
  walk_at "go"
  refine r_ite_f (not_bool (by kernel_rfl)) ?_
  walk_at "go"
  intro a h3 kp3 ha ha0
  have had : d ≠ a := ne_none hd ha0
  have a0 := none_keep kq ha0
  replace hd := kp3 _ _ hd
  have kq3 := kq.trans kp3
  walk_at "go"
  intro h4 sb ha4
  replace hd := but_ne sb had hd
  replace kq3 := keep_butM kq3 sb a0
  replace ha : h4.get? a = some { cls := .type "type", data := .cls { name := Str.ofString "K", bases := [.type "object"], mro := [], ns := d, qualname := Str.ofString "cmp_to_key.<locals>.K" }, slots := #[some (.ref b)] } := ha4
  clear ha4 sb
  walk_at "go"
  intro h4 sb ha4
  replace hd := but_ne sb had hd
  replace kq3 := keep_butM kq3 sb a0
  replace ha : h4.get? a = some { cls := .type "type", data := .cls { name := Str.ofString "K", bases := [.type "object"], mro := [], ns := d, qualname := Str.ofString "cmp_to_key.<locals>.K" }, slots := #[some (.ref b), none, some (.str (Str.ofString "K") t)] } := ha4
  clear ha4 sb
  walk_at "go"
  intro h4 sb ha4
  replace hd := but_ne sb had hd
  replace kq3 := keep_butM kq3 sb a0
  replace ha : h4.get? a = some { cls := .type "type", data := .cls { name := Str.ofString "K", bases := [.type "object"], mro := [], ns := d, qualname := Str.ofString "cmp_to_key.<locals>.K" }, slots := #[some (.ref b), none, some (.str (Str.ofString "K") t), some (.str (Str.ofString "cmp_to_key.<locals>.K") t4)] } := ha4
  clear ha4 sb
  walk_at "go"
  intro h4 sb hd4
  replace ha := but_ne sb had.symm ha
  replace kq3 := keep_butM kq3 sb d0
  replace hd : h4.get? d = some { cls := .type "dict", data := .dict #[⟨h1, .str (Str.ofString "__module__") t1, .str (Str.ofString "cpy313.functools") t2⟩, ⟨h3', .str (Str.ofString "__firstlineno__") t5, .int 47 t6⟩,
     ⟨h4', .str (Str.ofString "__slots__") t7, .ref sl⟩, ⟨h5, .str (Str.ofString "__init__") t8, .ref f1⟩, ⟨h6, .str (Str.ofString "__lt__") t9, .ref f2⟩, ⟨h7, .str (Str.ofString "__gt__") ta, .ref f3⟩, ⟨h8, .str (Str.ofString "__eq__") tb, .ref f4⟩, ⟨h9, .str (Str.ofString "__le__") tc, .ref f5⟩, ⟨ha', .str (Str.ofString "__ge__") td, .ref f6⟩,
     ⟨hb', .str (Str.ofString "__hash__") te, .none⟩, ⟨hc, .str (Str.ofString "__static_attributes__") tf, .ref st⟩] 1 } := hd4
  clear hd4 sb
  walk_at "go"
  rw [show List.filter (fun x => x != Value.ref a) (Value.ref a :: (fun x => Value.type "object" :: x) []) = [Value.type "object"] from by rw [List.filter_cons_of_neg (by simp)]; rfl]
  walk_at "go"
  intro h4 sb ha4
  replace hd := but_ne sb had hd
  replace kq3 := keep_butM kq3 sb a0
  replace ha : h4.get? a = some { cls := .type "type", data := .cls { name := Str.ofString "K", bases := [.type "object"], mro := [.ref a, .type "object"], ns := d, qualname := Str.ofString "cmp_to_key.<locals>.K", hasDel := false }, slots := #[some (.ref b), none, some (.str (Str.ofString "K") t), some (.str (Str.ofString "cmp_to_key.<locals>.K") t4)] } := ha4.trans (congrArg some (by kernel_rfl))
  clear ha4 sb
  walk_at "go"
  refine r_ite_f (not_bool (by kernel_rfl)) ?_
  walk_at "go"
  intro h4 sb ha4
  replace hd := but_ne sb had hd
  replace kq3 := keep_butM kq3 sb a0
  replace ha : h4.get? a = some { cls := .type "type", data := .cls { name := Str.ofString "K", bases := [.type "object"], mro := [.ref a, .type "object"], ns := d, qualname := Str.ofString "cmp_to_key.<locals>.K", hasDel := false }, slots := #[some (.ref b), none, some (.str (Str.ofString "K") t), some (.str (Str.ofString "cmp_to_key.<locals>.K") t4), some (.builtin "object.__new__")] } := ha4.trans (congrArg some (by kernel_rfl))
  clear ha4 sb
  walk_at "go"
  refine r_ite_f (not_bool (by kernel_rfl)) ?_
  walk_at "go"
  intro md h4 kpm hmd hmd0
  have nma : a ≠ md := ne_none ha hmd0
  have nmd : d ≠ md := ne_none hd hmd0
  replace ha := kpm _ _ ha
  replace hd := kpm _ _ hd
  replace kq3 := kq3.trans kpm
  walk_at "go"
  intro h4 sb hd4
  replace ha := but_ne sb had.symm ha
  replace hmd := but_ne sb nmd.symm hmd
  replace kq3 := keep_butM kq3 sb d0
  obtain ⟨hx, tx, hd⟩ : ∃ hx tx, h4.get? d = some { cls := .type "dict", data := .dict #[⟨h1, .str (Str.ofString "__module__") t1, .str (Str.ofString "cpy313.functools") t2⟩, ⟨h3', .str (Str.ofString "__firstlineno__") t5, .int 47 t6⟩,
     ⟨h4', .str (Str.ofString "__slots__") t7, .ref sl⟩, ⟨h5, .str (Str.ofString "__init__") t8, .ref f1⟩, ⟨h6, .str (Str.ofString "__lt__") t9, .ref f2⟩, ⟨h7, .str (Str.ofString "__gt__") ta, .ref f3⟩, ⟨h8, .str (Str.ofString "__eq__") tb, .ref f4⟩, ⟨h9, .str (Str.ofString "__le__") tc, .ref f5⟩, ⟨ha', .str (Str.ofString "__ge__") td, .ref f6⟩,
     ⟨hb', .str (Str.ofString "__hash__") te, .none⟩, ⟨hc, .str (Str.ofString "__static_attributes__") tf, .ref st⟩, ⟨hx, .str (Str.ofString "obj") tx, .ref md⟩] 2 } := ⟨_, _, hd4⟩
  clear hd4 sb
  replace hmd : h4.get? md = some { cls := .type "member_descriptor", data := .fields #[.str (Str.ofString "obj") k0, .ref a, .builtin "proto.slot", .builtin "proto.slot#set", .int 0 0] } := hmd.trans (congrArg some (by kernel_rfl))
  walk_at "go"
  intro h4 sb ha4
  replace hd := but_ne sb had hd
  replace hmd := but_ne sb nma.symm hmd
  replace kq3 := keep_butM kq3 sb a0
  replace ha : h4.get? a = some { cls := .type "type", data := .cls { name := Str.ofString "K", bases := [.type "object"], mro := [.ref a, .type "object"], ns := d, qualname := Str.ofString "cmp_to_key.<locals>.K", hasDict := false, slotNames := [Str.ofString "obj"], hasDel := false }, slots := #[some (.ref b), none, some (.str (Str.ofString "K") t), some (.str (Str.ofString "cmp_to_key.<locals>.K") t4), some (.builtin "object.__new__")] } := ha4.trans (congrArg some (by kernel_rfl))
  clear ha4 sb
  walk_at "go"
  intro h4 sb ha4
  replace hd := but_ne sb had hd
  replace hmd := but_ne sb nma.symm hmd
  replace kq3 := keep_butM kq3 sb a0
  replace ha : h4.get? a = some { cls := .type "type", data := .cls { name := Str.ofString "K", bases := [.type "object"], mro := [.ref a, .type "object"], ns := d, qualname := Str.ofString "cmp_to_key.<locals>.K", hasDict := false, slotNames := [Str.ofString "obj"], hasDel := false }, slots := #[some (.ref b), none, some (.str (Str.ofString "K") t), some (.str (Str.ofString "cmp_to_key.<locals>.K") t4), some (.builtin "object.__new__"), some (.bool false)] } := ha4.trans (congrArg some (by kernel_rfl))
  clear ha4 sb
  walk_at "go"
  intro h4 sb hd4
  replace ha := but_ne sb had.symm ha
  replace hmd := but_ne sb nmd.symm hmd
  replace kq3 := keep_butM kq3 sb d0
  obtain ⟨hy, ty, hd⟩ : ∃ hy ty, h4.get? d = some { cls := .type "dict", data := .dict #[⟨h1, .str (Str.ofString "__module__") t1, .str (Str.ofString "cpy313.functools") t2⟩, ⟨h3', .str (Str.ofString "__firstlineno__") t5, .int 47 t6⟩,
     ⟨h4', .str (Str.ofString "__slots__") t7, .ref sl⟩, ⟨h5, .str (Str.ofString "__init__") t8, .ref f1⟩, ⟨h6, .str (Str.ofString "__lt__") t9, .ref f2⟩, ⟨h7, .str (Str.ofString "__gt__") ta, .ref f3⟩, ⟨h8, .str (Str.ofString "__eq__") tb, .ref f4⟩, ⟨h9, .str (Str.ofString "__le__") tc, .ref f5⟩, ⟨ha', .str (Str.ofString "__ge__") td, .ref f6⟩,
     ⟨hb', .str (Str.ofString "__hash__") te, .none⟩, ⟨hc, .str (Str.ofString "__static_attributes__") tf, .ref st⟩, ⟨hx, .str (Str.ofString "obj") tx, .ref md⟩, ⟨hy, .str (Str.ofString "__doc__") ty, .none⟩] 3 } := ⟨_, _, hd4⟩
  clear hd4 sb
  have g1 := kq3 _ _ hf1
  have g2 := kq3 _ _ hf2
  have g3 := kq3 _ _ hf3
  have g4 := kq3 _ _ hf4
  have g5 := kq3 _ _ hf5
  have g6 := kq3 _ _ hf6
  have g7 := kq3 _ _ hst
  have g8 := kq3 _ _ hsl
  walk_at "go"
  have KX := hX.keeps kq3
  refine x_then (Sup a h4 g0 dr0 os0) (by x_run) ?_
  rintro v s' ⟨h5, tk5, su, rfl, rfl, kp5, hsu⟩
  replace ha := kp5 _ _ ha
  replace hd := kp5 _ _ hd
  replace hmd := kp5 _ _ hmd
  replace kq3 := kq3.trans kp5
  clear KX g1 g2 g3 g4 g5 g6 g7 g8
  walk_at "go"
  have KX := hX.keeps kq3
  rw [show (toString "super" ++ toString "." ++ toString (Str.ofString "__getattribute__").toString) = "super.__getattribute__" from by kernel_rfl]
  refine x_then (Bim h5 g0 dr0 os0 (.builtin "object.__init_subclass__") (.ref a)) (sga KX hsu ha) ?_
  rintro v s' ⟨h6, tk6, bm, rfl, rfl, kp6, hbm⟩
  replace ha := kp6 _ _ ha
  replace hd := kp6 _ _ hd
  replace hmd := kp6 _ _ hmd
  replace kq3 := kq3.trans kp6
  clear KX
  walk_at "go"
  have KX := hX.keeps kq3
  replace hbm : h6.get? bm = some ⟨.type "builtin_function_or_method", none, .fields #[.builtin "object.__init_subclass__", .ref a], #[]⟩ := hbm
  refine x_then (Nn h6 g0 dr0 os0) (by x_run) ?_
  rintro v s' ⟨h7, tk7, rfl, rfl, kp7⟩
  replace ha := kp7 _ _ ha
  replace hd := kp7 _ _ hd
  replace hmd := kp7 _ _ hmd
  replace kq3 := kq3.trans kp7
  walk_at "go"
  exact ret a d md hx tx hy ty k0 h7 tk7 kq3 a0 ha hd hmd
end Mine
end
section
open PySem PySem.W PySem.W.X PyProof.Rows PySem.Calls PySem.Spec
set_option Elab.async false
set_option maxRecDepth 100000
set_option maxHeartbeats 1000000
set_option rowWalk.seconds 0
namespace Mine
theorem start_M4 : True := by w_top off; trivial
theorem wk {α : Type} {M : Model} {A B : Around} {t : Sem α} {Q : α → Shared → Prop} {E : Value → Shared → Prop} {s : Shared} (hh : B.handled = A.handled) (hd : A.depth ≤ B.depth) (hf : B.frames = none) (hg : B.guards = none) (hu : A.units ≤ B.units)
    (x : wpAny M B t Q E s) : wpAny M A t Q E s := fun Γ p hΓ => x Γ p ⟨by rw [hh]; exact hΓ.1, Nat.le_trans hΓ.2.1 hd, fun (l : List Env) (e : B.frames = some l) => (by rw [hf] at e; cases e), fun (g : List Code) (e : B.guards = some g) => (by rw [hg] at e; cases e), Nat.le_trans hΓ.2.2.2.2 hu⟩
theorem m_stopN {M : Model} {A : Around} {args : Args} {Q : PySem.Fin → Shared → Prop} {E : Value → Shared → Prop} {s : Shared} (h : True → wpAny M A (Builtin.«type.__new__» args) Q E s) : wpAny M A (Builtin.«type.__new__» args) Q E s := h trivial
local macro_rules | `(tactic| dsimp only) => `(tactic| skip)
local macro_rules | `(tactic| walk_at "go") => `(tactic| repeat (first
  | with_reducible refine m_stopN ?_
  | with_reducible refine m_alloc rfl ?_
  | with_reducible refine m_update (by assumption) rfl ?_
  | with_reducible refine m_fresh ?_
  | with_reducible refine m_try ?_
  | with_reducible refine r_isType ?_
  | lk))
abbrev A1 : Around := { handled := none, depth := 450, frames := none, guards := none, units := 500 }
local macro_rules | `(tactic| x_close) => `(tactic| first | exact ⟨_, _, rfl, rfl, mem_keep (by assumption)⟩ | exact ⟨_, _, rfl, rfl, Keep.rfl'⟩)
theorem tcall {w : World} {h0 : Heap} {g0 : Array GenState} {dr0 : Drawn} {k0 : Nat} {os0 : OsState} {R : Result → Shared → Prop} (b n sl f1 f2 f3 f4 f5 f6 st : Addr) (t t1 t2 t3 t4 t5 t6 t7 t8 t9 ta tb tc td te tf : Tok) (h1 h2' h3' h4' h5 h6 h7 h8 h9 ha' hb' hc : Int) (k : Nat)
  (u : Tok) (k2 : Nat) (hsl : h0.get? sl = some { cls := .type "list", data := .seq #[.str (Str.ofString "obj") u] k2 })
  (e1 e2 e3 e4 e5 e6 e7 : Option Addr) (dt1 dt2 dt3 dt4 dt5 dt6 dt7 : Data) (s1 s2 s3 s4 s5 s6 s7 : Array (Option Value))
  (hf1 : h0.get? f1 = some ⟨.type "function", e1, dt1, s1⟩)
  (hf2 : h0.get? f2 = some ⟨.type "function", e2, dt2, s2⟩)
  (hf3 : h0.get? f3 = some ⟨.type "function", e3, dt3, s3⟩)
  (hf4 : h0.get? f4 = some ⟨.type "function", e4, dt4, s4⟩)
  (hf5 : h0.get? f5 = some ⟨.type "function", e5, dt5, s5⟩)
  (hf6 : h0.get? f6 = some ⟨.type "function", e6, dt6, s6⟩)
  (hX : (hd.heap_39 w.params).In h0)
  (hst : h0.get? st = some ⟨.type "tuple", e7, dt7, s7⟩)
  (hb : h0.get? b = some { cls := .type "tuple", data := .seq #[.type "object"] }) (hns : n ≠ sysModules)
  (hn : h0.get? n = some { cls := .type "dict", data := .dict #[⟨h1, .str (Str.ofString "__module__") t1, .str (Str.ofString "cpy313.functools") t2⟩, ⟨h2', .str (Str.ofString "__qualname__") t3, .str (Str.ofString "cmp_to_key.<locals>.K") t4⟩, ⟨h3', .str (Str.ofString "__firstlineno__") t5, .int 47 t6⟩,
     ⟨h4', .str (Str.ofString "__slots__") t7, .ref sl⟩, ⟨h5, .str (Str.ofString "__init__") t8, .ref f1⟩, ⟨h6, .str (Str.ofString "__lt__") t9, .ref f2⟩, ⟨h7, .str (Str.ofString "__gt__") ta, .ref f3⟩, ⟨h8, .str (Str.ofString "__eq__") tb, .ref f4⟩, ⟨h9, .str (Str.ofString "__le__") tc, .ref f5⟩, ⟨ha', .str (Str.ofString "__ge__") td, .ref f6⟩,
     ⟨hb', .str (Str.ofString "__hash__") te, .none⟩, ⟨hc, .str (Str.ofString "__static_attributes__") tf, .ref st⟩] k })
  (ret : ∀ a d md hx tx hy ty tm h' tk, Keep h0 h' → h0.get? a = none → h'.get? a = some { cls := .type "type", data := .cls { name := Str.ofString "K", bases := [.type "object"], mro := [.ref a, .type "object"], ns := d, qualname := Str.ofString "cmp_to_key.<locals>.K", hasDict := false, slotNames := [Str.ofString "obj"], hasDel := false }, slots := #[some (.ref b), none, some (.str (Str.ofString "K") t), some (.str (Str.ofString "cmp_to_key.<locals>.K") t4), some (.builtin "object.__new__"), some (.bool false)] } → h'.get? d = some { cls := .type "dict", data := .dict #[⟨h1, .str (Str.ofString "__module__") t1, .str (Str.ofString "cpy313.functools") t2⟩, ⟨h3', .str (Str.ofString "__firstlineno__") t5, .int 47 t6⟩, ⟨h4', .str (Str.ofString "__slots__") t7, .ref sl⟩, ⟨h5, .str (Str.ofString "__init__") t8, .ref f1⟩, ⟨h6, .str (Str.ofString "__lt__") t9, .ref f2⟩, ⟨h7, .str (Str.ofString "__gt__") ta, .ref f3⟩, ⟨h8, .str (Str.ofString "__eq__") tb, .ref f4⟩, ⟨h9, .str (Str.ofString "__le__") tc, .ref f5⟩, ⟨ha', .str (Str.ofString "__ge__") td, .ref f6⟩, ⟨hb', .str (Str.ofString "__hash__") te, .none⟩, ⟨hc, .str (Str.ofString "__static_attributes__") tf, .ref st⟩, ⟨hx, .str (Str.ofString "obj") tx, .ref md⟩, ⟨hy, .str (Str.ofString "__doc__") ty, .none⟩] 3 } → h'.get? md = some { cls := .type "member_descriptor", data := .fields #[.str (Str.ofString "obj") tm, .ref a, .builtin "proto.slot", .builtin "proto.slot#set", .int 0 0] } → R (.ok (.ret (.ref a))) ⟨h', g0, dr0, tk, os0⟩) :
   codeAny (model Challenge.rw_mq0096_01.row.prog w) A1 (.call (.type "type") ⟨[.str (Str.ofString "K") t, .ref b, .ref n], []⟩) R ⟨h0, g0, dr0, k0, os0⟩ := by
  refine codeAny_of_tree ?_
  show wpAny _ _ (callAny (.type "type") _) _ _ _
  walk_at "go"
  refine And.intro (by kernel_rfl) ?_
  refine codeAny_builtin entry_typeCall ?_
  delta Builtin.«type.__call__»
  walk_at "go"
  refine r_ite_f (not_bool (by kernel_rfl)) ?_
  walk_at "go"
  rw [show (toString "type" ++ toString "." ++ toString (Str.ofString "__new__").toString) = "type.__new__" from by kernel_rfl]
  refine x_call ?_ (by intro h; cases h)
  refine codeAny_call_builtin (by decide +kernel) e_tnew ?_
  walk_at "go"
  refine r_ite_f (not_bool (by kernel_rfl)) ?_
  walk_at "go"
  refine r_ite_f (not_bool (by kernel_rfl)) ?_
  walk_at "go"
  intro _
  refine wk (B := A0) rfl (Nat.le_of_ble_eq_true (by kernel_rfl)) rfl rfl (Nat.le_of_ble_eq_true (by kernel_rfl)) (tnew b n sl f1 f2 f3 f4 f5 f6 st t t1 t2 t3 t4 t5 t6 t7 t8 t9 ta tb tc td te tf h1 h2' h3' h4' h5 h6 h7 h8 h9 ha' hb' hc k u k2 hsl e1 e2 e3 e4 e5 e6 e7 dt1 dt2 dt3 dt4 dt5 dt6 dt7 s1 s2 s3 s4 s5 s6 s7 hf1 hf2 hf3 hf4 hf5 hf6 hX hst hb hns hn ?_)
  intro a d md hx tx hy ty tm h' tk kp ha0 ha hd hmd
  walk_at "go"
  have KX := hX.keeps kp
  refine x_then (Nn h' g0 dr0 os0) (by x_run) ?_
  rintro v s' ⟨h7, tk7, rfl, rfl, kp7⟩
  walk_at "go"
  exact ret a d md hx tx hy ty tm h7 tk7 (kp.trans kp7) ha0 (kp7 _ _ ha) (kp7 _ _ hd) (kp7 _ _ hmd)
end Mine
end
section
open PySem PySem.W PySem.W.X PyProof.Rows PySem.Calls PySem.Spec
set_option Elab.async false
set_option maxRecDepth 100000
set_option maxHeartbeats 1000000
set_option rowWalk.seconds 0
namespace Mine
theorem start_M6 : True := by w_top off; trivial
theorem r_enter {M : Model} {A : Around} {E : Value → Shared → Prop} {h : Heap} {g : Array GenState} {d : Drawn} {tk : Nat} {os : OsState} {Q : Unit → Shared → Prop} (hl : h.NoLimit) (hd : Nat.blt A.depth recursionLimit = true) (q : Q () ⟨h, g, d, tk, os⟩) : wpAny M A enterFrame Q E ⟨h, g, d, tk, os⟩ :=
  wpAny_enterFrame hl (Nat.le_of_ble_eq_true hd) q
theorem r_room {M : Model} {A : Around} {E : Value → Shared → Prop} {s : Shared} {what : String} {Q : Unit → Shared → Prop} (hd : Nat.blt A.units cLine = true) (q : Q () s) : wpAny M A (cRoom what) Q E s :=
  wpAny_cRoom (Nat.le_of_ble_eq_true hd) q
theorem r_list {M : Model} {A : Around} {E : Value → Shared → Prop} {s : Shared} {l l' : List Str} {Q : List Value → Shared → Prop} (e : l = l') (q : wpAny M A (List.mapM.loop mkText l' []) Q E s) : wpAny M A (List.mapM.loop mkText l []) Q E s := e ▸ q
theorem looks_bi {M : Model} {p : Program} {loose : List Str} {mean : ExcName → Option Value} {mg mb : Str → Option Value} {h0 h : Heap} (T : Top p loose mean mg mb h0) (kk : Keep h0 h) {a : Addr} (ha : a = builtinsNs) {x : Str} (hx : x ≠ "__name__") {v : Option Value} (e : bootBuiltins x = v) : Looks M h (nsGet a x) v := by
  intro A Q E s k q
  subst ha
  refine wpAny_nsGet (T.b.keeps (fun b o z => k _ _ (kk _ _ z))) ?_
  rw [T.builtins x hx, e]
  exact q
def KeepB (p : Addr) (h h' : Heap) : Prop := ∀ b o, h.get? b = some o → b ≠ p → h'.get? b = some o
theorem nolimit_B {h h' : Heap} {p : Addr} (x : h.NoLimit) (k : KeepB p h h') (n : cStatics ≠ p) : h'.NoLimit := let ⟨mc, ⟨o, es, ep, ho, r⟩, b⟩ := x; ⟨mc, ⟨o, es, ep, k _ _ ho n, r⟩, b⟩
def Mk (o : Obj) (h : Heap) (g : Array GenState) (d : Drawn) (os : OsState) (v : Flow) (s' : Shared) : Prop := ∃ h' tk l, v = .ret (.ref l) ∧ s' = ⟨h', g, d, tk, os⟩ ∧ Keep h h' ∧ h'.get? l = some o ∧ h.get? l = none
noncomputable def fdM (w : World) : FuncData := match (hd.heap_39 w.params).lookup 42 with | some ⟨_, _, .func fd, _⟩ => fd | _ => default
noncomputable def bodyM (w : World) : List Stmt := match (fdM w).body with | .stmts b => b | _ => []
noncomputable def envM (w : World) (L c : Addr) : Env := { scope := (fdM w).scope, locals := L, globals := (fdM w).globals, cells := [(Str.ofString "mycmp", c)], qual := Str.ofString "cmp_to_key.<locals>.", func := some 42, code := .ref 41, frame := some L, builtins := builtinsNs }
noncomputable def bodyK (w : World) : List Stmt := match bodyM w with | .ClassDef _ _ _ b _ _ _ _ _ _ _ :: _ => b | _ => []
noncomputable def scopeK (w : World) : Scope := match bodyM w with | .ClassDef _ _ _ _ _ _ sc _ _ _ _ :: _ => sc | _ => default
noncomputable def dK (w : World) (i : Nat) : Stmt := (bodyK w).getD i default
/-- the class body's frame -/
noncomputable def envK (w : World) (ns c cd fr : Addr) : Env := { scope := scopeK w, locals := ns, globals := 3, cells := [(Str.ofString "mycmp", c)], qual := Str.ofString "cmp_to_key.<locals>.K.", code := .ref cd, frame := some fr, builtins := builtinsNs }
local macro_rules | `(tactic| dsimp only) => `(tactic| skip)
local macro_rules | `(tactic| walk_at "go") => `(tactic| repeat (first
  | with_reducible refine m_stopN ?_
  | with_reducible refine m_alloc rfl ?_
  | with_reducible refine m_update (by assumption) rfl ?_
  | with_reducible refine m_fresh ?_
  | with_reducible refine m_try ?_
  | with_reducible refine r_isType ?_
  | with_reducible refine r_enter (by assumption) (by kernel_rfl) ?_
  | with_reducible refine r_room (by kernel_rfl) ?_
  | with_reducible refine x_at ?_
  | with_reducible refine wpAny_standAt ?_
  | lk))
abbrev A3 : Around := { handled := none, depth := 440, frames := none, guards := none, units := 200 }
end Mine
end
section
open PySem PySem.W PySem.W.X PyProof.Rows PySem.Calls PySem.Spec
set_option Elab.async false
set_option maxRecDepth 100000
set_option maxHeartbeats 1000000
set_option rowWalk.seconds 0
namespace Mine
theorem start_M7 : True := by w_top off; trivial
local macro_rules | `(tactic| dsimp only) => `(tactic| skip)
local macro_rules | `(tactic| walk_at "go") => `(tactic| repeat (first
  | with_reducible refine m_stopN ?_
  | with_reducible refine m_alloc rfl ?_
  | with_reducible refine m_update (by assumption) rfl ?_
  | with_reducible refine m_fresh ?_
  | with_reducible refine m_try ?_
  | with_reducible refine r_isType ?_
  | with_reducible refine r_enter (by assumption) (by kernel_rfl) ?_
  | with_reducible refine r_room (by kernel_rfl) ?_
  | with_reducible refine x_at ?_
  | with_reducible refine wpAny_standAt ?_
  | lk))
noncomputable def fdK (w : World) (i : Nat) (qual : Str) (cells : List (Str × Addr)) (cc : Addr) (ctv : Value) : FuncData := match dK w i with
  | .FunctionDef name args body _ _ _ scope _ _ _ => { name := name, qualname := qual, params := args, body := .stmts body, scope, globals := 3, closure := cells, defaults := .none, kwdefaults := .none, pyModule := .str (Str.ofString "law_mq0096_01") 246, code := .ref cc, closureTuple := ctv, builtins := builtinsNs }
  | _ => default
theorem def2 {w : World} {h0 : Heap} {g0 : Array GenState} {dr0 : Drawn} {k0 : Nat} {os0 : OsState} {ns c cd P fr tf : Addr} {x1 x2 x3 x4 x5 : Tok} {en : Nat} {sl4 : Array (Option Value)} {sl   : Addr} {u0 u1 u2 et0 et1 et2 et3 : Tok} {eh0 eh1 eh2 eh3 : Int} {Q : Flow → Shared → Prop} {E : Value → Shared → Prop}
   (o3 : (hd.heap_39 w.params).In h0) (hs4 : h0.get? 4 = some ⟨.type "module", some builtinsNs, .plain, sl4⟩)
   (hcd : h0.get? cd = some ⟨.type "code", none, .fields #[.str (Str.ofString "K") x1, .str (Str.ofString "cmp_to_key.<locals>.K") x2, .str (Str.ofString "/claim/cut.py") x3, .int 47 0, .int 0 0, .int 0 0, .int 0 0, .int 0 0, .ref tf, .bool true, .int 181 0, .ref P, .none, .none, .none, .none, .int x4 0, .int 47 0, .str (Str.ofString "/claim/cut.py") x5], #[]⟩)
   (hP : h0.get? P = some ⟨.none, none, .fields #[], #[]⟩) (n3P : 3 ≠ P) (n4P : 4 ≠ P) (nsP : ns ≠ P) (n3ns : 3 ≠ ns) (n4ns : 4 ≠ ns) (hns : h0.get? ns = some { cls := .type "dict", data := .dict #[⟨eh0, .str (Str.ofString "__module__") et0, .str (Str.ofString "cpy313.functools") u0⟩, ⟨eh1, .str (Str.ofString "__qualname__") et1, .str (Str.ofString "cmp_to_key.<locals>.K") u1⟩, ⟨eh2, .str (Str.ofString "__firstlineno__") et2, .int 47 u2⟩, ⟨eh3, .str (Str.ofString "__slots__") et3, .ref sl⟩] en })
   (ret : ∀ f cc y1 y2 y3 y4 y5 hx tx z0 z1 z2 z4 h' tk (z3 : Nat), (∀ b o, h0.get? b = some o → b ≠ ns → b ≠ P → h'.get? b = some o) → h0.get? f = none → h0.get? cc = none → h'.get? f = some { cls := .type "function", data := .func (fdK w 2 (Str.ofString "cmp_to_key.<locals>.K.__init__") [] cc .none) } → h'.get? cc = some { cls := .type "code", data := .fields #[.str (Str.ofString "__init__") z0, .str (Str.ofString "cmp_to_key.<locals>.K.__init__") z1, .str (Str.ofString "/claim/cut.py") z2, .int 51 0, .int 2 0, .int 0 0, .int 0 0, .int 19 0, .ref y1, .bool true, .int 181 0, .ref y2, .none, .ref y3, .ref y4, .ref y5, .int z3 0, .int 51 0, .str (Str.ofString "/claim/cut.py") z4] } →
      h'.get? ns = some { cls := .type "dict", data := .dict #[⟨eh0, .str (Str.ofString "__module__") et0, .str (Str.ofString "cpy313.functools") u0⟩, ⟨eh1, .str (Str.ofString "__qualname__") et1, .str (Str.ofString "cmp_to_key.<locals>.K") u1⟩, ⟨eh2, .str (Str.ofString "__firstlineno__") et2, .int 47 u2⟩, ⟨eh3, .str (Str.ofString "__slots__") et3, .ref sl⟩, ⟨hx, .str (Str.ofString "__init__") tx, .ref f⟩] (en + 1) } → h'.get? P = some ⟨.none, none, .fields #[.int 51 0, .int 8 0, .ref cc], #[]⟩ → Q .next ⟨h', g0, dr0, tk, os0⟩)
   : wpAny (model Challenge.rw_mq0096_01.row.prog w) A3 (exec (dK w 2) (envK w ns c cd fr)) Q E ⟨h0, g0, dr0, k0, os0⟩ := by
  have q3 := o3 3 _ rfl
  have q4 := hs4
  have hns_old := hns
  have kk : Keep h0 h0 := Keep.rfl'
  walk_at "go"
  refine r_list (l' := []) ?_ ?_
  · exact (congrArg (fun l => List.mergeSort l _) (show _ = [] from by kernel_rfl)).trans List.mergeSort_nil
  walk_at "go"
  intro a1 hh1 k1 ha1 hn1
  have z1 := none_keep kk hn1
  replace kk := kk.trans k1
  replace q3 := k1 _ _ q3
  replace q4 := k1 _ _ q4
  replace hcd := k1 _ _ hcd
  replace hP := k1 _ _ hP
  replace hns := k1 _ _ hns
  walk_at "go"
  intro a2 hh2 k2 ha2 hn2
  have z2 := none_keep kk hn2
  replace kk := kk.trans k2
  replace q3 := k2 _ _ q3
  replace q4 := k2 _ _ q4
  replace hcd := k2 _ _ hcd
  replace hP := k2 _ _ hP
  replace hns := k2 _ _ hns
  walk_at "go"
  intro a3 hh3 k3 ha3 hn3
  have z3 := none_keep kk hn3
  replace kk := kk.trans k3
  replace q3 := k3 _ _ q3
  replace q4 := k3 _ _ q4
  replace hcd := k3 _ _ hcd
  replace hP := k3 _ _ hP
  replace hns := k3 _ _ hns
  walk_at "go"
  intro a4 hh4 k4 ha4 hn4
  have z4 := none_keep kk hn4
  replace kk := kk.trans k4
  replace q3 := k4 _ _ q3
  replace q4 := k4 _ _ q4
  replace hcd := k4 _ _ hcd
  replace hP := k4 _ _ hP
  replace hns := k4 _ _ hns
  walk_at "go"
  intro a5 hh5 k5 ha5 hn5
  have z5 := none_keep kk hn5
  replace kk := kk.trans k5
  replace q3 := k5 _ _ q3
  replace q4 := k5 _ _ q4
  replace hcd := k5 _ _ hcd
  replace hP := k5 _ _ hP
  replace hns := k5 _ _ hns
  walk_at "go"
  have hPn := hP
  intro a6 hh6 k6 ha6 hn6
  have z6 := none_keep kk hn6
  replace kk := kk.trans k6
  replace q3 := k6 _ _ q3
  replace q4 := k6 _ _ q4
  replace hcd := k6 _ _ hcd
  replace hP := k6 _ _ hP
  replace hns := k6 _ _ hns
  walk_at "go"
  have nP6 : a6 ≠ P := (ne_none hPn hn6).symm
  replace ha6 : hh6.get? a6 = some { cls := .type "code", data := .fields #[.str (Str.ofString "__init__") k0, .str (Str.ofString "cmp_to_key.<locals>.K.__init__") (k0 + 1), .str (Str.ofString "/claim/cut.py") (k0 + 1 + 1), .int 51 0, .int 2 0, .int 0 0, .int 0 0, .int 19 0, .ref a1, .bool true, .int 181 0, .ref a2, .none, .ref a3, .ref a4, .ref a5, .int (k0 + 1 + 1 + 1 + 1 + 1) 0, .int 51 0, .str (Str.ofString "/claim/cut.py") (k0 + 1 + 1 + 1 + 1 + 1 + 1)] } := ha6.trans (congrArg some (by kernel_rfl))
  intro hh7 sb t7
  have kB : ∀ b o, h0.get? b = some o → b ≠ P → hh7.get? b = some o := fun b o e n => (sb.2 b n).trans (kk b o e)
  replace q3 := but_ne sb n3P q3
  replace q4 := but_ne sb n4P q4
  replace hns := but_ne sb nsP hns
  replace ha6 := but_ne sb nP6 ha6
  replace hP : hh7.get? P = some ⟨.none, none, .fields #[.int 51 0, .int 8 0, .ref a6], #[]⟩ := t7.trans (congrArg some (by kernel_rfl))
  clear t7 ha1 ha2 ha3 ha4 ha5 hcd sb
  walk_at "go"
  intro f hh8 k8 hf hf0
  have n6ns : a6 ≠ ns := (ne_none hns_old z6).symm
  have fz : h0.get? f = none := by
    cases q : h0.get? f with
    | none => rfl
    | some o =>
      by_cases hfP : f = P
      · rw [hfP, hP] at hf0; cases hf0
      · rw [kB _ _ q hfP] at hf0; cases hf0
  have nfns : f ≠ ns := (ne_none hns hf0).symm
  replace hf : hh8.get? f = some { cls := .type "function", data := .func (fdK w 2 (Str.ofString "cmp_to_key.<locals>.K.__init__") [] a6 .none) } := hf.trans (congrArg some (by kernel_rfl))
  replace q3 := k8 _ _ q3
  replace q4 := k8 _ _ q4
  replace hns := k8 _ _ hns
  replace ha6 := k8 _ _ ha6
  replace hP := k8 _ _ hP
  walk_at "go"
  refine m_update hns rfl ?_
  intro hh9 sb nsN
  replace ha6 := but_ne sb n6ns ha6
  replace hf := but_ne sb nfns hf
  replace hP := but_ne sb nsP.symm hP
  obtain ⟨hx, tx, hns⟩ : ∃ hx tx, hh9.get? ns = some { cls := .type "dict", data := .dict #[⟨eh0, .str (Str.ofString "__module__") et0, .str (Str.ofString "cpy313.functools") u0⟩, ⟨eh1, .str (Str.ofString "__qualname__") et1, .str (Str.ofString "cmp_to_key.<locals>.K") u1⟩, ⟨eh2, .str (Str.ofString "__firstlineno__") et2, .int 47 u2⟩, ⟨eh3, .str (Str.ofString "__slots__") et3, .ref sl⟩, ⟨hx, .str (Str.ofString "__init__") tx, .ref f⟩] (en + 1) } := ⟨_, _, nsN⟩
  walk_at "go"
  exact ret f a6 a1 a2 a3 a4 a5 hx tx _ _ _ _ hh9 _ _ (fun b o e n1 n2 => (sb.2 b n1).trans (k8 _ _ (kB b o e n2))) fz z6 hf ha6 hns hP
theorem def3 {w : World} {h0 : Heap} {g0 : Array GenState} {dr0 : Drawn} {k0 : Nat} {os0 : OsState} {ns c cd P fr tf : Addr} {x1 x2 x3 x4 x5 : Tok} {en : Nat} {sl4 : Array (Option Value)} {sl f0 cc0 : Addr} {u0 u1 u2 et0 et1 et2 et3 et4 : Tok} {eh0 eh1 eh2 eh3 eh4 : Int} {Q : Flow → Shared → Prop} {E : Value → Shared → Prop}
   (o3 : (hd.heap_39 w.params).In h0) (hs4 : h0.get? 4 = some ⟨.type "module", some builtinsNs, .plain, sl4⟩)
   (hcd : h0.get? cd = some ⟨.type "code", none, .fields #[.str (Str.ofString "K") x1, .str (Str.ofString "cmp_to_key.<locals>.K") x2, .str (Str.ofString "/claim/cut.py") x3, .int 47 0, .int 0 0, .int 0 0, .int 0 0, .int 0 0, .ref tf, .bool true, .int 181 0, .ref P, .none, .none, .none, .none, .int x4 0, .int 47 0, .str (Str.ofString "/claim/cut.py") x5], #[]⟩)
   (hP : h0.get? P = some ⟨.none, none, .fields #[.int 51 0, .int 8 0, .ref cc0], #[]⟩) (n3P : 3 ≠ P) (n4P : 4 ≠ P) (nsP : ns ≠ P) (n3ns : 3 ≠ ns) (n4ns : 4 ≠ ns) (hns : h0.get? ns = some { cls := .type "dict", data := .dict #[⟨eh0, .str (Str.ofString "__module__") et0, .str (Str.ofString "cpy313.functools") u0⟩, ⟨eh1, .str (Str.ofString "__qualname__") et1, .str (Str.ofString "cmp_to_key.<locals>.K") u1⟩, ⟨eh2, .str (Str.ofString "__firstlineno__") et2, .int 47 u2⟩, ⟨eh3, .str (Str.ofString "__slots__") et3, .ref sl⟩, ⟨eh4, .str (Str.ofString "__init__") et4, .ref f0⟩] en })
   (ret : ∀ f cc ct y1 y2 y3 y4 y5 hx tx z0 z1 z2 z4 h' tk (z3 : Nat), (∀ b o, h0.get? b = some o → b ≠ ns → b ≠ P → h'.get? b = some o) → h0.get? f = none → h0.get? cc = none → h'.get? f = some { cls := .type "function", data := .func (fdK w 3 (Str.ofString "cmp_to_key.<locals>.K.__lt__") [(Str.ofString "mycmp", c)] cc (.ref ct)) } → h'.get? cc = some { cls := .type "code", data := .fields #[.str (Str.ofString "__lt__") z0, .str (Str.ofString "cmp_to_key.<locals>.K.__lt__") z1, .str (Str.ofString "/claim/cut.py") z2, .int 54 0, .int 2 0, .int 0 0, .int 0 0, .int 19 0, .ref y1, .bool true, .int 181 0, .ref y2, .none, .ref y3, .ref y4, .ref y5, .int z3 0, .int 54 0, .str (Str.ofString "/claim/cut.py") z4] } →
      h'.get? ns = some { cls := .type "dict", data := .dict #[⟨eh0, .str (Str.ofString "__module__") et0, .str (Str.ofString "cpy313.functools") u0⟩, ⟨eh1, .str (Str.ofString "__qualname__") et1, .str (Str.ofString "cmp_to_key.<locals>.K") u1⟩, ⟨eh2, .str (Str.ofString "__firstlineno__") et2, .int 47 u2⟩, ⟨eh3, .str (Str.ofString "__slots__") et3, .ref sl⟩, ⟨eh4, .str (Str.ofString "__init__") et4, .ref f0⟩, ⟨hx, .str (Str.ofString "__lt__") tx, .ref f⟩] (en + 1) } → h'.get? P = some ⟨.none, none, .fields #[.int 51 0, .int 8 0, .ref cc0, .int 54 0, .int 8 0, .ref cc], #[]⟩ → Q .next ⟨h', g0, dr0, tk, os0⟩)
   : wpAny (model Challenge.rw_mq0096_01.row.prog w) A3 (exec (dK w 3) (envK w ns c cd fr)) Q E ⟨h0, g0, dr0, k0, os0⟩ := by
  have q3 := o3 3 _ rfl
  have q4 := hs4
  have hns_old := hns
  have kk : Keep h0 h0 := Keep.rfl'
  walk_at "go"
  intro ct h1 k1 hct hct0
  replace hct : h1.get? ct = some { cls := .type "tuple", data := .seq #[.ref c] } := hct.trans (by rw [List.mergeSort_singleton]; rfl)
  replace kk := k1
  replace q3 := k1 _ _ q3
  replace q4 := k1 _ _ q4
  replace hcd := k1 _ _ hcd
  replace hP := k1 _ _ hP
  replace hns := k1 _ _ hns
  walk_at "go"
  refine r_list (l' := [Str.ofString "mycmp"]) ?_ ?_
  · exact (congrArg (fun l => List.mergeSort l _) (show _ = [Str.ofString "mycmp"] from by kernel_rfl)).trans (List.mergeSort_singleton _)
  walk_at "go"
  intro a1 hh1 k1 ha1 hn1
  have z1 := none_keep kk hn1
  replace kk := kk.trans k1
  replace q3 := k1 _ _ q3
  replace q4 := k1 _ _ q4
  replace hcd := k1 _ _ hcd
  replace hP := k1 _ _ hP
  replace hns := k1 _ _ hns
  walk_at "go"
  intro a2 hh2 k2 ha2 hn2
  have z2 := none_keep kk hn2
  replace kk := kk.trans k2
  replace q3 := k2 _ _ q3
  replace q4 := k2 _ _ q4
  replace hcd := k2 _ _ hcd
  replace hP := k2 _ _ hP
  replace hns := k2 _ _ hns
  walk_at "go"
  intro a3 hh3 k3 ha3 hn3
  have z3 := none_keep kk hn3
  replace kk := kk.trans k3
  replace q3 := k3 _ _ q3
  replace q4 := k3 _ _ q4
  replace hcd := k3 _ _ hcd
  replace hP := k3 _ _ hP
  replace hns := k3 _ _ hns
  walk_at "go"
  intro a4 hh4 k4 ha4 hn4
  have z4 := none_keep kk hn4
  replace kk := kk.trans k4
  replace q3 := k4 _ _ q3
  replace q4 := k4 _ _ q4
  replace hcd := k4 _ _ hcd
  replace hP := k4 _ _ hP
  replace hns := k4 _ _ hns
  walk_at "go"
  intro a5 hh5 k5 ha5 hn5
  have z5 := none_keep kk hn5
  replace kk := kk.trans k5
  replace q3 := k5 _ _ q3
  replace q4 := k5 _ _ q4
  replace hcd := k5 _ _ hcd
  replace hP := k5 _ _ hP
  replace hns := k5 _ _ hns
  walk_at "go"
  have hPn := hP
  intro a6 hh6 k6 ha6 hn6
  have z6 := none_keep kk hn6
  replace kk := kk.trans k6
  replace q3 := k6 _ _ q3
  replace q4 := k6 _ _ q4
  replace hcd := k6 _ _ hcd
  replace hP := k6 _ _ hP
  replace hns := k6 _ _ hns
  walk_at "go"
  have nP6 : a6 ≠ P := (ne_none hPn hn6).symm
  replace ha6 : hh6.get? a6 = some { cls := .type "code", data := .fields #[.str (Str.ofString "__lt__") k0, .str (Str.ofString "cmp_to_key.<locals>.K.__lt__") (k0 + 1), .str (Str.ofString "/claim/cut.py") (k0 + 1 + 1), .int 54 0, .int 2 0, .int 0 0, .int 0 0, .int 19 0, .ref a1, .bool true, .int 181 0, .ref a2, .none, .ref a3, .ref a4, .ref a5, .int (k0 + 1 + 1 + 1 + 1 + 1 + 1) 0, .int 54 0, .str (Str.ofString "/claim/cut.py") (k0 + 1 + 1 + 1 + 1 + 1 + 1 + 1)] } := ha6.trans (congrArg some (by kernel_rfl))
  intro hh7 sb t7
  have kB : ∀ b o, h0.get? b = some o → b ≠ P → hh7.get? b = some o := fun b o e n => (sb.2 b n).trans (kk b o e)
  replace q3 := but_ne sb n3P q3
  replace q4 := but_ne sb n4P q4
  replace hns := but_ne sb nsP hns
  replace ha6 := but_ne sb nP6 ha6
  replace hP : hh7.get? P = some ⟨.none, none, .fields #[.int 51 0, .int 8 0, .ref cc0, .int 54 0, .int 8 0, .ref a6], #[]⟩ := t7.trans (congrArg some (by kernel_rfl))
  clear t7 ha1 ha2 ha3 ha4 ha5 hcd sb
  walk_at "go"
  intro f hh8 k8 hf hf0
  have n6ns : a6 ≠ ns := (ne_none hns_old z6).symm
  have fz : h0.get? f = none := by
    cases q : h0.get? f with
    | none => rfl
    | some o =>
      by_cases hfP : f = P
      · rw [hfP, hP] at hf0; cases hf0
      · rw [kB _ _ q hfP] at hf0; cases hf0
  have nfns : f ≠ ns := (ne_none hns hf0).symm
  replace hf : hh8.get? f = some { cls := .type "function", data := .func (fdK w 3 (Str.ofString "cmp_to_key.<locals>.K.__lt__") [(Str.ofString "mycmp", c)] a6 (.ref ct)) } := hf.trans (congrArg some (by kernel_rfl))
  replace q3 := k8 _ _ q3
  replace q4 := k8 _ _ q4
  replace hns := k8 _ _ hns
  replace ha6 := k8 _ _ ha6
  replace hP := k8 _ _ hP
  walk_at "go"
  refine m_update hns rfl ?_
  intro hh9 sb nsN
  replace ha6 := but_ne sb n6ns ha6
  replace hf := but_ne sb nfns hf
  replace hP := but_ne sb nsP.symm hP
  obtain ⟨hx, tx, hns⟩ : ∃ hx tx, hh9.get? ns = some { cls := .type "dict", data := .dict #[⟨eh0, .str (Str.ofString "__module__") et0, .str (Str.ofString "cpy313.functools") u0⟩, ⟨eh1, .str (Str.ofString "__qualname__") et1, .str (Str.ofString "cmp_to_key.<locals>.K") u1⟩, ⟨eh2, .str (Str.ofString "__firstlineno__") et2, .int 47 u2⟩, ⟨eh3, .str (Str.ofString "__slots__") et3, .ref sl⟩, ⟨eh4, .str (Str.ofString "__init__") et4, .ref f0⟩, ⟨hx, .str (Str.ofString "__lt__") tx, .ref f⟩] (en + 1) } := ⟨_, _, nsN⟩
  walk_at "go"
  exact ret f a6 ct a1 a2 a3 a4 a5 hx tx _ _ _ _ hh9 _ _ (fun b o e n1 n2 => (sb.2 b n1).trans (k8 _ _ (kB b o e n2))) fz z6 hf ha6 hns hP
theorem def4 {w : World} {h0 : Heap} {g0 : Array GenState} {dr0 : Drawn} {k0 : Nat} {os0 : OsState} {ns c cd P fr tf : Addr} {x1 x2 x3 x4 x5 : Tok} {en : Nat} {sl4 : Array (Option Value)} {sl f0 f1 cc0 cc1 : Addr} {u0 u1 u2 et0 et1 et2 et3 et4 et5 : Tok} {eh0 eh1 eh2 eh3 eh4 eh5 : Int} {Q : Flow → Shared → Prop} {E : Value → Shared → Prop}
   (o3 : (hd.heap_39 w.params).In h0) (hs4 : h0.get? 4 = some ⟨.type "module", some builtinsNs, .plain, sl4⟩)
   (hcd : h0.get? cd = some ⟨.type "code", none, .fields #[.str (Str.ofString "K") x1, .str (Str.ofString "cmp_to_key.<locals>.K") x2, .str (Str.ofString "/claim/cut.py") x3, .int 47 0, .int 0 0, .int 0 0, .int 0 0, .int 0 0, .ref tf, .bool true, .int 181 0, .ref P, .none, .none, .none, .none, .int x4 0, .int 47 0, .str (Str.ofString "/claim/cut.py") x5], #[]⟩)
   (hP : h0.get? P = some ⟨.none, none, .fields #[.int 51 0, .int 8 0, .ref cc0, .int 54 0, .int 8 0, .ref cc1], #[]⟩) (n3P : 3 ≠ P) (n4P : 4 ≠ P) (nsP : ns ≠ P) (n3ns : 3 ≠ ns) (n4ns : 4 ≠ ns) (hns : h0.get? ns = some { cls := .type "dict", data := .dict #[⟨eh0, .str (Str.ofString "__module__") et0, .str (Str.ofString "cpy313.functools") u0⟩, ⟨eh1, .str (Str.ofString "__qualname__") et1, .str (Str.ofString "cmp_to_key.<locals>.K") u1⟩, ⟨eh2, .str (Str.ofString "__firstlineno__") et2, .int 47 u2⟩, ⟨eh3, .str (Str.ofString "__slots__") et3, .ref sl⟩, ⟨eh4, .str (Str.ofString "__init__") et4, .ref f0⟩, ⟨eh5, .str (Str.ofString "__lt__") et5, .ref f1⟩] en })
   (ret : ∀ f cc ct y1 y2 y3 y4 y5 hx tx z0 z1 z2 z4 h' tk (z3 : Nat), (∀ b o, h0.get? b = some o → b ≠ ns → b ≠ P → h'.get? b = some o) → h0.get? f = none → h0.get? cc = none → h'.get? f = some { cls := .type "function", data := .func (fdK w 4 (Str.ofString "cmp_to_key.<locals>.K.__gt__") [(Str.ofString "mycmp", c)] cc (.ref ct)) } → h'.get? cc = some { cls := .type "code", data := .fields #[.str (Str.ofString "__gt__") z0, .str (Str.ofString "cmp_to_key.<locals>.K.__gt__") z1, .str (Str.ofString "/claim/cut.py") z2, .int 57 0, .int 2 0, .int 0 0, .int 0 0, .int 19 0, .ref y1, .bool true, .int 181 0, .ref y2, .none, .ref y3, .ref y4, .ref y5, .int z3 0, .int 57 0, .str (Str.ofString "/claim/cut.py") z4] } →
      h'.get? ns = some { cls := .type "dict", data := .dict #[⟨eh0, .str (Str.ofString "__module__") et0, .str (Str.ofString "cpy313.functools") u0⟩, ⟨eh1, .str (Str.ofString "__qualname__") et1, .str (Str.ofString "cmp_to_key.<locals>.K") u1⟩, ⟨eh2, .str (Str.ofString "__firstlineno__") et2, .int 47 u2⟩, ⟨eh3, .str (Str.ofString "__slots__") et3, .ref sl⟩, ⟨eh4, .str (Str.ofString "__init__") et4, .ref f0⟩, ⟨eh5, .str (Str.ofString "__lt__") et5, .ref f1⟩, ⟨hx, .str (Str.ofString "__gt__") tx, .ref f⟩] (en + 1) } → h'.get? P = some ⟨.none, none, .fields #[.int 51 0, .int 8 0, .ref cc0, .int 54 0, .int 8 0, .ref cc1, .int 57 0, .int 8 0, .ref cc], #[]⟩ → Q .next ⟨h', g0, dr0, tk, os0⟩)
   : wpAny (model Challenge.rw_mq0096_01.row.prog w) A3 (exec (dK w 4) (envK w ns c cd fr)) Q E ⟨h0, g0, dr0, k0, os0⟩ := by
  have q3 := o3 3 _ rfl
  have q4 := hs4
  have hns_old := hns
  have kk : Keep h0 h0 := Keep.rfl'
  walk_at "go"
  intro ct h1 k1 hct hct0
  replace hct : h1.get? ct = some { cls := .type "tuple", data := .seq #[.ref c] } := hct.trans (by rw [List.mergeSort_singleton]; rfl)
  replace kk := k1
  replace q3 := k1 _ _ q3
  replace q4 := k1 _ _ q4
  replace hcd := k1 _ _ hcd
  replace hP := k1 _ _ hP
  replace hns := k1 _ _ hns
  walk_at "go"
  refine r_list (l' := [Str.ofString "mycmp"]) ?_ ?_
  · exact (congrArg (fun l => List.mergeSort l _) (show _ = [Str.ofString "mycmp"] from by kernel_rfl)).trans (List.mergeSort_singleton _)
  walk_at "go"
  intro a1 hh1 k1 ha1 hn1
  have z1 := none_keep kk hn1
  replace kk := kk.trans k1
  replace q3 := k1 _ _ q3
  replace q4 := k1 _ _ q4
  replace hcd := k1 _ _ hcd
  replace hP := k1 _ _ hP
  replace hns := k1 _ _ hns
  walk_at "go"
  intro a2 hh2 k2 ha2 hn2
  have z2 := none_keep kk hn2
  replace kk := kk.trans k2
  replace q3 := k2 _ _ q3
  replace q4 := k2 _ _ q4
  replace hcd := k2 _ _ hcd
  replace hP := k2 _ _ hP
  replace hns := k2 _ _ hns
  walk_at "go"
  intro a3 hh3 k3 ha3 hn3
  have z3 := none_keep kk hn3
  replace kk := kk.trans k3
  replace q3 := k3 _ _ q3
  replace q4 := k3 _ _ q4
  replace hcd := k3 _ _ hcd
  replace hP := k3 _ _ hP
  replace hns := k3 _ _ hns
  walk_at "go"
  intro a4 hh4 k4 ha4 hn4
  have z4 := none_keep kk hn4
  replace kk := kk.trans k4
  replace q3 := k4 _ _ q3
  replace q4 := k4 _ _ q4
  replace hcd := k4 _ _ hcd
  replace hP := k4 _ _ hP
  replace hns := k4 _ _ hns
  walk_at "go"
  intro a5 hh5 k5 ha5 hn5
  have z5 := none_keep kk hn5
  replace kk := kk.trans k5
  replace q3 := k5 _ _ q3
  replace q4 := k5 _ _ q4
  replace hcd := k5 _ _ hcd
  replace hP := k5 _ _ hP
  replace hns := k5 _ _ hns
  walk_at "go"
  have hPn := hP
  intro a6 hh6 k6 ha6 hn6
  have z6 := none_keep kk hn6
  replace kk := kk.trans k6
  replace q3 := k6 _ _ q3
  replace q4 := k6 _ _ q4
  replace hcd := k6 _ _ hcd
  replace hP := k6 _ _ hP
  replace hns := k6 _ _ hns
  walk_at "go"
  have nP6 : a6 ≠ P := (ne_none hPn hn6).symm
  replace ha6 : hh6.get? a6 = some { cls := .type "code", data := .fields #[.str (Str.ofString "__gt__") k0, .str (Str.ofString "cmp_to_key.<locals>.K.__gt__") (k0 + 1), .str (Str.ofString "/claim/cut.py") (k0 + 1 + 1), .int 57 0, .int 2 0, .int 0 0, .int 0 0, .int 19 0, .ref a1, .bool true, .int 181 0, .ref a2, .none, .ref a3, .ref a4, .ref a5, .int (k0 + 1 + 1 + 1 + 1 + 1 + 1) 0, .int 57 0, .str (Str.ofString "/claim/cut.py") (k0 + 1 + 1 + 1 + 1 + 1 + 1 + 1)] } := ha6.trans (congrArg some (by kernel_rfl))
  intro hh7 sb t7
  have kB : ∀ b o, h0.get? b = some o → b ≠ P → hh7.get? b = some o := fun b o e n => (sb.2 b n).trans (kk b o e)
  replace q3 := but_ne sb n3P q3
  replace q4 := but_ne sb n4P q4
  replace hns := but_ne sb nsP hns
  replace ha6 := but_ne sb nP6 ha6
  replace hP : hh7.get? P = some ⟨.none, none, .fields #[.int 51 0, .int 8 0, .ref cc0, .int 54 0, .int 8 0, .ref cc1, .int 57 0, .int 8 0, .ref a6], #[]⟩ := t7.trans (congrArg some (by kernel_rfl))
  clear t7 ha1 ha2 ha3 ha4 ha5 hcd sb
  walk_at "go"
  intro f hh8 k8 hf hf0
  have n6ns : a6 ≠ ns := (ne_none hns_old z6).symm
  have fz : h0.get? f = none := by
    cases q : h0.get? f with
    | none => rfl
    | some o =>
      by_cases hfP : f = P
      · rw [hfP, hP] at hf0; cases hf0
      · rw [kB _ _ q hfP] at hf0; cases hf0
  have nfns : f ≠ ns := (ne_none hns hf0).symm
  replace hf : hh8.get? f = some { cls := .type "function", data := .func (fdK w 4 (Str.ofString "cmp_to_key.<locals>.K.__gt__") [(Str.ofString "mycmp", c)] a6 (.ref ct)) } := hf.trans (congrArg some (by kernel_rfl))
  replace q3 := k8 _ _ q3
  replace q4 := k8 _ _ q4
  replace hns := k8 _ _ hns
  replace ha6 := k8 _ _ ha6
  replace hP := k8 _ _ hP
  walk_at "go"
  refine m_update hns rfl ?_
  intro hh9 sb nsN
  replace ha6 := but_ne sb n6ns ha6
  replace hf := but_ne sb nfns hf
  replace hP := but_ne sb nsP.symm hP
  obtain ⟨hx, tx, hns⟩ : ∃ hx tx, hh9.get? ns = some { cls := .type "dict", data := .dict #[⟨eh0, .str (Str.ofString "__module__") et0, .str (Str.ofString "cpy313.functools") u0⟩, ⟨eh1, .str (Str.ofString "__qualname__") et1, .str (Str.ofString "cmp_to_key.<locals>.K") u1⟩, ⟨eh2, .str (Str.ofString "__firstlineno__") et2, .int 47 u2⟩, ⟨eh3, .str (Str.ofString "__slots__") et3, .ref sl⟩, ⟨eh4, .str (Str.ofString "__init__") et4, .ref f0⟩, ⟨eh5, .str (Str.ofString "__lt__") et5, .ref f1⟩, ⟨hx, .str (Str.ofString "__gt__") tx, .ref f⟩] (en + 1) } := ⟨_, _, nsN⟩
  walk_at "go"
  exact ret f a6 ct a1 a2 a3 a4 a5 hx tx _ _ _ _ hh9 _ _ (fun b o e n1 n2 => (sb.2 b n1).trans (k8 _ _ (kB b o e n2))) fz z6 hf ha6 hns hP
theorem def5 {w : World} {h0 : Heap} {g0 : Array GenState} {dr0 : Drawn} {k0 : Nat} {os0 : OsState} {ns c cd P fr tf : Addr} {x1 x2 x3 x4 x5 : Tok} {en : Nat} {sl4 : Array (Option Value)} {sl f0 f1 f2 cc0 cc1 cc2 : Addr} {u0 u1 u2 et0 et1 et2 et3 et4 et5 et6 : Tok} {eh0 eh1 eh2 eh3 eh4 eh5 eh6 : Int} {Q : Flow → Shared → Prop} {E : Value → Shared → Prop}
   (o3 : (hd.heap_39 w.params).In h0) (hs4 : h0.get? 4 = some ⟨.type "module", some builtinsNs, .plain, sl4⟩)
   (hcd : h0.get? cd = some ⟨.type "code", none, .fields #[.str (Str.ofString "K") x1, .str (Str.ofString "cmp_to_key.<locals>.K") x2, .str (Str.ofString "/claim/cut.py") x3, .int 47 0, .int 0 0, .int 0 0, .int 0 0, .int 0 0, .ref tf, .bool true, .int 181 0, .ref P, .none, .none, .none, .none, .int x4 0, .int 47 0, .str (Str.ofString "/claim/cut.py") x5], #[]⟩)
   (hP : h0.get? P = some ⟨.none, none, .fields #[.int 51 0, .int 8 0, .ref cc0, .int 54 0, .int 8 0, .ref cc1, .int 57 0, .int 8 0, .ref cc2], #[]⟩) (n3P : 3 ≠ P) (n4P : 4 ≠ P) (nsP : ns ≠ P) (n3ns : 3 ≠ ns) (n4ns : 4 ≠ ns) (hns : h0.get? ns = some { cls := .type "dict", data := .dict #[⟨eh0, .str (Str.ofString "__module__") et0, .str (Str.ofString "cpy313.functools") u0⟩, ⟨eh1, .str (Str.ofString "__qualname__") et1, .str (Str.ofString "cmp_to_key.<locals>.K") u1⟩, ⟨eh2, .str (Str.ofString "__firstlineno__") et2, .int 47 u2⟩, ⟨eh3, .str (Str.ofString "__slots__") et3, .ref sl⟩, ⟨eh4, .str (Str.ofString "__init__") et4, .ref f0⟩, ⟨eh5, .str (Str.ofString "__lt__") et5, .ref f1⟩, ⟨eh6, .str (Str.ofString "__gt__") et6, .ref f2⟩] en })
   (ret : ∀ f cc ct y1 y2 y3 y4 y5 hx tx z0 z1 z2 z4 h' tk (z3 : Nat), (∀ b o, h0.get? b = some o → b ≠ ns → b ≠ P → h'.get? b = some o) → h0.get? f = none → h0.get? cc = none → h'.get? f = some { cls := .type "function", data := .func (fdK w 5 (Str.ofString "cmp_to_key.<locals>.K.__eq__") [(Str.ofString "mycmp", c)] cc (.ref ct)) } → h'.get? cc = some { cls := .type "code", data := .fields #[.str (Str.ofString "__eq__") z0, .str (Str.ofString "cmp_to_key.<locals>.K.__eq__") z1, .str (Str.ofString "/claim/cut.py") z2, .int 60 0, .int 2 0, .int 0 0, .int 0 0, .int 19 0, .ref y1, .bool true, .int 181 0, .ref y2, .none, .ref y3, .ref y4, .ref y5, .int z3 0, .int 60 0, .str (Str.ofString "/claim/cut.py") z4] } →
      h'.get? ns = some { cls := .type "dict", data := .dict #[⟨eh0, .str (Str.ofString "__module__") et0, .str (Str.ofString "cpy313.functools") u0⟩, ⟨eh1, .str (Str.ofString "__qualname__") et1, .str (Str.ofString "cmp_to_key.<locals>.K") u1⟩, ⟨eh2, .str (Str.ofString "__firstlineno__") et2, .int 47 u2⟩, ⟨eh3, .str (Str.ofString "__slots__") et3, .ref sl⟩, ⟨eh4, .str (Str.ofString "__init__") et4, .ref f0⟩, ⟨eh5, .str (Str.ofString "__lt__") et5, .ref f1⟩, ⟨eh6, .str (Str.ofString "__gt__") et6, .ref f2⟩, ⟨hx, .str (Str.ofString "__eq__") tx, .ref f⟩] (en + 1) } → h'.get? P = some ⟨.none, none, .fields #[.int 51 0, .int 8 0, .ref cc0, .int 54 0, .int 8 0, .ref cc1, .int 57 0, .int 8 0, .ref cc2, .int 60 0, .int 8 0, .ref cc], #[]⟩ → Q .next ⟨h', g0, dr0, tk, os0⟩)
   : wpAny (model Challenge.rw_mq0096_01.row.prog w) A3 (exec (dK w 5) (envK w ns c cd fr)) Q E ⟨h0, g0, dr0, k0, os0⟩ := by
  have q3 := o3 3 _ rfl
  have q4 := hs4
  have hns_old := hns
  have kk : Keep h0 h0 := Keep.rfl'
  walk_at "go"
  intro ct h1 k1 hct hct0
  replace hct : h1.get? ct = some { cls := .type "tuple", data := .seq #[.ref c] } := hct.trans (by rw [List.mergeSort_singleton]; rfl)
  replace kk := k1
  replace q3 := k1 _ _ q3
  replace q4 := k1 _ _ q4
  replace hcd := k1 _ _ hcd
  replace hP := k1 _ _ hP
  replace hns := k1 _ _ hns
  walk_at "go"
  refine r_list (l' := [Str.ofString "mycmp"]) ?_ ?_
  · exact (congrArg (fun l => List.mergeSort l _) (show _ = [Str.ofString "mycmp"] from by kernel_rfl)).trans (List.mergeSort_singleton _)
  walk_at "go"
  intro a1 hh1 k1 ha1 hn1
  have z1 := none_keep kk hn1
  replace kk := kk.trans k1
  replace q3 := k1 _ _ q3
  replace q4 := k1 _ _ q4
  replace hcd := k1 _ _ hcd
  replace hP := k1 _ _ hP
  replace hns := k1 _ _ hns
  walk_at "go"
  intro a2 hh2 k2 ha2 hn2
  have z2 := none_keep kk hn2
  replace kk := kk.trans k2
  replace q3 := k2 _ _ q3
  replace q4 := k2 _ _ q4
  replace hcd := k2 _ _ hcd
  replace hP := k2 _ _ hP
  replace hns := k2 _ _ hns
  walk_at "go"
  intro a3 hh3 k3 ha3 hn3
  have z3 := none_keep kk hn3
  replace kk := kk.trans k3
  replace q3 := k3 _ _ q3
  replace q4 := k3 _ _ q4
  replace hcd := k3 _ _ hcd
  replace hP := k3 _ _ hP
  replace hns := k3 _ _ hns
  walk_at "go"
  intro a4 hh4 k4 ha4 hn4
  have z4 := none_keep kk hn4
  replace kk := kk.trans k4
  replace q3 := k4 _ _ q3
  replace q4 := k4 _ _ q4
  replace hcd := k4 _ _ hcd
  replace hP := k4 _ _ hP
  replace hns := k4 _ _ hns
  walk_at "go"
  intro a5 hh5 k5 ha5 hn5
  have z5 := none_keep kk hn5
  replace kk := kk.trans k5
  replace q3 := k5 _ _ q3
  replace q4 := k5 _ _ q4
  replace hcd := k5 _ _ hcd
  replace hP := k5 _ _ hP
  replace hns := k5 _ _ hns
  walk_at "go"
  have hPn := hP
  intro a6 hh6 k6 ha6 hn6
  have z6 := none_keep kk hn6
  replace kk := kk.trans k6
  replace q3 := k6 _ _ q3
  replace q4 := k6 _ _ q4
  replace hcd := k6 _ _ hcd
  replace hP := k6 _ _ hP
  replace hns := k6 _ _ hns
  walk_at "go"
  have nP6 : a6 ≠ P := (ne_none hPn hn6).symm
  replace ha6 : hh6.get? a6 = some { cls := .type "code", data := .fields #[.str (Str.ofString "__eq__") k0, .str (Str.ofString "cmp_to_key.<locals>.K.__eq__") (k0 + 1), .str (Str.ofString "/claim/cut.py") (k0 + 1 + 1), .int 60 0, .int 2 0, .int 0 0, .int 0 0, .int 19 0, .ref a1, .bool true, .int 181 0, .ref a2, .none, .ref a3, .ref a4, .ref a5, .int (k0 + 1 + 1 + 1 + 1 + 1 + 1) 0, .int 60 0, .str (Str.ofString "/claim/cut.py") (k0 + 1 + 1 + 1 + 1 + 1 + 1 + 1)] } := ha6.trans (congrArg some (by kernel_rfl))
  intro hh7 sb t7
  have kB : ∀ b o, h0.get? b = some o → b ≠ P → hh7.get? b = some o := fun b o e n => (sb.2 b n).trans (kk b o e)
  replace q3 := but_ne sb n3P q3
  replace q4 := but_ne sb n4P q4
  replace hns := but_ne sb nsP hns
  replace ha6 := but_ne sb nP6 ha6
  replace hP : hh7.get? P = some ⟨.none, none, .fields #[.int 51 0, .int 8 0, .ref cc0, .int 54 0, .int 8 0, .ref cc1, .int 57 0, .int 8 0, .ref cc2, .int 60 0, .int 8 0, .ref a6], #[]⟩ := t7.trans (congrArg some (by kernel_rfl))
  clear t7 ha1 ha2 ha3 ha4 ha5 hcd sb
  walk_at "go"
  intro f hh8 k8 hf hf0
  have n6ns : a6 ≠ ns := (ne_none hns_old z6).symm
  have fz : h0.get? f = none := by
    cases q : h0.get? f with
    | none => rfl
    | some o =>
      by_cases hfP : f = P
      · rw [hfP, hP] at hf0; cases hf0
      · rw [kB _ _ q hfP] at hf0; cases hf0
  have nfns : f ≠ ns := (ne_none hns hf0).symm
  replace hf : hh8.get? f = some { cls := .type "function", data := .func (fdK w 5 (Str.ofString "cmp_to_key.<locals>.K.__eq__") [(Str.ofString "mycmp", c)] a6 (.ref ct)) } := hf.trans (congrArg some (by kernel_rfl))
  replace q3 := k8 _ _ q3
  replace q4 := k8 _ _ q4
  replace hns := k8 _ _ hns
  replace ha6 := k8 _ _ ha6
  replace hP := k8 _ _ hP
  walk_at "go"
  refine m_update hns rfl ?_
  intro hh9 sb nsN
  replace ha6 := but_ne sb n6ns ha6
  replace hf := but_ne sb nfns hf
  replace hP := but_ne sb nsP.symm hP
  obtain ⟨hx, tx, hns⟩ : ∃ hx tx, hh9.get? ns = some { cls := .type "dict", data := .dict #[⟨eh0, .str (Str.ofString "__module__") et0, .str (Str.ofString "cpy313.functools") u0⟩, ⟨eh1, .str (Str.ofString "__qualname__") et1, .str (Str.ofString "cmp_to_key.<locals>.K") u1⟩, ⟨eh2, .str (Str.ofString "__firstlineno__") et2, .int 47 u2⟩, ⟨eh3, .str (Str.ofString "__slots__") et3, .ref sl⟩, ⟨eh4, .str (Str.ofString "__init__") et4, .ref f0⟩, ⟨eh5, .str (Str.ofString "__lt__") et5, .ref f1⟩, ⟨eh6, .str (Str.ofString "__gt__") et6, .ref f2⟩, ⟨hx, .str (Str.ofString "__eq__") tx, .ref f⟩] (en + 1) } := ⟨_, _, nsN⟩
  walk_at "go"
  exact ret f a6 ct a1 a2 a3 a4 a5 hx tx _ _ _ _ hh9 _ _ (fun b o e n1 n2 => (sb.2 b n1).trans (k8 _ _ (kB b o e n2))) fz z6 hf ha6 hns hP
theorem def6 {w : World} {h0 : Heap} {g0 : Array GenState} {dr0 : Drawn} {k0 : Nat} {os0 : OsState} {ns c cd P fr tf : Addr} {x1 x2 x3 x4 x5 : Tok} {en : Nat} {sl4 : Array (Option Value)} {sl f0 f1 f2 f3 cc0 cc1 cc2 cc3 : Addr} {u0 u1 u2 et0 et1 et2 et3 et4 et5 et6 et7 : Tok} {eh0 eh1 eh2 eh3 eh4 eh5 eh6 eh7 : Int} {Q : Flow → Shared → Prop} {E : Value → Shared → Prop}
   (o3 : (hd.heap_39 w.params).In h0) (hs4 : h0.get? 4 = some ⟨.type "module", some builtinsNs, .plain, sl4⟩)
   (hcd : h0.get? cd = some ⟨.type "code", none, .fields #[.str (Str.ofString "K") x1, .str (Str.ofString "cmp_to_key.<locals>.K") x2, .str (Str.ofString "/claim/cut.py") x3, .int 47 0, .int 0 0, .int 0 0, .int 0 0, .int 0 0, .ref tf, .bool true, .int 181 0, .ref P, .none, .none, .none, .none, .int x4 0, .int 47 0, .str (Str.ofString "/claim/cut.py") x5], #[]⟩)
   (hP : h0.get? P = some ⟨.none, none, .fields #[.int 51 0, .int 8 0, .ref cc0, .int 54 0, .int 8 0, .ref cc1, .int 57 0, .int 8 0, .ref cc2, .int 60 0, .int 8 0, .ref cc3], #[]⟩) (n3P : 3 ≠ P) (n4P : 4 ≠ P) (nsP : ns ≠ P) (n3ns : 3 ≠ ns) (n4ns : 4 ≠ ns) (hns : h0.get? ns = some { cls := .type "dict", data := .dict #[⟨eh0, .str (Str.ofString "__module__") et0, .str (Str.ofString "cpy313.functools") u0⟩, ⟨eh1, .str (Str.ofString "__qualname__") et1, .str (Str.ofString "cmp_to_key.<locals>.K") u1⟩, ⟨eh2, .str (Str.ofString "__firstlineno__") et2, .int 47 u2⟩, ⟨eh3, .str (Str.ofString "__slots__") et3, .ref sl⟩, ⟨eh4, .str (Str.ofString "__init__") et4, .ref f0⟩, ⟨eh5, .str (Str.ofString "__lt__") et5, .ref f1⟩, ⟨eh6, .str (Str.ofString "__gt__") et6, .ref f2⟩, ⟨eh7, .str (Str.ofString "__eq__") et7, .ref f3⟩] en })
   (ret : ∀ f cc ct y1 y2 y3 y4 y5 hx tx z0 z1 z2 z4 h' tk (z3 : Nat), (∀ b o, h0.get? b = some o → b ≠ ns → b ≠ P → h'.get? b = some o) → h0.get? f = none → h0.get? cc = none → h'.get? f = some { cls := .type "function", data := .func (fdK w 6 (Str.ofString "cmp_to_key.<locals>.K.__le__") [(Str.ofString "mycmp", c)] cc (.ref ct)) } → h'.get? cc = some { cls := .type "code", data := .fields #[.str (Str.ofString "__le__") z0, .str (Str.ofString "cmp_to_key.<locals>.K.__le__") z1, .str (Str.ofString "/claim/cut.py") z2, .int 63 0, .int 2 0, .int 0 0, .int 0 0, .int 19 0, .ref y1, .bool true, .int 181 0, .ref y2, .none, .ref y3, .ref y4, .ref y5, .int z3 0, .int 63 0, .str (Str.ofString "/claim/cut.py") z4] } →
      h'.get? ns = some { cls := .type "dict", data := .dict #[⟨eh0, .str (Str.ofString "__module__") et0, .str (Str.ofString "cpy313.functools") u0⟩, ⟨eh1, .str (Str.ofString "__qualname__") et1, .str (Str.ofString "cmp_to_key.<locals>.K") u1⟩, ⟨eh2, .str (Str.ofString "__firstlineno__") et2, .int 47 u2⟩, ⟨eh3, .str (Str.ofString "__slots__") et3, .ref sl⟩, ⟨eh4, .str (Str.ofString "__init__") et4, .ref f0⟩, ⟨eh5, .str (Str.ofString "__lt__") et5, .ref f1⟩, ⟨eh6, .str (Str.ofString "__gt__") et6, .ref f2⟩, ⟨eh7, .str (Str.ofString "__eq__") et7, .ref f3⟩, ⟨hx, .str (Str.ofString "__le__") tx, .ref f⟩] (en + 1) } → h'.get? P = some ⟨.none, none, .fields #[.int 51 0, .int 8 0, .ref cc0, .int 54 0, .int 8 0, .ref cc1, .int 57 0, .int 8 0, .ref cc2, .int 60 0, .int 8 0, .ref cc3, .int 63 0, .int 8 0, .ref cc], #[]⟩ → Q .next ⟨h', g0, dr0, tk, os0⟩)
   : wpAny (model Challenge.rw_mq0096_01.row.prog w) A3 (exec (dK w 6) (envK w ns c cd fr)) Q E ⟨h0, g0, dr0, k0, os0⟩ := by
  have q3 := o3 3 _ rfl
  have q4 := hs4
  have hns_old := hns
  have kk : Keep h0 h0 := Keep.rfl'
  walk_at "go"
  intro ct h1 k1 hct hct0
  replace hct : h1.get? ct = some { cls := .type "tuple", data := .seq #[.ref c] } := hct.trans (by rw [List.mergeSort_singleton]; rfl)
  replace kk := k1
  replace q3 := k1 _ _ q3
  replace q4 := k1 _ _ q4
  replace hcd := k1 _ _ hcd
  replace hP := k1 _ _ hP
  replace hns := k1 _ _ hns
  walk_at "go"
  refine r_list (l' := [Str.ofString "mycmp"]) ?_ ?_
  · exact (congrArg (fun l => List.mergeSort l _) (show _ = [Str.ofString "mycmp"] from by kernel_rfl)).trans (List.mergeSort_singleton _)
  walk_at "go"
  intro a1 hh1 k1 ha1 hn1
  have z1 := none_keep kk hn1
  replace kk := kk.trans k1
  replace q3 := k1 _ _ q3
  replace q4 := k1 _ _ q4
  replace hcd := k1 _ _ hcd
  replace hP := k1 _ _ hP
  replace hns := k1 _ _ hns
  walk_at "go"
  intro a2 hh2 k2 ha2 hn2
  have z2 := none_keep kk hn2
  replace kk := kk.trans k2
  replace q3 := k2 _ _ q3
  replace q4 := k2 _ _ q4
  replace hcd := k2 _ _ hcd
  replace hP := k2 _ _ hP
  replace hns := k2 _ _ hns
  walk_at "go"
  intro a3 hh3 k3 ha3 hn3
  have z3 := none_keep kk hn3
  replace kk := kk.trans k3
  replace q3 := k3 _ _ q3
  replace q4 := k3 _ _ q4
  replace hcd := k3 _ _ hcd
  replace hP := k3 _ _ hP
  replace hns := k3 _ _ hns
  walk_at "go"
  intro a4 hh4 k4 ha4 hn4
  have z4 := none_keep kk hn4
  replace kk := kk.trans k4
  replace q3 := k4 _ _ q3
  replace q4 := k4 _ _ q4
  replace hcd := k4 _ _ hcd
  replace hP := k4 _ _ hP
  replace hns := k4 _ _ hns
  walk_at "go"
  intro a5 hh5 k5 ha5 hn5
  have z5 := none_keep kk hn5
  replace kk := kk.trans k5
  replace q3 := k5 _ _ q3
  replace q4 := k5 _ _ q4
  replace hcd := k5 _ _ hcd
  replace hP := k5 _ _ hP
  replace hns := k5 _ _ hns
  walk_at "go"
  have hPn := hP
  intro a6 hh6 k6 ha6 hn6
  have z6 := none_keep kk hn6
  replace kk := kk.trans k6
  replace q3 := k6 _ _ q3
  replace q4 := k6 _ _ q4
  replace hcd := k6 _ _ hcd
  replace hP := k6 _ _ hP
  replace hns := k6 _ _ hns
  walk_at "go"
  have nP6 : a6 ≠ P := (ne_none hPn hn6).symm
  replace ha6 : hh6.get? a6 = some { cls := .type "code", data := .fields #[.str (Str.ofString "__le__") k0, .str (Str.ofString "cmp_to_key.<locals>.K.__le__") (k0 + 1), .str (Str.ofString "/claim/cut.py") (k0 + 1 + 1), .int 63 0, .int 2 0, .int 0 0, .int 0 0, .int 19 0, .ref a1, .bool true, .int 181 0, .ref a2, .none, .ref a3, .ref a4, .ref a5, .int (k0 + 1 + 1 + 1 + 1 + 1 + 1) 0, .int 63 0, .str (Str.ofString "/claim/cut.py") (k0 + 1 + 1 + 1 + 1 + 1 + 1 + 1)] } := ha6.trans (congrArg some (by kernel_rfl))
  intro hh7 sb t7
  have kB : ∀ b o, h0.get? b = some o → b ≠ P → hh7.get? b = some o := fun b o e n => (sb.2 b n).trans (kk b o e)
  replace q3 := but_ne sb n3P q3
  replace q4 := but_ne sb n4P q4
  replace hns := but_ne sb nsP hns
  replace ha6 := but_ne sb nP6 ha6
  replace hP : hh7.get? P = some ⟨.none, none, .fields #[.int 51 0, .int 8 0, .ref cc0, .int 54 0, .int 8 0, .ref cc1, .int 57 0, .int 8 0, .ref cc2, .int 60 0, .int 8 0, .ref cc3, .int 63 0, .int 8 0, .ref a6], #[]⟩ := t7.trans (congrArg some (by kernel_rfl))
  clear t7 ha1 ha2 ha3 ha4 ha5 hcd sb
  walk_at "go"
  intro f hh8 k8 hf hf0
  have n6ns : a6 ≠ ns := (ne_none hns_old z6).symm
  have fz : h0.get? f = none := by
    cases q : h0.get? f with
    | none => rfl
    | some o =>
      by_cases hfP : f = P
      · rw [hfP, hP] at hf0; cases hf0
      · rw [kB _ _ q hfP] at hf0; cases hf0
  have nfns : f ≠ ns := (ne_none hns hf0).symm
  replace hf : hh8.get? f = some { cls := .type "function", data := .func (fdK w 6 (Str.ofString "cmp_to_key.<locals>.K.__le__") [(Str.ofString "mycmp", c)] a6 (.ref ct)) } := hf.trans (congrArg some (by kernel_rfl))
  replace q3 := k8 _ _ q3
  replace q4 := k8 _ _ q4
  replace hns := k8 _ _ hns
  replace ha6 := k8 _ _ ha6
  replace hP := k8 _ _ hP
  walk_at "go"
  refine m_update hns rfl ?_
  intro hh9 sb nsN
  replace ha6 := but_ne sb n6ns ha6
  replace hf := but_ne sb nfns hf
  replace hP := but_ne sb nsP.symm hP
  obtain ⟨hx, tx, hns⟩ : ∃ hx tx, hh9.get? ns = some { cls := .type "dict", data := .dict #[⟨eh0, .str (Str.ofString "__module__") et0, .str (Str.ofString "cpy313.functools") u0⟩, ⟨eh1, .str (Str.ofString "__qualname__") et1, .str (Str.ofString "cmp_to_key.<locals>.K") u1⟩, ⟨eh2, .str (Str.ofString "__firstlineno__") et2, .int 47 u2⟩, ⟨eh3, .str (Str.ofString "__slots__") et3, .ref sl⟩, ⟨eh4, .str (Str.ofString "__init__") et4, .ref f0⟩, ⟨eh5, .str (Str.ofString "__lt__") et5, .ref f1⟩, ⟨eh6, .str (Str.ofString "__gt__") et6, .ref f2⟩, ⟨eh7, .str (Str.ofString "__eq__") et7, .ref f3⟩, ⟨hx, .str (Str.ofString "__le__") tx, .ref f⟩] (en + 1) } := ⟨_, _, nsN⟩
  walk_at "go"
  exact ret f a6 ct a1 a2 a3 a4 a5 hx tx _ _ _ _ hh9 _ _ (fun b o e n1 n2 => (sb.2 b n1).trans (k8 _ _ (kB b o e n2))) fz z6 hf ha6 hns hP
theorem def7 {w : World} {h0 : Heap} {g0 : Array GenState} {dr0 : Drawn} {k0 : Nat} {os0 : OsState} {ns c cd P fr tf : Addr} {x1 x2 x3 x4 x5 : Tok} {en : Nat} {sl4 : Array (Option Value)} {sl f0 f1 f2 f3 f4 cc0 cc1 cc2 cc3 cc4 : Addr} {u0 u1 u2 et0 et1 et2 et3 et4 et5 et6 et7 et8 : Tok} {eh0 eh1 eh2 eh3 eh4 eh5 eh6 eh7 eh8 : Int} {Q : Flow → Shared → Prop} {E : Value → Shared → Prop}
   (o3 : (hd.heap_39 w.params).In h0) (hs4 : h0.get? 4 = some ⟨.type "module", some builtinsNs, .plain, sl4⟩)
   (hcd : h0.get? cd = some ⟨.type "code", none, .fields #[.str (Str.ofString "K") x1, .str (Str.ofString "cmp_to_key.<locals>.K") x2, .str (Str.ofString "/claim/cut.py") x3, .int 47 0, .int 0 0, .int 0 0, .int 0 0, .int 0 0, .ref tf, .bool true, .int 181 0, .ref P, .none, .none, .none, .none, .int x4 0, .int 47 0, .str (Str.ofString "/claim/cut.py") x5], #[]⟩)
   (hP : h0.get? P = some ⟨.none, none, .fields #[.int 51 0, .int 8 0, .ref cc0, .int 54 0, .int 8 0, .ref cc1, .int 57 0, .int 8 0, .ref cc2, .int 60 0, .int 8 0, .ref cc3, .int 63 0, .int 8 0, .ref cc4], #[]⟩) (n3P : 3 ≠ P) (n4P : 4 ≠ P) (nsP : ns ≠ P) (n3ns : 3 ≠ ns) (n4ns : 4 ≠ ns) (hns : h0.get? ns = some { cls := .type "dict", data := .dict #[⟨eh0, .str (Str.ofString "__module__") et0, .str (Str.ofString "cpy313.functools") u0⟩, ⟨eh1, .str (Str.ofString "__qualname__") et1, .str (Str.ofString "cmp_to_key.<locals>.K") u1⟩, ⟨eh2, .str (Str.ofString "__firstlineno__") et2, .int 47 u2⟩, ⟨eh3, .str (Str.ofString "__slots__") et3, .ref sl⟩, ⟨eh4, .str (Str.ofString "__init__") et4, .ref f0⟩, ⟨eh5, .str (Str.ofString "__lt__") et5, .ref f1⟩, ⟨eh6, .str (Str.ofString "__gt__") et6, .ref f2⟩, ⟨eh7, .str (Str.ofString "__eq__") et7, .ref f3⟩, ⟨eh8, .str (Str.ofString "__le__") et8, .ref f4⟩] en })
   (ret : ∀ f cc ct y1 y2 y3 y4 y5 hx tx z0 z1 z2 z4 h' tk (z3 : Nat), (∀ b o, h0.get? b = some o → b ≠ ns → b ≠ P → h'.get? b = some o) → h0.get? f = none → h0.get? cc = none → h'.get? f = some { cls := .type "function", data := .func (fdK w 7 (Str.ofString "cmp_to_key.<locals>.K.__ge__") [(Str.ofString "mycmp", c)] cc (.ref ct)) } → h'.get? cc = some { cls := .type "code", data := .fields #[.str (Str.ofString "__ge__") z0, .str (Str.ofString "cmp_to_key.<locals>.K.__ge__") z1, .str (Str.ofString "/claim/cut.py") z2, .int 66 0, .int 2 0, .int 0 0, .int 0 0, .int 19 0, .ref y1, .bool true, .int 181 0, .ref y2, .none, .ref y3, .ref y4, .ref y5, .int z3 0, .int 66 0, .str (Str.ofString "/claim/cut.py") z4] } →
      h'.get? ns = some { cls := .type "dict", data := .dict #[⟨eh0, .str (Str.ofString "__module__") et0, .str (Str.ofString "cpy313.functools") u0⟩, ⟨eh1, .str (Str.ofString "__qualname__") et1, .str (Str.ofString "cmp_to_key.<locals>.K") u1⟩, ⟨eh2, .str (Str.ofString "__firstlineno__") et2, .int 47 u2⟩, ⟨eh3, .str (Str.ofString "__slots__") et3, .ref sl⟩, ⟨eh4, .str (Str.ofString "__init__") et4, .ref f0⟩, ⟨eh5, .str (Str.ofString "__lt__") et5, .ref f1⟩, ⟨eh6, .str (Str.ofString "__gt__") et6, .ref f2⟩, ⟨eh7, .str (Str.ofString "__eq__") et7, .ref f3⟩, ⟨eh8, .str (Str.ofString "__le__") et8, .ref f4⟩, ⟨hx, .str (Str.ofString "__ge__") tx, .ref f⟩] (en + 1) } → h'.get? P = some ⟨.none, none, .fields #[.int 51 0, .int 8 0, .ref cc0, .int 54 0, .int 8 0, .ref cc1, .int 57 0, .int 8 0, .ref cc2, .int 60 0, .int 8 0, .ref cc3, .int 63 0, .int 8 0, .ref cc4, .int 66 0, .int 8 0, .ref cc], #[]⟩ → Q .next ⟨h', g0, dr0, tk, os0⟩)
   : wpAny (model Challenge.rw_mq0096_01.row.prog w) A3 (exec (dK w 7) (envK w ns c cd fr)) Q E ⟨h0, g0, dr0, k0, os0⟩ := by
  have q3 := o3 3 _ rfl
  have q4 := hs4
  have hns_old := hns
  have kk : Keep h0 h0 := Keep.rfl'
  walk_at "go"
  intro ct h1 k1 hct hct0
  replace hct : h1.get? ct = some { cls := .type "tuple", data := .seq #[.ref c] } := hct.trans (by rw [List.mergeSort_singleton]; rfl)
  replace kk := k1
  replace q3 := k1 _ _ q3
  replace q4 := k1 _ _ q4
  replace hcd := k1 _ _ hcd
  replace hP := k1 _ _ hP
  replace hns := k1 _ _ hns
  walk_at "go"
  refine r_list (l' := [Str.ofString "mycmp"]) ?_ ?_
  · exact (congrArg (fun l => List.mergeSort l _) (show _ = [Str.ofString "mycmp"] from by kernel_rfl)).trans (List.mergeSort_singleton _)
  walk_at "go"
  intro a1 hh1 k1 ha1 hn1
  have z1 := none_keep kk hn1
  replace kk := kk.trans k1
  replace q3 := k1 _ _ q3
  replace q4 := k1 _ _ q4
  replace hcd := k1 _ _ hcd
  replace hP := k1 _ _ hP
  replace hns := k1 _ _ hns
  walk_at "go"
  intro a2 hh2 k2 ha2 hn2
  have z2 := none_keep kk hn2
  replace kk := kk.trans k2
  replace q3 := k2 _ _ q3
  replace q4 := k2 _ _ q4
  replace hcd := k2 _ _ hcd
  replace hP := k2 _ _ hP
  replace hns := k2 _ _ hns
  walk_at "go"
  intro a3 hh3 k3 ha3 hn3
  have z3 := none_keep kk hn3
  replace kk := kk.trans k3
  replace q3 := k3 _ _ q3
  replace q4 := k3 _ _ q4
  replace hcd := k3 _ _ hcd
  replace hP := k3 _ _ hP
  replace hns := k3 _ _ hns
  walk_at "go"
  intro a4 hh4 k4 ha4 hn4
  have z4 := none_keep kk hn4
  replace kk := kk.trans k4
  replace q3 := k4 _ _ q3
  replace q4 := k4 _ _ q4
  replace hcd := k4 _ _ hcd
  replace hP := k4 _ _ hP
  replace hns := k4 _ _ hns
  walk_at "go"
  intro a5 hh5 k5 ha5 hn5
  have z5 := none_keep kk hn5
  replace kk := kk.trans k5
  replace q3 := k5 _ _ q3
  replace q4 := k5 _ _ q4
  replace hcd := k5 _ _ hcd
  replace hP := k5 _ _ hP
  replace hns := k5 _ _ hns
  walk_at "go"
  have hPn := hP
  intro a6 hh6 k6 ha6 hn6
  have z6 := none_keep kk hn6
  replace kk := kk.trans k6
  replace q3 := k6 _ _ q3
  replace q4 := k6 _ _ q4
  replace hcd := k6 _ _ hcd
  replace hP := k6 _ _ hP
  replace hns := k6 _ _ hns
  walk_at "go"
  have nP6 : a6 ≠ P := (ne_none hPn hn6).symm
  replace ha6 : hh6.get? a6 = some { cls := .type "code", data := .fields #[.str (Str.ofString "__ge__") k0, .str (Str.ofString "cmp_to_key.<locals>.K.__ge__") (k0 + 1), .str (Str.ofString "/claim/cut.py") (k0 + 1 + 1), .int 66 0, .int 2 0, .int 0 0, .int 0 0, .int 19 0, .ref a1, .bool true, .int 181 0, .ref a2, .none, .ref a3, .ref a4, .ref a5, .int (k0 + 1 + 1 + 1 + 1 + 1 + 1) 0, .int 66 0, .str (Str.ofString "/claim/cut.py") (k0 + 1 + 1 + 1 + 1 + 1 + 1 + 1)] } := ha6.trans (congrArg some (by kernel_rfl))
  intro hh7 sb t7
  have kB : ∀ b o, h0.get? b = some o → b ≠ P → hh7.get? b = some o := fun b o e n => (sb.2 b n).trans (kk b o e)
  replace q3 := but_ne sb n3P q3
  replace q4 := but_ne sb n4P q4
  replace hns := but_ne sb nsP hns
  replace ha6 := but_ne sb nP6 ha6
  replace hP : hh7.get? P = some ⟨.none, none, .fields #[.int 51 0, .int 8 0, .ref cc0, .int 54 0, .int 8 0, .ref cc1, .int 57 0, .int 8 0, .ref cc2, .int 60 0, .int 8 0, .ref cc3, .int 63 0, .int 8 0, .ref cc4, .int 66 0, .int 8 0, .ref a6], #[]⟩ := t7.trans (congrArg some (by kernel_rfl))
  clear t7 ha1 ha2 ha3 ha4 ha5 hcd sb
  walk_at "go"
  intro f hh8 k8 hf hf0
  have n6ns : a6 ≠ ns := (ne_none hns_old z6).symm
  have fz : h0.get? f = none := by
    cases q : h0.get? f with
    | none => rfl
    | some o =>
      by_cases hfP : f = P
      · rw [hfP, hP] at hf0; cases hf0
      · rw [kB _ _ q hfP] at hf0; cases hf0
  have nfns : f ≠ ns := (ne_none hns hf0).symm
  replace hf : hh8.get? f = some { cls := .type "function", data := .func (fdK w 7 (Str.ofString "cmp_to_key.<locals>.K.__ge__") [(Str.ofString "mycmp", c)] a6 (.ref ct)) } := hf.trans (congrArg some (by kernel_rfl))
  replace q3 := k8 _ _ q3
  replace q4 := k8 _ _ q4
  replace hns := k8 _ _ hns
  replace ha6 := k8 _ _ ha6
  replace hP := k8 _ _ hP
  walk_at "go"
  refine m_update hns rfl ?_
  intro hh9 sb nsN
  replace ha6 := but_ne sb n6ns ha6
  replace hf := but_ne sb nfns hf
  replace hP := but_ne sb nsP.symm hP
  obtain ⟨hx, tx, hns⟩ : ∃ hx tx, hh9.get? ns = some { cls := .type "dict", data := .dict #[⟨eh0, .str (Str.ofString "__module__") et0, .str (Str.ofString "cpy313.functools") u0⟩, ⟨eh1, .str (Str.ofString "__qualname__") et1, .str (Str.ofString "cmp_to_key.<locals>.K") u1⟩, ⟨eh2, .str (Str.ofString "__firstlineno__") et2, .int 47 u2⟩, ⟨eh3, .str (Str.ofString "__slots__") et3, .ref sl⟩, ⟨eh4, .str (Str.ofString "__init__") et4, .ref f0⟩, ⟨eh5, .str (Str.ofString "__lt__") et5, .ref f1⟩, ⟨eh6, .str (Str.ofString "__gt__") et6, .ref f2⟩, ⟨eh7, .str (Str.ofString "__eq__") et7, .ref f3⟩, ⟨eh8, .str (Str.ofString "__le__") et8, .ref f4⟩, ⟨hx, .str (Str.ofString "__ge__") tx, .ref f⟩] (en + 1) } := ⟨_, _, nsN⟩
  walk_at "go"
  exact ret f a6 ct a1 a2 a3 a4 a5 hx tx _ _ _ _ hh9 _ _ (fun b o e n1 n2 => (sb.2 b n1).trans (k8 _ _ (kB b o e n2))) fz z6 hf ha6 hns hP
end Mine
end
section
open PySem PySem.W PySem.W.X PyProof.Rows PySem.Calls PySem.Spec
set_option Elab.async false
set_option maxRecDepth 100000
set_option maxHeartbeats 1000000
set_option rowWalk.seconds 0
namespace Mine
theorem start_M8 : True := by w_top off; trivial
theorem m_stopX {M : Model} {A : Around} {w : World} {i : Nat} {env : Env} {Q : Flow → Shared → Prop} {E : Value → Shared → Prop} {s : Shared} (h : True → wpAny M A (exec (dK w i) env) Q E s) : wpAny M A (exec (dK w i) env) Q E s := h trivial
local macro_rules | `(tactic| dsimp only) => `(tactic| skip)
local macro_rules | `(tactic| walk_at "go") => `(tactic| repeat (first
  | with_reducible refine m_stopX ?_
  | with_reducible refine m_alloc rfl ?_
  | with_reducible refine m_update (by assumption) rfl ?_
  | with_reducible refine m_fresh ?_
  | with_reducible refine m_try ?_
  | with_reducible refine r_isType ?_
  | with_reducible refine r_enter (by assumption) (by kernel_rfl) ?_
  | with_reducible refine r_room (by kernel_rfl) ?_
  | with_reducible refine x_at ?_
  | with_reducible refine wpAny_standAt ?_
  | lk))
theorem in_bb {K : Frag} {h h' : Heap} {ns P : Addr} (X : K.In h) (hK : ∀ a o, K.lookup a = some o → a ≠ ns ∧ a ≠ P) (k : ∀ b o, h.get? b = some o → b ≠ ns → b ≠ P → h'.get? b = some o) : K.In h' := fun a o e => k a o (X a o e) (hK a o e).1 (hK a o e).2
theorem nbb {h0 h : Heap} {ns P a : Addr} {o1 o2 : Obj} (k : ∀ b o, h0.get? b = some o → b ≠ ns → b ≠ P → h.get? b = some o) (n : h.get? a = none) (hns : h.get? ns = some o1) (hP : h.get? P = some o2) : h0.get? a = none := by
  cases q : h0.get? a with
  | none => rfl
  | some o => rw [k _ _ q (fun e => by rw [e, hns] at n; cases n) (fun e => by rw [e, hP] at n; cases n)] at n; cases n
theorem kbody {w : World} {h0 : Heap} {g0 : Array GenState} {dr0 : Drawn} {k0 : Nat} {os0 : OsState} {ns c cd P fr tf : Addr} {x1 x2 x3 x4 x5 : Tok} {en : Nat} {sl4 : Array (Option Value)} {v0 u1 u2 et0 et1 et2 : Tok} {eh0 eh1 eh2 : Int} {Q : Flow → Shared → Prop} {E : Value → Shared → Prop}
   (o3 : (hd.heap_39 w.params).In h0) (hK : ∀ a o, (hd.heap_39 w.params).lookup a = some o → a ≠ ns ∧ a ≠ P) (hs4 : h0.get? 4 = some ⟨.type "module", some builtinsNs, .plain, sl4⟩)
   (hcd : h0.get? cd = some ⟨.type "code", none, .fields #[.str (Str.ofString "K") x1, .str (Str.ofString "cmp_to_key.<locals>.K") x2, .str (Str.ofString "/claim/cut.py") x3, .int 47 0, .int 0 0, .int 0 0, .int 0 0, .int 0 0, .ref tf, .bool true, .int 181 0, .ref P, .none, .none, .none, .none, .int x4 0, .int 47 0, .str (Str.ofString "/claim/cut.py") x5], #[]⟩)
   (hP : h0.get? P = some ⟨.none, none, .fields #[], #[]⟩) (n3P : 3 ≠ P) (n4P : 4 ≠ P) (nsP : ns ≠ P) (n3ns : 3 ≠ ns) (n4ns : 4 ≠ ns) (ncdP : cd ≠ P) (ncdns : cd ≠ ns) (hns : h0.get? ns = some { cls := .type "dict", data := .dict #[⟨eh0, .str (Str.ofString "__module__") et0, .str (Str.ofString "law_mq0096_01") v0⟩, ⟨eh1, .str (Str.ofString "__qualname__") et1, .str (Str.ofString "cmp_to_key.<locals>.K") u1⟩, ⟨eh2, .str (Str.ofString "__firstlineno__") et2, .int 47 u2⟩] en })
   (ret : ∀ sl k2 tu f0 cc0 f1 cc1 ct1 f2 f3 f4 f5 y01 y02 y03 y04 y05 z00 z01 z02 z04 y11 y12 y13 y14 y15 z10 z11 z12 z14 u0 eh3 et3 eh4 et4 eh5 et5 eh6 et6 eh7 et7 eh8 et8 eh9 et9 eh10 et10 d2 d3 d4 d5 en2 vs2 h' tk (z03 z13 : Nat), (∀ b o, h0.get? b = some o → b ≠ ns → b ≠ P → h'.get? b = some o) → h0.get? f0 = none → h0.get? f1 = none → h0.get? f2 = none → h0.get? f3 = none → h0.get? f4 = none → h0.get? f5 = none → h'.get? f0 = some { cls := .type "function", data := .func (fdK w 2 (Str.ofString "cmp_to_key.<locals>.K.__init__") [] cc0 .none) } → h'.get? cc0 = some { cls := .type "code", data := .fields #[.str (Str.ofString "__init__") z00, .str (Str.ofString "cmp_to_key.<locals>.K.__init__") z01, .str (Str.ofString "/claim/cut.py") z02, .int 51 0, .int 2 0, .int 0 0, .int 0 0, .int 19 0, .ref y01, .bool true, .int 181 0, .ref y02, .none, .ref y03, .ref y04, .ref y05, .int z03 0, .int 51 0, .str (Str.ofString "/claim/cut.py") z04] } → h'.get? f1 = some { cls := .type "function", data := .func (fdK w 3 (Str.ofString "cmp_to_key.<locals>.K.__lt__") [(Str.ofString "mycmp", c)] cc1 (.ref ct1)) } → h'.get? cc1 = some { cls := .type "code", data := .fields #[.str (Str.ofString "__lt__") z10, .str (Str.ofString "cmp_to_key.<locals>.K.__lt__") z11, .str (Str.ofString "/claim/cut.py") z12, .int 54 0, .int 2 0, .int 0 0, .int 0 0, .int 19 0, .ref y11, .bool true, .int 181 0, .ref y12, .none, .ref y13, .ref y14, .ref y15, .int z13 0, .int 54 0, .str (Str.ofString "/claim/cut.py") z14] } → h'.get? f2 = some { cls := .type "function", data := d2 } → h'.get? f3 = some { cls := .type "function", data := d3 } → h'.get? f4 = some { cls := .type "function", data := d4 } → h'.get? f5 = some { cls := .type "function", data := d5 } → h0.get? sl = none → h'.get? sl = some { cls := .type "list", data := .seq #[.str (Str.ofString "obj") tu] k2 } → h'.get? ns = some { cls := .type "dict", data := .dict #[⟨eh0, .str (Str.ofString "__module__") et0, .str (Str.ofString "cpy313.functools") u0⟩, ⟨eh1, .str (Str.ofString "__qualname__") et1, .str (Str.ofString "cmp_to_key.<locals>.K") u1⟩, ⟨eh2, .str (Str.ofString "__firstlineno__") et2, .int 47 u2⟩, ⟨eh3, .str (Str.ofString "__slots__") et3, .ref sl⟩, ⟨eh4, .str (Str.ofString "__init__") et4, .ref f0⟩, ⟨eh5, .str (Str.ofString "__lt__") et5, .ref f1⟩, ⟨eh6, .str (Str.ofString "__gt__") et6, .ref f2⟩, ⟨eh7, .str (Str.ofString "__eq__") et7, .ref f3⟩, ⟨eh8, .str (Str.ofString "__le__") et8, .ref f4⟩, ⟨eh9, .str (Str.ofString "__ge__") et9, .ref f5⟩, ⟨eh10, .str (Str.ofString "__hash__") et10, .none⟩] en2 } → h'.get? P = some ⟨.none, none, .fields vs2, #[]⟩ → Q .next ⟨h', g0, dr0, tk, os0⟩)
   : wpAny (model Challenge.rw_mq0096_01.row.prog w) A3 (execs (bodyK w) (envK w ns c cd fr)) Q E ⟨h0, g0, dr0, k0, os0⟩ := by
  rw [show bodyK w = [dK w 0, dK w 1, dK w 2, dK w 3, dK w 4, dK w 5, dK w 6, dK w 7, dK w 8] from by kernel_rfl]
  walk_at "go"
  intro _
  k_node
  walk_at "go"
  refine m_update hns (by rfl) ?_
  intro h1 sb nsN
  have kbb : ∀ b o, h0.get? b = some o → b ≠ ns → b ≠ P → h1.get? b = some o := fun b o e n _ => (sb.2 b n).trans e
  replace hP := but_ne sb nsP.symm hP
  replace hns : h1.get? ns = some { cls := .type "dict", data := .dict #[⟨eh0, .str (Str.ofString "__module__") et0, .str (Str.ofString "cpy313.functools") k0⟩, ⟨eh1, .str (Str.ofString "__qualname__") et1, .str (Str.ofString "cmp_to_key.<locals>.K") u1⟩, ⟨eh2, .str (Str.ofString "__firstlineno__") et2, .int 47 u2⟩] en } := nsN
  clear nsN sb
  walk_at "go"
  intro _
  k_node
  walk_at "go"
  intro sl h2 k2 hsl hsl0
  have slz : h0.get? sl = none := nbb kbb hsl0 hns hP
  have nslns : sl ≠ ns := (ne_none hns hsl0).symm
  have nslP : sl ≠ P := (ne_none hP hsl0).symm
  replace hns := k2 _ _ hns
  replace hP := k2 _ _ hP
  replace kbb : ∀ b o, h0.get? b = some o → b ≠ ns → b ≠ P → h2.get? b = some o := fun b o e n m => k2 _ _ (kbb b o e n m)
  replace hsl : ∃ tu, h2.get? sl = some { cls := .type "list", data := .seq #[.str (Str.ofString "obj") tu] 0 } := ⟨_, hsl⟩
  obtain ⟨tu, hsl⟩ := hsl
  clear k2
  walk_at "go"
  refine m_update hns (by rfl) ?_
  intro h3 sb nsN
  replace kbb : ∀ b o, h0.get? b = some o → b ≠ ns → b ≠ P → h3.get? b = some o := fun b o e n m => (sb.2 b n).trans (kbb b o e n m)
  replace hP := but_ne sb nsP.symm hP
  replace hsl := but_ne sb nslns hsl
  obtain ⟨eh3, et3, hns⟩ : ∃ eh3 et3, h3.get? ns = some { cls := .type "dict", data := .dict #[⟨eh0, .str (Str.ofString "__module__") et0, .str (Str.ofString "cpy313.functools") k0⟩, ⟨eh1, .str (Str.ofString "__qualname__") et1, .str (Str.ofString "cmp_to_key.<locals>.K") u1⟩, ⟨eh2, .str (Str.ofString "__firstlineno__") et2, .int 47 u2⟩, ⟨eh3, .str (Str.ofString "__slots__") et3, .ref sl⟩] (en + 1) } := ⟨_, _, nsN⟩
  clear nsN sb
  walk_at "go"
  intro _
  refine def2 (in_bb o3 hK kbb) (kbb _ _ hs4 n4ns n4P) (kbb _ _ hcd ncdns ncdP) hP n3P n4P nsP n3ns n4ns hns ?_
  intro f0 cc0 y01 y02 y03 y04 y05 eh4 et4 z00 z01 z02 z04 hq tq z03 kb fz ccz hf0 hcc0 hnsq hPq
  have f0z : h0.get? f0 = none := nbb kbb fz hns hP
  have nf0ns : f0 ≠ ns := (ne_none hns fz).symm
  have nf0P : f0 ≠ P := (ne_none hP fz).symm
  have cc0z : h0.get? cc0 = none := nbb kbb ccz hns hP
  have ncc0ns : cc0 ≠ ns := (ne_none hns ccz).symm
  have ncc0P : cc0 ≠ P := (ne_none hP ccz).symm
  replace hsl := kb _ _ hsl nslns nslP
  replace kbb : ∀ b o, h0.get? b = some o → b ≠ ns → b ≠ P → hq.get? b = some o := fun b o e n m => kb b o (kbb b o e n m) n m
  replace hns := hnsq
  replace hP := hPq
  clear hnsq hPq kb
  walk_at "go"
  intro _
  refine def3 (in_bb o3 hK kbb) (kbb _ _ hs4 n4ns n4P) (kbb _ _ hcd ncdns ncdP) hP n3P n4P nsP n3ns n4ns hns ?_
  intro f1 cc1 ct1 y11 y12 y13 y14 y15 eh5 et5 z10 z11 z12 z14 hq tq z13 kb fz ccz hf1 hcc1 hnsq hPq
  have f1z : h0.get? f1 = none := nbb kbb fz hns hP
  have nf1ns : f1 ≠ ns := (ne_none hns fz).symm
  have nf1P : f1 ≠ P := (ne_none hP fz).symm
  have cc1z : h0.get? cc1 = none := nbb kbb ccz hns hP
  have ncc1ns : cc1 ≠ ns := (ne_none hns ccz).symm
  have ncc1P : cc1 ≠ P := (ne_none hP ccz).symm
  replace hsl := kb _ _ hsl nslns nslP
  replace hf0 := kb _ _ hf0 nf0ns nf0P
  replace hcc0 := kb _ _ hcc0 ncc0ns ncc0P
  replace kbb : ∀ b o, h0.get? b = some o → b ≠ ns → b ≠ P → hq.get? b = some o := fun b o e n m => kb b o (kbb b o e n m) n m
  replace hns := hnsq
  replace hP := hPq
  clear hnsq hPq kb
  walk_at "go"
  intro _
  refine def4 (in_bb o3 hK kbb) (kbb _ _ hs4 n4ns n4P) (kbb _ _ hcd ncdns ncdP) hP n3P n4P nsP n3ns n4ns hns ?_
  intro f2 cc2 ct2 y21 y22 y23 y24 y25 eh6 et6 z20 z21 z22 z24 hq tq z23 kb fz ccz hf2 hcc2 hnsq hPq
  have f2z : h0.get? f2 = none := nbb kbb fz hns hP
  have nf2ns : f2 ≠ ns := (ne_none hns fz).symm
  have nf2P : f2 ≠ P := (ne_none hP fz).symm
  have cc2z : h0.get? cc2 = none := nbb kbb ccz hns hP
  have ncc2ns : cc2 ≠ ns := (ne_none hns ccz).symm
  have ncc2P : cc2 ≠ P := (ne_none hP ccz).symm
  replace hsl := kb _ _ hsl nslns nslP
  replace hf0 := kb _ _ hf0 nf0ns nf0P
  replace hcc0 := kb _ _ hcc0 ncc0ns ncc0P
  replace hf1 := kb _ _ hf1 nf1ns nf1P
  replace hcc1 := kb _ _ hcc1 ncc1ns ncc1P
  replace kbb : ∀ b o, h0.get? b = some o → b ≠ ns → b ≠ P → hq.get? b = some o := fun b o e n m => kb b o (kbb b o e n m) n m
  replace hns := hnsq
  replace hP := hPq
  clear hnsq hPq kb
  walk_at "go"
  intro _
  refine def5 (in_bb o3 hK kbb) (kbb _ _ hs4 n4ns n4P) (kbb _ _ hcd ncdns ncdP) hP n3P n4P nsP n3ns n4ns hns ?_
  intro f3 cc3 ct3 y31 y32 y33 y34 y35 eh7 et7 z30 z31 z32 z34 hq tq z33 kb fz ccz hf3 hcc3 hnsq hPq
  have f3z : h0.get? f3 = none := nbb kbb fz hns hP
  have nf3ns : f3 ≠ ns := (ne_none hns fz).symm
  have nf3P : f3 ≠ P := (ne_none hP fz).symm
  have cc3z : h0.get? cc3 = none := nbb kbb ccz hns hP
  have ncc3ns : cc3 ≠ ns := (ne_none hns ccz).symm
  have ncc3P : cc3 ≠ P := (ne_none hP ccz).symm
  replace hsl := kb _ _ hsl nslns nslP
  replace hf0 := kb _ _ hf0 nf0ns nf0P
  replace hcc0 := kb _ _ hcc0 ncc0ns ncc0P
  replace hf1 := kb _ _ hf1 nf1ns nf1P
  replace hcc1 := kb _ _ hcc1 ncc1ns ncc1P
  replace hf2 := kb _ _ hf2 nf2ns nf2P
  replace kbb : ∀ b o, h0.get? b = some o → b ≠ ns → b ≠ P → hq.get? b = some o := fun b o e n m => kb b o (kbb b o e n m) n m
  replace hns := hnsq
  replace hP := hPq
  clear hnsq hPq kb
  walk_at "go"
  intro _
  refine def6 (in_bb o3 hK kbb) (kbb _ _ hs4 n4ns n4P) (kbb _ _ hcd ncdns ncdP) hP n3P n4P nsP n3ns n4ns hns ?_
  intro f4 cc4 ct4 y41 y42 y43 y44 y45 eh8 et8 z40 z41 z42 z44 hq tq z43 kb fz ccz hf4 hcc4 hnsq hPq
  have f4z : h0.get? f4 = none := nbb kbb fz hns hP
  have nf4ns : f4 ≠ ns := (ne_none hns fz).symm
  have nf4P : f4 ≠ P := (ne_none hP fz).symm
  have cc4z : h0.get? cc4 = none := nbb kbb ccz hns hP
  have ncc4ns : cc4 ≠ ns := (ne_none hns ccz).symm
  have ncc4P : cc4 ≠ P := (ne_none hP ccz).symm
  replace hsl := kb _ _ hsl nslns nslP
  replace hf0 := kb _ _ hf0 nf0ns nf0P
  replace hcc0 := kb _ _ hcc0 ncc0ns ncc0P
  replace hf1 := kb _ _ hf1 nf1ns nf1P
  replace hcc1 := kb _ _ hcc1 ncc1ns ncc1P
  replace hf2 := kb _ _ hf2 nf2ns nf2P
  replace hf3 := kb _ _ hf3 nf3ns nf3P
  replace kbb : ∀ b o, h0.get? b = some o → b ≠ ns → b ≠ P → hq.get? b = some o := fun b o e n m => kb b o (kbb b o e n m) n m
  replace hns := hnsq
  replace hP := hPq
  clear hnsq hPq kb
  walk_at "go"
  intro _
  refine def7 (in_bb o3 hK kbb) (kbb _ _ hs4 n4ns n4P) (kbb _ _ hcd ncdns ncdP) hP n3P n4P nsP n3ns n4ns hns ?_
  intro f5 cc5 ct5 y51 y52 y53 y54 y55 eh9 et9 z50 z51 z52 z54 hq tq z53 kb fz ccz hf5 hcc5 hnsq hPq
  have f5z : h0.get? f5 = none := nbb kbb fz hns hP
  have nf5ns : f5 ≠ ns := (ne_none hns fz).symm
  have nf5P : f5 ≠ P := (ne_none hP fz).symm
  have cc5z : h0.get? cc5 = none := nbb kbb ccz hns hP
  have ncc5ns : cc5 ≠ ns := (ne_none hns ccz).symm
  have ncc5P : cc5 ≠ P := (ne_none hP ccz).symm
  replace hsl := kb _ _ hsl nslns nslP
  replace hf0 := kb _ _ hf0 nf0ns nf0P
  replace hcc0 := kb _ _ hcc0 ncc0ns ncc0P
  replace hf1 := kb _ _ hf1 nf1ns nf1P
  replace hcc1 := kb _ _ hcc1 ncc1ns ncc1P
  replace hf2 := kb _ _ hf2 nf2ns nf2P
  replace hf3 := kb _ _ hf3 nf3ns nf3P
  replace hf4 := kb _ _ hf4 nf4ns nf4P
  replace kbb : ∀ b o, h0.get? b = some o → b ≠ ns → b ≠ P → hq.get? b = some o := fun b o e n m => kb b o (kbb b o e n m) n m
  replace hns := hnsq
  replace hP := hPq
  clear hnsq hPq kb
  walk_at "go"
  intro _
  k_node
  walk_at "go"
  refine m_update hns (by rfl) ?_
  intro h10 sb nsN
  replace kbb : ∀ b o, h0.get? b = some o → b ≠ ns → b ≠ P → h10.get? b = some o := fun b o e n m => (sb.2 b n).trans (kbb b o e n m)
  replace hP := but_ne sb nsP.symm hP
  replace hsl := but_ne sb nslns hsl
  replace hf0 := but_ne sb nf0ns hf0
  replace hcc0 := but_ne sb ncc0ns hcc0
  replace hf1 := but_ne sb nf1ns hf1
  replace hcc1 := but_ne sb ncc1ns hcc1
  replace hf2 := but_ne sb nf2ns hf2
  replace hf3 := but_ne sb nf3ns hf3
  replace hf4 := but_ne sb nf4ns hf4
  replace hf5 := but_ne sb nf5ns hf5
  obtain ⟨eh10, et10, hns⟩ : ∃ eh10 et10, h10.get? ns = some { cls := .type "dict", data := .dict #[⟨eh0, .str (Str.ofString "__module__") et0, .str (Str.ofString "cpy313.functools") k0⟩, ⟨eh1, .str (Str.ofString "__qualname__") et1, .str (Str.ofString "cmp_to_key.<locals>.K") u1⟩, ⟨eh2, .str (Str.ofString "__firstlineno__") et2, .int 47 u2⟩, ⟨eh3, .str (Str.ofString "__slots__") et3, .ref sl⟩, ⟨eh4, .str (Str.ofString "__init__") et4, .ref f0⟩, ⟨eh5, .str (Str.ofString "__lt__") et5, .ref f1⟩, ⟨eh6, .str (Str.ofString "__gt__") et6, .ref f2⟩, ⟨eh7, .str (Str.ofString "__eq__") et7, .ref f3⟩, ⟨eh8, .str (Str.ofString "__le__") et8, .ref f4⟩, ⟨eh9, .str (Str.ofString "__ge__") et9, .ref f5⟩, ⟨eh10, .str (Str.ofString "__hash__") et10, .none⟩] (en + 1 + 1 + 1 + 1 + 1 + 1 + 1 + 1) } := ⟨_, _, nsN⟩
  clear nsN sb
  walk_at "go"
  exact ret _ _ _ _ _ _ _ _ _ _ _ _ _ _ _ _ _ _ _ _ _ _ _ _ _ _ _ _ _ _ _ _ _ _ _ _ _ _ _ _ _ _ _ _ _ _ _ _ _ _ _ _ _ _ _ _ _ kbb f0z f1z f2z f3z f4z f5z hf0 hcc0 hf1 hcc1 hf2 hf3 hf4 hf5 slz hsl hns hP
end Mine
end
section
open PySem PySem.W PySem.W.X PyProof.Rows PySem.Calls PySem.Spec
set_option Elab.async false
set_option maxRecDepth 100000
set_option maxHeartbeats 1000000
set_option rowWalk.seconds 0
namespace Mine
theorem start_M9 : True := by w_top off; trivial
/-- what the class's making leaves open -/
structure KV where
  b : Addr
  d : Addr
  md : Addr
  sl : Addr
  f0 : Addr
  f1 : Addr
  f2 : Addr
  f3 : Addr
  f4 : Addr
  f5 : Addr
  st : Addr
  c : Addr
  cc0 : Addr
  cc1 : Addr
  ct1 : Addr
  y01 : Addr
  y02 : Addr
  y03 : Addr
  y04 : Addr
  y05 : Addr
  y11 : Addr
  y12 : Addr
  y13 : Addr
  y14 : Addr
  y15 : Addr
  t : Tok
  t4 : Tok
  u0 : Tok
  u2 : Tok
  tm : Tok
  z00 : Tok
  z01 : Tok
  z02 : Tok
  z04 : Tok
  z10 : Tok
  z11 : Tok
  z12 : Tok
  z14 : Tok
  et0 : Tok
  et1 : Tok
  et2 : Tok
  et3 : Tok
  et4 : Tok
  et5 : Tok
  et6 : Tok
  et7 : Tok
  et8 : Tok
  et9 : Tok
  et10 : Tok
  et11 : Tok
  et12 : Tok
  z03 : Nat
  z13 : Nat
  eh0 : Int
  eh1 : Int
  eh2 : Int
  eh3 : Int
  eh4 : Int
  eh5 : Int
  eh6 : Int
  eh7 : Int
  eh8 : Int
  eh9 : Int
  eh10 : Int
  eh11 : Int
  eh12 : Int
def KAt (w : World) (h : Heap) (C q : Addr) : KV → Prop
  | ⟨b, d, md, sl, f0, f1, f2, f3, f4, f5, st, c, cc0, cc1, ct1, y01, y02, y03, y04, y05, y11, y12, y13, y14, y15, t, t4, u0, u2, tm, z00, z01, z02, z04, z10, z11, z12, z14, et0, et1, et2, et3, et4, et5, et6, et7, et8, et9, et10, et11, et12, z03, z13, eh0, eh1, eh2, eh3, eh4, eh5, eh6, eh7, eh8, eh9, eh10, eh11, eh12⟩ => h.get? C = some { cls := .type "type", data := .cls { name := Str.ofString "K", bases := [.type "object"], mro := [.ref C, .type "object"], ns := d, qualname := Str.ofString "cmp_to_key.<locals>.K", hasDict := false, slotNames := [Str.ofString "obj"], hasDel := false }, slots := #[some (.ref b), none, some (.str (Str.ofString "K") t), some (.str (Str.ofString "cmp_to_key.<locals>.K") t4), some (.builtin "object.__new__"), some (.bool false)] } ∧ h.get? d = some { cls := .type "dict", data := .dict #[⟨eh0, .str (Str.ofString "__module__") et0, .str (Str.ofString "cpy313.functools") u0⟩, ⟨eh1, .str (Str.ofString "__firstlineno__") et1, .int 47 u2⟩, ⟨eh2, .str (Str.ofString "__slots__") et2, .ref sl⟩, ⟨eh3, .str (Str.ofString "__init__") et3, .ref f0⟩, ⟨eh4, .str (Str.ofString "__lt__") et4, .ref f1⟩, ⟨eh5, .str (Str.ofString "__gt__") et5, .ref f2⟩, ⟨eh6, .str (Str.ofString "__eq__") et6, .ref f3⟩, ⟨eh7, .str (Str.ofString "__le__") et7, .ref f4⟩, ⟨eh8, .str (Str.ofString "__ge__") et8, .ref f5⟩, ⟨eh9, .str (Str.ofString "__hash__") et9, .none⟩, ⟨eh10, .str (Str.ofString "__static_attributes__") et10, .ref st⟩, ⟨eh11, .str (Str.ofString "obj") et11, .ref md⟩, ⟨eh12, .str (Str.ofString "__doc__") et12, .none⟩] 3 } ∧ h.get? md = some { cls := .type "member_descriptor", data := .fields #[.str (Str.ofString "obj") tm, .ref C, .builtin "proto.slot", .builtin "proto.slot#set", .int 0 0] } ∧
  h.get? f0 = some { cls := .type "function", data := .func (fdK w 2 (Str.ofString "cmp_to_key.<locals>.K.__init__") [] cc0 .none) } ∧ h.get? cc0 = some { cls := .type "code", data := .fields #[.str (Str.ofString "__init__") z00, .str (Str.ofString "cmp_to_key.<locals>.K.__init__") z01, .str (Str.ofString "/claim/cut.py") z02, .int 51 0, .int 2 0, .int 0 0, .int 0 0, .int 19 0, .ref y01, .bool true, .int 181 0, .ref y02, .none, .ref y03, .ref y04, .ref y05, .int z03 0, .int 51 0, .str (Str.ofString "/claim/cut.py") z04] } ∧ h.get? f1 = some { cls := .type "function", data := .func (fdK w 3 (Str.ofString "cmp_to_key.<locals>.K.__lt__") [(Str.ofString "mycmp", c)] cc1 (.ref ct1)) } ∧ h.get? cc1 = some { cls := .type "code", data := .fields #[.str (Str.ofString "__lt__") z10, .str (Str.ofString "cmp_to_key.<locals>.K.__lt__") z11, .str (Str.ofString "/claim/cut.py") z12, .int 54 0, .int 2 0, .int 0 0, .int 0 0, .int 19 0, .ref y11, .bool true, .int 181 0, .ref y12, .none, .ref y13, .ref y14, .ref y15, .int z13 0, .int 54 0, .str (Str.ofString "/claim/cut.py") z14] } ∧ h.get? c = some { cls := .type "cell", data := .cell (some (.ref q)) }
/-- the class that cmp_to_key has made, as far as its keys need it -/
def KReady (w : World) (h : Heap) (C q : Addr) : Prop := ∃ v : KV, KAt w h C q v
theorem KReady.mk {w : World} {h : Heap} {C q : Addr} {b d md sl f0 f1 f2 f3 f4 f5 st c cc0 cc1 ct1 y01 y02 y03 y04 y05 y11 y12 y13 y14 y15 : Addr} {t t4 u0 u2 tm z00 z01 z02 z04 z10 z11 z12 z14 et0 et1 et2 et3 et4 et5 et6 et7 et8 et9 et10 et11 et12 : Tok} {z03 z13 : Nat} {eh0 eh1 eh2 eh3 eh4 eh5 eh6 eh7 eh8 eh9 eh10 eh11 eh12 : Int} (p1 : h.get? C = some { cls := .type "type", data := .cls { name := Str.ofString "K", bases := [.type "object"], mro := [.ref C, .type "object"], ns := d, qualname := Str.ofString "cmp_to_key.<locals>.K", hasDict := false, slotNames := [Str.ofString "obj"], hasDel := false }, slots := #[some (.ref b), none, some (.str (Str.ofString "K") t), some (.str (Str.ofString "cmp_to_key.<locals>.K") t4), some (.builtin "object.__new__"), some (.bool false)] }) (p2 : h.get? d = some { cls := .type "dict", data := .dict #[⟨eh0, .str (Str.ofString "__module__") et0, .str (Str.ofString "cpy313.functools") u0⟩, ⟨eh1, .str (Str.ofString "__firstlineno__") et1, .int 47 u2⟩, ⟨eh2, .str (Str.ofString "__slots__") et2, .ref sl⟩, ⟨eh3, .str (Str.ofString "__init__") et3, .ref f0⟩, ⟨eh4, .str (Str.ofString "__lt__") et4, .ref f1⟩, ⟨eh5, .str (Str.ofString "__gt__") et5, .ref f2⟩, ⟨eh6, .str (Str.ofString "__eq__") et6, .ref f3⟩, ⟨eh7, .str (Str.ofString "__le__") et7, .ref f4⟩, ⟨eh8, .str (Str.ofString "__ge__") et8, .ref f5⟩, ⟨eh9, .str (Str.ofString "__hash__") et9, .none⟩, ⟨eh10, .str (Str.ofString "__static_attributes__") et10, .ref st⟩, ⟨eh11, .str (Str.ofString "obj") et11, .ref md⟩, ⟨eh12, .str (Str.ofString "__doc__") et12, .none⟩] 3 }) (p3 : h.get? md = some { cls := .type "member_descriptor", data := .fields #[.str (Str.ofString "obj") tm, .ref C, .builtin "proto.slot", .builtin "proto.slot#set", .int 0 0] }) (p4 : h.get? f0 = some { cls := .type "function", data := .func (fdK w 2 (Str.ofString "cmp_to_key.<locals>.K.__init__") [] cc0 .none) }) (p5 : h.get? cc0 = some { cls := .type "code", data := .fields #[.str (Str.ofString "__init__") z00, .str (Str.ofString "cmp_to_key.<locals>.K.__init__") z01, .str (Str.ofString "/claim/cut.py") z02, .int 51 0, .int 2 0, .int 0 0, .int 0 0, .int 19 0, .ref y01, .bool true, .int 181 0, .ref y02, .none, .ref y03, .ref y04, .ref y05, .int z03 0, .int 51 0, .str (Str.ofString "/claim/cut.py") z04] }) (p6 : h.get? f1 = some { cls := .type "function", data := .func (fdK w 3 (Str.ofString "cmp_to_key.<locals>.K.__lt__") [(Str.ofString "mycmp", c)] cc1 (.ref ct1)) }) (p7 : h.get? cc1 = some { cls := .type "code", data := .fields #[.str (Str.ofString "__lt__") z10, .str (Str.ofString "cmp_to_key.<locals>.K.__lt__") z11, .str (Str.ofString "/claim/cut.py") z12, .int 54 0, .int 2 0, .int 0 0, .int 0 0, .int 19 0, .ref y11, .bool true, .int 181 0, .ref y12, .none, .ref y13, .ref y14, .ref y15, .int z13 0, .int 54 0, .str (Str.ofString "/claim/cut.py") z14] }) (p8 : h.get? c = some { cls := .type "cell", data := .cell (some (.ref q)) }) : KReady w h C q :=
  ⟨⟨b, d, md, sl, f0, f1, f2, f3, f4, f5, st, c, cc0, cc1, ct1, y01, y02, y03, y04, y05, y11, y12, y13, y14, y15, t, t4, u0, u2, tm, z00, z01, z02, z04, z10, z11, z12, z14, et0, et1, et2, et3, et4, et5, et6, et7, et8, et9, et10, et11, et12, z03, z13, eh0, eh1, eh2, eh3, eh4, eh5, eh6, eh7, eh8, eh9, eh10, eh11, eh12⟩, And.intro p1 (And.intro p2 (And.intro p3 (And.intro p4 (And.intro p5 (And.intro p6 (And.intro p7 p8))))))⟩
theorem KReady.keep {w : World} {h h' : Heap} {C q : Addr} (k : Keep h h') : KReady w h C q → KReady w h' C q := by
  rintro ⟨⟨b, d, md, sl, f0, f1, f2, f3, f4, f5, st, c, cc0, cc1, ct1, y01, y02, y03, y04, y05, y11, y12, y13, y14, y15, t, t4, u0, u2, tm, z00, z01, z02, z04, z10, z11, z12, z14, et0, et1, et2, et3, et4, et5, et6, et7, et8, et9, et10, et11, et12, z03, z13, eh0, eh1, eh2, eh3, eh4, eh5, eh6, eh7, eh8, eh9, eh10, eh11, eh12⟩, p1, p2, p3, p4, p5, p6, p7, p8⟩
  exact KReady.mk (k _ _ p1) (k _ _ p2) (k _ _ p3) (k _ _ p4) (k _ _ p5) (k _ _ p6) (k _ _ p7) (k _ _ p8)
theorem m_body {M : Model} {A : Around} {st st' : List Stmt} {env env' : Env} {R : Result → Shared → Prop} {s : Shared} (e1 : st = st') (e2 : env = env') (q : codeAny M A (.body st' env') R s) : codeAny M A (.body st env) R s := by subst e1; subst e2; exact q
theorem m_stopC {M : Model} {A : Around} {pos : Args} {hd : Option Value} {g : Bool} {l : List Value} {T : Value} {k : Result → Sem Flow} {Q : Flow → Shared → Prop} {E : Value → Shared → Prop} {s : Shared} (h : True → wpAny M A (Sem.call (.call T pos) hd g l k) Q E s) : wpAny M A (Sem.call (.call T pos) hd g l k) Q E s := h trivial
theorem wkc {M : Model} {A B : Around} {c : Code} {R : Result → Shared → Prop} {s : Shared} (hh : B.handled = A.handled) (hd : A.depth ≤ B.depth) (hf : B.frames = none) (hg : B.guards = none) (hu : A.units ≤ B.units) (x : codeAny M B c R s) : codeAny M A c R s :=
  fun Γ p hc hΓ => x Γ p hc ⟨by rw [hh]; exact hΓ.1, Nat.le_trans hΓ.2.1 hd, fun (l : List Env) (e : B.frames = some l) => (by rw [hf] at e; cases e), fun (g : List Code) (e : B.guards = some g) => (by rw [hg] at e; cases e), Nat.le_trans hΓ.2.2.2.2 hu⟩
theorem ne_cls {h : Heap} {a b : Addr} {oa ob : Obj} {ca cb : String} (ha : h.get? a = some oa) (hb : h.get? b = some ob) (ea : oa.cls = .type ca) (eb : ob.cls = .type cb) (n : ca ≠ cb) : a ≠ b := fun e => by
  subst e
  rw [ha] at hb
  have z := congrArg Obj.cls (Option.some.inj hb)
  rw [ea, eb] at z
  exact n (Value.type.inj z)
theorem m_code {M : Model} {A : Around} {c c' : Code} {R : Result → Shared → Prop} {s : Shared} (e : c = c') (q : codeAny M A c' R s) : codeAny M A c R s := e ▸ q
local macro_rules | `(tactic| dsimp only) => `(tactic| skip)
local macro_rules | `(tactic| walk_at "go") => `(tactic| repeat (first
  | with_reducible refine m_stopN ?_
  | with_reducible refine m_alloc rfl ?_
  | with_reducible refine m_update (by assumption) rfl ?_
  | with_reducible refine m_fresh ?_
  | with_reducible refine m_try ?_
  | with_reducible refine r_isType ?_
  | with_reducible refine r_enter (by assumption) (by kernel_rfl) ?_
  | with_reducible refine r_room (by kernel_rfl) ?_
  | with_reducible refine x_at ?_
  | with_reducible refine wpAny_standAt ?_
  | lk))
abbrev A2 : Around := { handled := none, depth := 420, frames := none, guards := none, units := 100 }
local macro_rules | `(tactic| x_close) => `(tactic| first | exact ⟨_, _, _, rfl, rfl, mem_keep (by assumption), mem_at (by assumption) (.head _), mem_new (by assumption) (.head _)⟩ | exact ⟨_, _, rfl, rfl, mem_keep (by assumption)⟩ | exact ⟨_, _, rfl, rfl, Keep.rfl'⟩)
theorem ctk {w : World} {h0 : Heap} {g0 : Array GenState} {dr0 : Drawn} {k0 : Nat} {os0 : OsState} {q : Addr} {Q : Value → Shared → Prop} {E : Value → Shared → Prop} (S : Std w h0) (o1 : Obj) (hs1 : h0.get? sysModules = some o1) (sl4 : Array (Option Value)) (hs4 : h0.get? 4 = some ⟨.type "module", some builtinsNs, .plain, sl4⟩) (h37 : h0.get? 37 = some ⟨.none, none, .fields #[], #[]⟩)
   (ret : ∀ C h' tk, KeepB 37 h0 h' → (∃ more, h'.get? 37 = some ⟨.none, none, .fields more, #[]⟩) → h0.get? C = none → KReady w h' C q → Q (.ref C) ⟨h', g0, dr0, tk, os0⟩) :
   wpAny (model Challenge.rw_mq0096_01.row.prog w) A2 (call (.ref 42) [.ref q]) Q E ⟨h0, g0, dr0, k0, os0⟩ := by
  obtain ⟨X, p, loose, mean, mg, mb, T⟩ := S
  have o42 := X 42 _ rfl
  have o41 := X 41 _ rfl
  refine wpAny_call ?_
  refine codeAny_of_tree ?_
  show wpAny _ _ (callAny (.ref 42) _) _ _ _
  walk_at "go"
  intro L h1 kL hL hL0
  walk_at "go"
  intro c h2 kc hc hc0
  have ncL : L ≠ c := ne_none hL hc0
  have kk := kL.trans kc
  replace hL := kc _ _ hL
  have nl := T.nolimit.keeps kk
  have o41' := kk _ _ o41
  walk_at "go"
  have c0 := none_keep kL hc0
  intro h3 sb hc3
  replace hL := but_ne sb ncL hL
  replace kk := keep_butM kk sb c0
  replace hc : h3.get? c = some { cls := .type "cell", data := .cell (some (.ref q)) } := hc3
  clear hc3 sb nl o41' kc
  have nl := T.nolimit.keeps kk
  have o41' := kk _ _ o41
  walk_at "go"
  refine And.intro (by kernel_rfl) ?_
  (show codeAny _ _ (Code.func (bodyM w) (envM w L c)) _ _)
  refine codeAny_func ?_
  have b1 : Looks (model Challenge.rw_mq0096_01.row.prog w) h3 (nsGet (envM w L c).builtins (Str.ofString "__build_class__")) (some (.builtin "__build_class__")) := looks_bi T kk rfl (by decide) (by kernel_rfl)
  have b2 : Looks (model Challenge.rw_mq0096_01.row.prog w) h3 (nsGet (envM w L c).builtins (Str.ofString "object")) (some (.type "object")) := looks_bi T kk rfl (by decide) (by kernel_rfl)
  have o3 := kk _ _ (X 3 _ rfl)
  walk_at "go"
  intro b h4 kb hb hb0
  have hb' : h4.get? b = some { cls := .type "tuple", data := .seq #[.type "object"] } := hb
  replace hL := kb _ _ hL
  replace hc := kb _ _ hc
  have k4 := kk.trans kb
  clear b1 b2 o3 nl o41'
  walk_at "go"
  refine x_then (Mk (bimObj (.builtin "type.__prepare__") (.type "type")) h4 g0 dr0 os0) (by x_run) ?_
  rintro v s' ⟨h5, tk5, pr, rfl, rfl, k5, hpr, _⟩
  replace hpr : h5.get? pr = some ⟨.type "builtin_function_or_method", none, .fields #[.builtin "type.__prepare__", .type "type"], #[]⟩ := hpr
  walk_at "go"
  refine x_then (Mk { cls := .type "dict", data := .dict #[] } h5 g0 dr0 os0) (by x_run) ?_
  rintro v s' ⟨h6, tk6, ns, rfl, rfl, k6, hns, hns0⟩
  have nLns : L ≠ ns := ne_none (k5 _ _ hL) hns0
  have ncns : c ≠ ns := ne_none (k5 _ _ hc) hns0
  have nbns : b ≠ ns := ne_none (k5 _ _ hb') hns0
  replace k4 := k4.trans (k5.trans k6)
  replace hb' := k6 _ _ (k5 _ _ hb')
  replace hL := k6 _ _ (k5 _ _ hL)
  replace hc := k6 _ _ (k5 _ _ hc)
  have nns : ns ≠ sysModules := fun e => by
    have := k4
    rw [e] at hns0
    have z := none_keep (kk.trans (kb.trans k5)) hns0
    rw [hs1] at z; cases z
  walk_at "go"
  refine r_ite_f (by simpa using nns) ?_
  have o41 := k4 _ _ (X 41 _ rfl)
  have t37 := k4 _ _ h37
  walk_at "go"
  refine r_list (l' := [Str.ofString "mycmp"]) ?_ ?_
  · exact (congrArg (fun l => List.mergeSort l _) (show _ = [Str.ofString "mycmp"] from by kernel_rfl)).trans (List.mergeSort_singleton _)
  walk_at "go"
  intro tf h7 k7 htf htf0
  have b0 := none_keep kk hb0
  have ns0 := none_keep (kk.trans (kb.trans k5)) hns0
  have tf0 := none_keep k4 htf0
  have ntfns : tf ≠ ns := (ne_none hns htf0).symm
  replace k4 := k4.trans k7
  replace hb' := k7 _ _ hb'
  replace hL := k7 _ _ hL
  replace hc := k7 _ _ hc
  replace hns := k7 _ _ hns
  replace o41 := k7 _ _ o41
  replace t37 := k7 _ _ t37
  walk_at "go"
  intro P h8 k8 hP hP0
  have P0 := none_keep k4 hP0
  have nbP : b ≠ P := ne_none hb' hP0
  have ncP' : c ≠ P := ne_none hc hP0
  have nLP : L ≠ P := ne_none hL hP0
  have nPns : P ≠ ns := (ne_none hns hP0).symm
  replace k4 := k4.trans k8
  replace hb' := k8 _ _ hb'
  replace hL := k8 _ _ hL
  replace hc := k8 _ _ hc
  replace hns := k8 _ _ hns
  replace o41 := k8 _ _ o41
  replace t37 := k8 _ _ t37
  replace htf := k8 _ _ htf
  walk_at "go"
  intro cd h9 k9 hcd hcd0
  replace hcd : h9.get? cd = some { cls := .type "code", data := .fields #[.str (Str.ofString "K") tk6, .str (Str.ofString "cmp_to_key.<locals>.K") (tk6 + 1), .str (Str.ofString "/claim/cut.py") (tk6 + 1 + 1), .int 47 0, .int 0 0, .int 0 0, .int 0 0, .int 0 0, .ref tf, .bool true, .int 181 0, .ref P, .none, .none, .none, .none, .int (tk6 + 1 + 1 + 1 + 1) 0, .int 47 0, .str (Str.ofString "/claim/cut.py") (tk6 + 1 + 1 + 1 + 1 + 1)] } := hcd.trans (congrArg some (by kernel_rfl))
  have cd0 := none_keep k4 hcd0
  have ncdP : cd ≠ P := (ne_none hP hcd0).symm
  have ncdns : cd ≠ ns := (ne_none hns hcd0).symm
  replace k4 := k4.trans k9
  replace hb' := k9 _ _ hb'
  replace hL := k9 _ _ hL
  replace hc := k9 _ _ hc
  replace hns := k9 _ _ hns
  replace o41 := k9 _ _ o41
  replace t37 := k9 _ _ t37
  replace htf := k9 _ _ htf
  replace hP := k9 _ _ hP
  walk_at "go"
  intro h10 sb t10
  have kB : KeepB 37 h0 h10 := fun b o e ne => (sb.2 b ne).trans (k4 b o e)
  replace hb' := but_ne sb (ne_none h37 b0).symm hb'
  replace hL := but_ne sb (ne_none h37 hL0).symm hL
  replace hc := but_ne sb (ne_none h37 c0).symm hc
  replace hns := but_ne sb (ne_none h37 ns0).symm hns
  replace htf := but_ne sb (ne_none h37 tf0).symm htf
  replace hP := but_ne sb (ne_none h37 P0).symm hP
  replace hcd := but_ne sb (ne_none h37 cd0).symm hcd
  replace o41 := but_ne sb (by decide) o41
  replace t10 : h10.get? 37 = some ⟨.none, none, .fields #[.int 47 0, .int 4 0, .ref cd], #[]⟩ := t10.trans (congrArg some (by kernel_rfl))
  clear t37 sb k7 k8 k9 k6 k5
  have o3 := kB _ _ (X 3 _ rfl) (by decide)
  have o4 := kB _ _ hs4 (by decide)
  walk_at "go"
  intro fr h11 kf hfr hfr0
  have nfrns : fr ≠ ns := (ne_none hns hfr0).symm
  have n37ns : 37 ≠ ns := ne_none h37 ns0
  have n2ns : cStatics ≠ ns := ne_none (X cStatics _ rfl) ns0
  have n3ns : 3 ≠ ns := ne_none (X 3 _ rfl) ns0
  replace hfr : h11.get? fr = some { cls := .type "frame", slots := #[some (.ref cd), some (.ref 3), some (.ref ns), none, some (.str (Str.ofString "law_mq0096_01") 246), none, some (.ref builtinsNs)] } := hfr
  have nl := (nolimit_B T.nolimit kB (by decide)).keeps kf
  replace kB : KeepB 37 h0 h11 := fun b o e ne => kf _ _ (kB b o e ne)
  replace hb' := kf _ _ hb'
  replace hL := kf _ _ hL
  replace hc := kf _ _ hc
  have hns10 := hns
  replace hns := kf _ _ hns
  replace htf := kf _ _ htf
  replace hP := kf _ _ hP
  replace hcd := kf _ _ hcd
  replace t10 := kf _ _ t10
  replace o3 := kf _ _ o3
  walk_at "go"
  intro h12 sb nsN
  replace nl : h12.NoLimit := nl.sameBut sb n2ns
  replace kB : KeepB 37 h0 h12 := fun b o e ne => (sb.2 b (ne_none e ns0)).trans (kB b o e ne)
  replace hb' := but_ne sb nbns hb'
  replace hL := but_ne sb nLns hL
  replace hc := but_ne sb ncns hc
  replace htf := but_ne sb ntfns htf
  replace hP := but_ne sb nPns hP
  replace hcd := but_ne sb ncdns hcd
  replace hfr := but_ne sb nfrns hfr
  replace t10 := but_ne sb n37ns t10
  replace o3 := but_ne sb n3ns o3
  obtain ⟨eh1, et1, hns⟩ : ∃ hx tx, h12.get? ns = some { cls := .type "dict", data := .dict #[⟨hx, .str (Str.ofString "__module__") tx, .str (Str.ofString "law_mq0096_01") 246⟩] 1 } := ⟨_, _, nsN⟩
  clear nsN sb
  walk_at "go"
  intro h13 sb nsN
  replace nl : h13.NoLimit := nl.sameBut sb n2ns
  replace kB : KeepB 37 h0 h13 := fun b o e ne => (sb.2 b (ne_none e ns0)).trans (kB b o e ne)
  replace hb' := but_ne sb nbns hb'
  replace hL := but_ne sb nLns hL
  replace hc := but_ne sb ncns hc
  replace htf := but_ne sb ntfns htf
  replace hP := but_ne sb nPns hP
  replace hcd := but_ne sb ncdns hcd
  replace hfr := but_ne sb nfrns hfr
  replace t10 := but_ne sb n37ns t10
  replace o3 := but_ne sb n3ns o3
  obtain ⟨eh2, et2, qt, hns⟩ : ∃ hx tx qt, h13.get? ns = some { cls := .type "dict", data := .dict #[⟨eh1, .str (Str.ofString "__module__") et1, .str (Str.ofString "law_mq0096_01") 246⟩, ⟨hx, .str (Str.ofString "__qualname__") tx, .str (Str.ofString "cmp_to_key.<locals>.K") qt⟩] 2 } := ⟨_, _, _, nsN⟩
  clear nsN sb
  walk_at "go"
  intro h14 sb nsN
  replace nl : h14.NoLimit := nl.sameBut sb n2ns
  replace kB : KeepB 37 h0 h14 := fun b o e ne => (sb.2 b (ne_none e ns0)).trans (kB b o e ne)
  replace hb' := but_ne sb nbns hb'
  replace hL := but_ne sb nLns hL
  replace hc := but_ne sb ncns hc
  replace htf := but_ne sb ntfns htf
  replace hP := but_ne sb nPns hP
  replace hcd := but_ne sb ncdns hcd
  replace hfr := but_ne sb nfrns hfr
  replace t10 := but_ne sb n37ns t10
  replace o3 := but_ne sb n3ns o3
  obtain ⟨eh3, et3, ft, hns⟩ : ∃ hx tx ft, h14.get? ns = some { cls := .type "dict", data := .dict #[⟨eh1, .str (Str.ofString "__module__") et1, .str (Str.ofString "law_mq0096_01") 246⟩, ⟨eh2, .str (Str.ofString "__qualname__") et2, .str (Str.ofString "cmp_to_key.<locals>.K") qt⟩, ⟨hx, .str (Str.ofString "__firstlineno__") tx, .int 47 ft⟩] 3 } := ⟨_, _, _, nsN⟩
  clear nsN sb
  walk_at "go"
  refine x_call ?_ (by intro h; cases h)
  refine m_body (st' := bodyK w) (env' := envK w ns c cd fr) (by kernel_rfl) (by kernel_rfl) ?_
  refine codeAny_body (by kernel_rfl) (by kernel_rfl) ?_
  have hKn : ∀ a o, (hd.heap_39 w.params).lookup a = some o → a ≠ ns ∧ a ≠ P := fun a o e => ⟨ne_none (X a o e) ns0, ne_none (X a o e) P0⟩
  have X14 : (hd.heap_39 w.params).In h14 := fun a o e => kB a o (X a o e) (fun z => by rw [z] at e; revert e; rw [show (hd.heap_39 w.params).lookup 37 = none from by kernel_rfl]; exact fun e => by cases e)
  refine wk (B := A3) rfl (Nat.le_of_ble_eq_true (by kernel_rfl)) rfl rfl (Nat.le_of_ble_eq_true (by kernel_rfl)) (kbody (P := P) X14 hKn (kB _ _ hs4 (by decide)) hcd hP (ne_none (X 3 _ rfl) P0) (ne_none hs4 P0) nPns.symm n3ns (ne_none hs4 ns0) ncdP ncdns hns ?_)
  have hns14 := hns
  intro sl k2 tu f0 cc0 f1 cc1 ct1 f2 f3 f4 f5 y01 y02 y03 y04 y05 z00 z01 z02 z04 y11 y12 y13 y14 y15 z10 z11 z12 z14 u0 xh3 xt3 xh4 xt4 xh5 xt5 xh6 xt6 xh7 xt7 xh8 xt8 xh9 xt9 xh10 xt10 d2 d3 d4 d5 en2 vs2 h15 tk15 z03 z13 kbb f0z f1z f2z f3z f4z f5z hf0 hcc0 hf1 hcc1 hf2 hf3 hf4 hf5 slz hsl hns hP
  have kC : ∀ b o, h14.get? b = some o → b ≠ ns → b ≠ P → h15.get? b = some o := kbb
  replace hb' := kbb _ _ hb' nbns nbP
  replace hc := kbb _ _ hc ncns ncP'
  replace hL := kbb _ _ hL nLns nLP
  walk_at "go"
  intro st h16 k16 hst hst0
  replace hns := k16 _ _ hns
  replace hsl := k16 _ _ hsl
  replace hf0 := k16 _ _ hf0
  replace hf1 := k16 _ _ hf1
  replace hf2 := k16 _ _ hf2
  replace hf3 := k16 _ _ hf3
  replace hf4 := k16 _ _ hf4
  replace hf5 := k16 _ _ hf5
  replace hcc0 := k16 _ _ hcc0
  replace hcc1 := k16 _ _ hcc1
  replace hc := k16 _ _ hc
  replace hb' := k16 _ _ hb'
  replace hL := k16 _ _ hL
  replace hst : h16.get? st = some ⟨.type "tuple", none, .seq #[.str (Str.ofString "obj") tk15] 0, #[]⟩ := hst
  walk_at "go"
  intro h17 sb nsN
  replace hsl := but_ne sb (ne_cls hsl hns rfl rfl (by decide)) hsl
  replace hf0 := but_ne sb (ne_cls hf0 hns rfl rfl (by decide)) hf0
  replace hf1 := but_ne sb (ne_cls hf1 hns rfl rfl (by decide)) hf1
  replace hf2 := but_ne sb (ne_cls hf2 hns rfl rfl (by decide)) hf2
  replace hf3 := but_ne sb (ne_cls hf3 hns rfl rfl (by decide)) hf3
  replace hf4 := but_ne sb (ne_cls hf4 hns rfl rfl (by decide)) hf4
  replace hf5 := but_ne sb (ne_cls hf5 hns rfl rfl (by decide)) hf5
  replace hcc0 := but_ne sb (ne_cls hcc0 hns rfl rfl (by decide)) hcc0
  replace hcc1 := but_ne sb (ne_cls hcc1 hns rfl rfl (by decide)) hcc1
  replace hc := but_ne sb (ne_cls hc hns rfl rfl (by decide)) hc
  replace hb' := but_ne sb (ne_cls hb' hns rfl rfl (by decide)) hb'
  replace hL := but_ne sb (ne_cls hL hns rfl rfl (by decide)) hL
  replace hst := but_ne sb (ne_cls hst hns rfl rfl (by decide)) hst
  obtain ⟨ehs, ets, hns⟩ : ∃ hx tx, h17.get? ns = some { cls := .type "dict", data := .dict #[⟨eh1, .str (Str.ofString "__module__") et1, .str (Str.ofString "cpy313.functools") u0⟩, ⟨eh2, .str (Str.ofString "__qualname__") et2, .str (Str.ofString "cmp_to_key.<locals>.K") qt⟩, ⟨eh3, .str (Str.ofString "__firstlineno__") et3, .int 47 ft⟩, ⟨xh3, .str (Str.ofString "__slots__") xt3, .ref sl⟩, ⟨xh4, .str (Str.ofString "__init__") xt4, .ref f0⟩, ⟨xh5, .str (Str.ofString "__lt__") xt5, .ref f1⟩, ⟨xh6, .str (Str.ofString "__gt__") xt6, .ref f2⟩, ⟨xh7, .str (Str.ofString "__eq__") xt7, .ref f3⟩, ⟨xh8, .str (Str.ofString "__le__") xt8, .ref f4⟩, ⟨xh9, .str (Str.ofString "__ge__") xt9, .ref f5⟩, ⟨xh10, .str (Str.ofString "__hash__") xt10, .none⟩, ⟨hx, .str (Str.ofString "__static_attributes__") tx, .ref st⟩] (en2 + 1) } := ⟨_, _, nsN⟩
  clear nsN
  walk_at "go"
  refine x_call ?_ (by intro h; cases h)
  have X17 : (hd.heap_39 w.params).In h17 := fun a o e => (sb.2 a (hKn a o e).1).trans (k16 _ _ (in_bb X14 hKn kC a o e))
  refine m_code (c' := .call (.type "type") ⟨[.str (Str.ofString "K") k0, .ref b, .ref ns], []⟩) (by kernel_rfl) ?_
  refine wkc (B := A1) rfl (Nat.le_of_ble_eq_true (by kernel_rfl)) rfl rfl (Nat.le_of_ble_eq_true (by kernel_rfl)) ?_
  refine tcall b ns sl f0 f1 f2 f3 f4 f5 st _ _ _ _ _ _ _ _ _ _ _ _ _ _ _ _ _ _ _ _ _ _ _ _ _ _ _ _ _ _ _ hsl _ _ _ _ _ _ _ _ _ _ _ _ _ _ _ _ _ _ _ _ _ hf0 hf1 hf2 hf3 hf4 hf5 X17 hst hb' nns hns ?_
  intro C d md hx tx hy ty tm h18 tk18 k18 C17 hC hd hmd
  have C0 : h0.get? C = none := by
    cases e : h0.get? C with
    | none => rfl
    | some o =>
      by_cases n37 : C = 37
      · rw [n37, but_ne sb n37ns (k16 _ _ (kbb _ _ t10 n37ns (ne_none h37 P0)))] at C17; cases C17
      · rw [(sb.2 C (ne_none e ns0)).trans (k16 _ _ (kC _ _ (kB _ _ e n37) (ne_none e ns0) (ne_none e P0)))] at C17; cases C17
  have t18 := k18 _ _ (but_ne sb n37ns (k16 _ _ (kbb _ _ t10 n37ns (ne_none h37 P0))))
  have kF : KeepB 37 h0 h18 := fun b o e n => k18 _ _ ((sb.2 b (ne_none e ns0)).trans (k16 _ _ (kC _ _ (kB _ _ e n) (ne_none e ns0) (ne_none e P0))))
  replace hf0 := k18 _ _ hf0
  replace hcc0 := k18 _ _ hcc0
  replace hf1 := k18 _ _ hf1
  replace hcc1 := k18 _ _ hcc1
  replace hc := k18 _ _ hc
  replace hL := k18 _ _ hL
  walk_at "go"
  refine m_update hL (by rfl) ?_
  intro h19 sb2 hL2
  have t19 := but_ne sb2 (ne_none h37 hL0) t18
  replace hC := but_ne sb2 (ne_cls hC hL rfl rfl (by decide)) hC
  replace hd := but_ne sb2 (ne_cls hd hL rfl rfl (by decide)) hd
  replace hmd := but_ne sb2 (ne_cls hmd hL rfl rfl (by decide)) hmd
  replace hf0 := but_ne sb2 (ne_cls hf0 hL rfl rfl (by decide)) hf0
  replace hcc0 := but_ne sb2 (ne_cls hcc0 hL rfl rfl (by decide)) hcc0
  replace hf1 := but_ne sb2 (ne_cls hf1 hL rfl rfl (by decide)) hf1
  replace hcc1 := but_ne sb2 (ne_cls hcc1 hL rfl rfl (by decide)) hcc1
  replace hc := but_ne sb2 (ne_cls hc hL rfl rfl (by decide)) hc
  obtain ⟨ehK, etK, hL⟩ : ∃ hx tx, h19.get? L = some { cls := .type "frame", data := .dict #[⟨hx, .str (Str.ofString "K") tx, .ref C⟩] 1 } := ⟨_, _, hL2⟩
  walk_at "go"
  exact ret C h19 _ (fun b o e n => (sb2.2 b (ne_none e hL0)).trans (kF b o e n)) ⟨_, t19⟩ C0 (KReady.mk hC hd hmd hf0 hcc0 hf1 hcc1 hc)
end Mine
end
section
open PySem PySem.W PySem.W.X PyProof.Rows PySem.Calls PySem.Spec
set_option Elab.async false
set_option maxRecDepth 100000
set_option maxHeartbeats 0
set_option rowWalk.seconds 0
namespace Mine
theorem start_M10 : True := by w_top off; trivial
abbrev A5 : Around := { handled := none, depth := 420, frames := none, guards := none, units := 100 }
abbrev keyObj (C dx : Addr) (x : Value) : Obj := { cls := .ref C, dict := some dx, data := .plain, slots := #[some x] }
def Made (C l : Addr) (h : Heap) (g : Array GenState) (d : Drawn) (os : OsState) (v : Value) (s' : Shared) : Prop := ∃ y h' tk, v = .ref y ∧ s' = ⟨h', g, d, tk, os⟩ ∧ Keep h h' ∧ h.get? y = none ∧ ∃ dx, h'.get? y = some (keyObj C dx (.ref l))
local macro_rules | `(tactic| x_close) => `(tactic| exact ⟨_, _, _, rfl, rfl, mem_keep (by assumption), mem_new (by assumption) (.tail _ (.head _)), _, mem_at (by assumption) (.tail _ (.head _))⟩)
theorem kmake {w : World} {h : Heap} {g : Array GenState} {dr : Drawn} {tk : Nat} {os : OsState} {C q l : Addr} (X : (hd.heap_39 w.params).In h) (R : KReady w h C q) :
   wpAny (model Challenge.rw_mq0096_01.row.prog w) A5 (call (.ref C) [.ref l]) (Made C l h g dr os) (fun _ _ => False) ⟨h, g, dr, tk, os⟩ := by
  obtain ⟨⟨b, d, md, sl, f0, f1, f2, f3, f4, f5, st, c, cc0, cc1, ct1, y01, y02, y03, y04, y05, y11, y12, y13, y14, y15, t, t4, u0, u2, tm, z00, z01, z02, z04, z10, z11, z12, z14, et0, et1, et2, et3, et4, et5, et6, et7, et8, et9, et10, et11, et12, z03, z13, eh0, eh1, eh2, eh3, eh4, eh5, eh6, eh7, eh8, eh9, eh10, eh11, eh12⟩, hC, hd', hmd, hf0, hcc0, hf1, hcc1, hc⟩ := R
  x_run
end Mine
end
section
open PySem PySem.W PySem.W.X PyProof.Rows PySem.Calls PySem.Spec
set_option Elab.async false
set_option maxRecDepth 100000
set_option maxHeartbeats 1000000
set_option rowWalk.seconds 0
namespace Mine
theorem start_M11 : True := by w_top off; trivial
local macro_rules | `(tactic| dsimp only) => `(tactic| skip)
local macro_rules | `(tactic| walk_at "go") => `(tactic| repeat (first
  | with_reducible refine m_stopN ?_
  | with_reducible refine m_alloc rfl ?_
  | with_reducible refine m_update (by assumption) rfl ?_
  | with_reducible refine m_fresh ?_
  | with_reducible refine m_try ?_
  | with_reducible refine r_isType ?_
  | with_reducible refine r_enter (by assumption) (by kernel_rfl) ?_
  | with_reducible refine r_room (by kernel_rfl) ?_
  | with_reducible refine x_at ?_
  | with_reducible refine wpAny_standAt ?_
  | lk))

noncomputable def fdC (w : World) : FuncData := match (hd.heap_39 w.params).lookup 80 with | some ⟨_, _, .func fd, _⟩ => fd | _ => default
noncomputable def bodyC (w : World) : List Stmt := match (fdC w).body with | .stmts b => b | _ => []
noncomputable def envC (w : World) (L c : Addr) : Env := { scope := (fdC w).scope, locals := L, globals := (fdC w).globals, cells := [(Str.ofString "rules", c)], qual := Str.ofString "_law_comparison.<locals>.", func := some 80, code := (fdC w).code, frame := some L, builtins := builtinsNs }
noncomputable def fdQ (w : World) (cells : List (Str × Addr)) (cc : Addr) (ctv : Value) : FuncData := match (bodyC w).getD 0 default with
  | .FunctionDef name args body _ _ _ scope _ _ _ => { name := name, qualname := Str.ofString "_law_comparison.<locals>._law_asked", params := args, body := .stmts body, scope, globals := 3, closure := cells, defaults := .none, kwdefaults := .none, pyModule := .str (Str.ofString "law_mq0096_01") 246, code := .ref cc, closureTuple := ctv, builtins := builtinsNs }
  | _ => default
def QReady (w : World) (h : Heap) (q rl : Addr) : Prop := ∃ (c cc ct y1 y2 y3 y4 y5 : Addr) (z0 z1 z2 z4 : Tok) (z3 : Nat), h.get? q = some { cls := .type "function", data := .func (fdQ w [(Str.ofString "rules", c)] cc (.ref ct)) } ∧ h.get? cc = some { cls := .type "code", data := .fields #[.str (Str.ofString "_law_asked") z0, .str (Str.ofString "_law_comparison.<locals>._law_asked") z1, .str (Str.ofString "/claim/cut.py") z2, .int 96 0, .int 2 0, .int 0 0, .int 0 0, .int 19 0, .ref y1, .bool true, .int 181 0, .ref y2, .none, .ref y3, .ref y4, .ref y5, .int z3 0, .int 96 0, .str (Str.ofString "/claim/cut.py") z4] } ∧ h.get? c = some { cls := .type "cell", data := .cell (some (.ref rl)) }
theorem QReady.keep {w : World} {h h' : Heap} {q rl : Addr} (k : Keep h h') : QReady w h q rl → QReady w h' q rl := by
  rintro ⟨c, cc, ct, y1, y2, y3, y4, y5, z0, z1, z2, z4, z3, p1, p2, p3⟩
  exact ⟨c, cc, ct, y1, y2, y3, y4, y5, z0, z1, z2, z4, z3, k _ _ p1, k _ _ p2, k _ _ p3⟩
theorem lc {w : World} {h0 : Heap} {g0 : Array GenState} {dr0 : Drawn} {k0 : Nat} {os0 : OsState} {rl : Addr} {Q : Value → Shared → Prop} {E : Value → Shared → Prop} (S : Std w h0) (sl4 : Array (Option Value)) (hs4 : h0.get? 4 = some ⟨.type "module", some builtinsNs, .plain, sl4⟩) (h75 : h0.get? 75 = some ⟨.none, none, .fields #[], #[]⟩) (ret : ∀ q h' tk, KeepB 75 h0 h' → (∃ more, h'.get? 75 = some ⟨.none, none, .fields more, #[]⟩) → h0.get? q = none → QReady w h' q rl → Q (.ref q) ⟨h', g0, dr0, tk, os0⟩) :
   wpAny (model Challenge.rw_mq0096_01.row.prog w) A2 (call (.ref 80) [.ref rl]) Q E ⟨h0, g0, dr0, k0, os0⟩ := by
  obtain ⟨X, p, loose, mean, mg, mb, T⟩ := S
  have o80 := X 80 _ rfl
  have h79 := X 79 _ rfl
  have kk : Keep h0 h0 := Keep.rfl'
  refine wpAny_call ?_
  refine codeAny_of_tree ?_
  show wpAny _ _ (callAny (.ref 80) _) _ _ _
  walk_at "go"
  intro L h1 k_L hL hL0
  have zL := none_keep kk hL0
  replace kk := kk.trans k_L
  replace h79 := k_L _ _ h79
  walk_at "go"
  intro c h2 k_c hc hc0
  have zc := none_keep kk hc0
  replace kk := kk.trans k_c
  have ncL : L ≠ c := ne_none hL hc0
  replace h79 := k_c _ _ h79
  replace hL := k_c _ _ hL
  walk_at "go"
  intro h3 sb hc3
  replace hL := but_ne sb ncL hL
  replace kk := keep_butM kk sb zc
  replace hc : h3.get? c = some { cls := .type "cell", data := .cell (some (.ref rl)) } := hc3
  clear hc3 sb h79
  have h79 := kk _ _ (X 79 _ rfl)
  have h3m := kk _ _ (X 3 _ rfl)
  have h4m := kk _ _ hs4
  have ht75 := kk _ _ h75
  have nl := T.nolimit.keeps kk
  walk_at "go"
  refine And.intro (by kernel_rfl) ?_
  (show codeAny _ _ (Code.func (bodyC w) (envC w L c)) _ _)
  refine codeAny_func ?_
  walk_at "go"
  intro ct h4 k_ct hct hct0
  have zct := none_keep kk hct0
  replace kk := kk.trans k_ct
  replace h79 := k_ct _ _ h79
  replace h3m := k_ct _ _ h3m
  replace h4m := k_ct _ _ h4m
  replace ht75 := k_ct _ _ ht75
  replace hL := k_ct _ _ hL
  replace hc := k_ct _ _ hc
  walk_at "go"
  refine r_list (l' := [Str.ofString "rules"]) ?_ ?_
  · exact (congrArg (fun l => List.mergeSort l _) (show _ = [Str.ofString "rules"] from by kernel_rfl)).trans (List.mergeSort_singleton _)
  walk_at "go"
  intro a1 h5 k_a1 ha1 ha10
  have za1 := none_keep kk ha10
  replace kk := kk.trans k_a1
  replace h79 := k_a1 _ _ h79
  replace h3m := k_a1 _ _ h3m
  replace h4m := k_a1 _ _ h4m
  replace ht75 := k_a1 _ _ ht75
  replace hL := k_a1 _ _ hL
  replace hc := k_a1 _ _ hc
  replace hct := k_a1 _ _ hct
  walk_at "go"
  intro a2 h6 k_a2 ha2 ha20
  have za2 := none_keep kk ha20
  replace kk := kk.trans k_a2
  replace h79 := k_a2 _ _ h79
  replace h3m := k_a2 _ _ h3m
  replace h4m := k_a2 _ _ h4m
  replace ht75 := k_a2 _ _ ht75
  replace hL := k_a2 _ _ hL
  replace hc := k_a2 _ _ hc
  replace hct := k_a2 _ _ hct
  walk_at "go"
  intro a3 h7 k_a3 ha3 ha30
  have za3 := none_keep kk ha30
  replace kk := kk.trans k_a3
  replace h79 := k_a3 _ _ h79
  replace h3m := k_a3 _ _ h3m
  replace h4m := k_a3 _ _ h4m
  replace ht75 := k_a3 _ _ ht75
  replace hL := k_a3 _ _ hL
  replace hc := k_a3 _ _ hc
  replace hct := k_a3 _ _ hct
  walk_at "go"
  intro a4 h8 k_a4 ha4 ha40
  have za4 := none_keep kk ha40
  replace kk := kk.trans k_a4
  replace h79 := k_a4 _ _ h79
  replace h3m := k_a4 _ _ h3m
  replace h4m := k_a4 _ _ h4m
  replace ht75 := k_a4 _ _ ht75
  replace hL := k_a4 _ _ hL
  replace hc := k_a4 _ _ hc
  replace hct := k_a4 _ _ hct
  walk_at "go"
  intro a5 h9 k_a5 ha5 ha50
  have za5 := none_keep kk ha50
  replace kk := kk.trans k_a5
  replace h79 := k_a5 _ _ h79
  replace h3m := k_a5 _ _ h3m
  replace h4m := k_a5 _ _ h4m
  replace ht75 := k_a5 _ _ ht75
  replace hL := k_a5 _ _ hL
  replace hc := k_a5 _ _ hc
  replace hct := k_a5 _ _ hct
  walk_at "go"
  intro cc h10 k_cc hcc hcc0
  have zcc := none_keep kk hcc0
  replace kk := kk.trans k_cc
  have z75 : cc ≠ 75 := (ne_none ht75 hcc0).symm
  replace h79 := k_cc _ _ h79
  replace h3m := k_cc _ _ h3m
  replace h4m := k_cc _ _ h4m
  replace ht75 := k_cc _ _ ht75
  replace hL := k_cc _ _ hL
  replace hc := k_cc _ _ hc
  replace hct := k_cc _ _ hct
  walk_at "go"
  replace hcc : h10.get? cc = some { cls := .type "code", data := .fields #[.str (Str.ofString "_law_asked") k0, .str (Str.ofString "_law_comparison.<locals>._law_asked") (k0 + 1), .str (Str.ofString "/claim/cut.py") (k0 + 1 + 1), .int 96 0, .int 2 0, .int 0 0, .int 0 0, .int 19 0, .ref a1, .bool true, .int 181 0, .ref a2, .none, .ref a3, .ref a4, .ref a5, .int (k0 + 1 + 1 + 1 + 1 + 1 + 1 + 1 + 1) 0, .int 96 0, .str (Str.ofString "/claim/cut.py") (k0 + 1 + 1 + 1 + 1 + 1 + 1 + 1 + 1 + 1)] } := hcc.trans (congrArg some (by kernel_rfl))
  intro h11 sb t11
  have kB : KeepB 75 h0 h11 := fun b o e n => (sb.2 b n).trans (kk b o e)
  have n75 : ∀ {x : Addr}, h0.get? x = none → x ≠ 75 := fun z e => by rw [e, h75] at z; cases z
  replace h3m := but_ne sb (by decide) h3m
  replace h4m := but_ne sb (by decide) h4m
  replace hL := but_ne sb (n75 zL) hL
  replace hc := but_ne sb (n75 zc) hc
  replace hcc := but_ne sb z75 hcc
  have h79' := but_ne sb (by decide) h79
  replace ht75 : h11.get? 75 = some ⟨.none, none, .fields #[.int 96 0, .int 4 0, .ref cc], #[]⟩ := t11.trans (congrArg some (by kernel_rfl))
  clear t11 sb
  walk_at "go"
  intro q h12 k12 hq hq0
  have zq : h0.get? q = none := by
    cases e : h0.get? q with
    | none => rfl
    | some o =>
      by_cases n : q = 75
      · rw [n, ht75] at hq0; cases hq0
      · rw [kB _ _ e n] at hq0; cases hq0
  have nqL : q ≠ L := (ne_none hL hq0).symm
  replace hq : h12.get? q = some { cls := .type "function", data := .func (fdQ w [(Str.ofString "rules", c)] cc (.ref ct)) } := hq.trans (congrArg some (by kernel_rfl))
  replace hL := k12 _ _ hL
  replace ht75 := k12 _ _ ht75
  replace hc := k12 _ _ hc
  replace hcc := k12 _ _ hcc
  walk_at "go"
  refine m_update hL (by rfl) ?_
  intro h13 sb hL2
  replace ht75 := but_ne sb (n75 zL).symm ht75
  replace hq := but_ne sb nqL hq
  replace hc := but_ne sb (ne_cls hc hL rfl rfl (by decide)) hc
  replace hcc := but_ne sb (ne_cls hcc hL rfl rfl (by decide)) hcc
  obtain ⟨ehK, etK, hL⟩ : ∃ hx tx, h13.get? L = some { cls := .type "frame", data := .dict #[⟨hx, .str (Str.ofString "_law_asked") tx, .ref q⟩] 1 } := ⟨_, _, hL2⟩
  walk_at "go"
  exact ret q h13 _ (fun b o e n => (sb.2 b (ne_none e zL)).trans (k12 _ _ (kB b o e n))) ⟨_, ht75⟩ zq ⟨c, cc, ct, a1, a2, a3, a4, a5, _, _, _, _, _, hq, hcc, hc⟩
end Mine
end
section
open PySem PySem.W PyProof.Rows PySem.Calls PySem.Spec
set_option Elab.async false
set_option maxRecDepth 100000
set_option maxHeartbeats 8000000
set_option linter.unusedVariables false
set_option rowWalk.seconds 0
namespace Mine
theorem start_M12 : True := by w_top off; trivial
/-- a def with a closure -/
theorem enterX {w : World} {s : Shared} {dp un : Nat} {fr : Option (List Env)} {gd : Option (List Code)} {f : Addr} {args : List Value} {Q E : Value → Shared → Prop}
    {name qual : Str} {params : Arguments} {body : List Stmt} {scope : Scope} {cl : List (Str × Addr)} {dV kV doc pm cdv ct oc : Value} {an od : Option Addr} {osl : Array (Option Value)} {binds : List (Str × Value)} {p : Program} {loose : List Str} {mean : ExcName → Option Value} {mg mb : Str → Option Value}
    (T : Top p loose mean mg mb s.heap)
    (ho : s.heap.get? f = some ⟨oc, od, .func (fnX name qual params body scope cl dV kV doc pm an cdv ct), osl⟩) (hcd : s.heap.CodeRec cdv qual) (hroom : dp < recursionLimit)
    (hbind : BindsTo s (fnX name qual params body scope cl dV kV doc pm an cdv ct) ⟨args, []⟩ binds) (hloc : ∀ y ∈ binds, scope.names.lookup y.1 = some .local)
    (hcell : ∀ x ∈ scope.names, x.2 ≠ .cell) (hco : scope.isCoroutine = false) (hgen : scope.isGenerator = false) (hk : scope.kind = .function)
    (h : ∀ L h₁ tk, Fr s.heap L h₁ (fun y => binds.reverse.lookup y) → News s.heap L h₁ [] →
      wpAny (model Challenge.rw_mq0096_01.row.prog w) (ard (dp + 1) (un + 3) (fr.map (envX qual scope L f cdv cl :: ·)) gd) (execs body (envX qual scope L f cdv cl))
        (fun fl s' => Back (fun r s' => match r with | .ok (.ret v) => Q v s' | .ok _ => False | .error e => E e s') (match fl with | .ret v => v | _ => .none) s')
        (fun e s' => wpAny (model Challenge.rw_mq0096_01.row.prog w) (ard (dp + 1) (un + 3) (fr.map (envX qual scope L f cdv cl :: ·)) gd) (leaving (envX qual scope L f cdv cl) e) (fun _ s'' => E e s'') (fun e' s'' => E e' s'') s')
        { s with heap := h₁, toks := tk }) :
    wpAny (model Challenge.rw_mq0096_01.row.prog w) (ard dp un fr gd) (call (.ref f) args) Q E s := by
  refine wpAny_call ?_
  refine codeAny_call_def (fd := fnX name qual params body scope cl dV kV doc pm an cdv ct) (body := body) (binds := binds) hroom ho rfl T.nolimit hcd rfl hbind hcell hloc (fun h₁ hns hk₁ => ?_) hco hgen hk
  exact wpAny_mono (h s.heap.objs.size h₁ _ ⟨hns, hk₁, Nat.le_refl _⟩ News.nil) (fun _ _ y => y) fun _ _ y => y
section
variable {prog : Program} {w : World} {A : Around} {E : Value → Shared → Prop} {s : Shared} {env : Env} {h₀ : Heap} {target : PySem.Expr} {body : List Stmt} {Q : Flow → Shared → Prop}
/-- the end of a turn that leaves nothing -/
def TTurn (h₀ : Heap) (L I : Addr) (oI : Obj) (J : (Str → Option Value) → Prop) (s₁ : Shared) (Q : Flow → Shared → Prop) (f : Flow) (s₂ : Shared) : Prop :=
  match f with
  | .ret v => Q (.ret v) s₂
  | .brk => Q .next s₂
  | _ => ∃ h' tk m', s₂ = { s₁ with heap := h', toks := tk } ∧ Fr h₀ L h' m' ∧ News h₀ L h' [(I, oI)] ∧ J m'
theorem turns_base {l : Addr} {its : Array Value} {m₀ : Str → Option Value} (J : Nat → (Str → Option Value) → Prop) (F : Fr h₀ env.locals s.heap m₀) (hl : h₀.IsList l its) (hh : A.handled = none) (hj : J 0 m₀)
    (turn : ∀ i v m₁ h tk I oI, i < its.size → its[i]? = some v → J i m₁ → Fr h₀ env.locals h m₁ → News h₀ env.locals h [(I, oI)] →
      wpAny (model prog w) A (assign target env v) (fun _ s₃ => wpAny (model prog w) A (execs body env) (TTurn h₀ env.locals I oI (J (i + 1)) { s with heap := h, toks := tk } Q) E s₃) E { s with heap := h, toks := tk })
    (done : ∀ m₁ h tk, J its.size m₁ → Fr h₀ env.locals h m₁ → Q .next { s with heap := h, toks := tk }) :
    wpAny (model prog w) A (pyIter (.ref l)) (fun it s₂ => TurnsAt prog w A h₀ env target body Q E it s₂) E s := by
  have hls : s.heap.IsList l its := hl.at fun o e => F.keep _ _ e
  have hlt : l < s.heap.objs.size := by obtain ⟨_, e, _⟩ := hls; exact Heap.lt_size e
  have hlL : l ≠ env.locals := by
    obtain ⟨o, ho, _⟩ := hl
    exact Nat.ne_of_lt (Nat.lt_of_lt_of_le (Heap.lt_size ho) F.above)
  refine wpAny_pyIter_list hls ?_
  have hLlt : env.locals < s.heap.objs.size := F.ns.lt
  refine ⟨s.heap.objs.size, [s.heap.objs.size, l], [s.heap.objs.size], its.size, _, _, _, m₀, [], fun i m n => n = [] ∧ J i m, rfl,
    KTurns.ofWalks (Walks.list hh s.heap.objs.size l (Nat.ne_of_lt hlt) its) (fun i v s Q E st q => letGo_listiter st.1 q), ?_, ?_, ?_, ?_, F.push _, fun p hp => (nomatch hp), ⟨rfl, hj⟩, ?_, ?_⟩
  · intro hm
    rcases List.mem_cons.mp hm with e | hm
    · exact absurd hLlt (e ▸ Nat.lt_irrefl _)
    · exact hlL (List.mem_singleton.mp hm).symm
  · intro b hb; rw [List.mem_singleton.mp hb]; exact next_is_new F
  · intro p hp; cases hp
  · exact ⟨⟨_, Heap.get?_push_size _ rfl, rfl, rfl⟩, hls.at fun o e => Heap.get?_push_of_some _ e⟩
  · rintro i v m₁ news₁ h tk own hi hP ⟨rfl, hJ⟩ hoff hown hownh hall hst F₁ N₁
    obtain ⟨oI, hoI, _⟩ := hst.1
    have hmem : (s.heap.objs.size, oI) ∈ own := hall _ (.head _) (next_is_new F) oI hoI
    have honly : ∀ p ∈ own, p = (s.heap.objs.size, oI) := by
      intro p hp
      rcases List.mem_cons.mp (hown p hp) with e | e
      · have h1 := hownh p hp
        rw [e, hoI] at h1
        exact Prod.ext e (Option.some.inj h1).symm
      · have e' := List.mem_singleton.mp e
        have := (N₁ p (List.mem_append_left _ hp)).2.2
        obtain ⟨o, ho, _⟩ := hl
        rw [e', ho] at this; cases this
    have N₂ : News h₀ env.locals h [(s.heap.objs.size, oI)] := fun p hp => by rw [List.mem_singleton.mp hp]; exact N₁ _ (List.mem_append_left _ hmem)
    refine wpAny_mono (turn i v m₁ h tk s.heap.objs.size oI hi hP hJ F₁ N₂) (fun _ s₃ q => wpAny_mono q (fun f s₄ q => ?_) fun _ _ e => e) fun _ _ e => e
    have fin : (∃ h' tk' m', s₄ = { s with heap := h', toks := tk' } ∧ Fr h₀ env.locals h' m' ∧ News h₀ env.locals h' [(s.heap.objs.size, oI)] ∧ J (i + 1) m') → LoopStepU h₀ env.locals [s.heap.objs.size] own (fun m n => n = [] ∧ J (i + 1) m) { s with heap := h, toks := tk } .next s₄ := by
      rintro ⟨h', tk', m', e, F', N', hj'⟩
      refine ⟨rfl, h', tk', m', [], e, F', ?_, fun p hp => (nomatch hp), rfl, hj'⟩
      intro p hp
      rw [List.append_nil] at hp
      rw [honly p hp]; exact N' _ (.head _)
    cases f with
    | ret v => exact .ret q
    | brk => exact .brk q
    | next => exact .next (fin q)
    | cont => exact .cont (fin q)
  · rintro h' tk m' news' F' N' _ ⟨rfl, hJ⟩
    exact done m' h' tk hJ F'
theorem turns_baseM {l : Addr} {its : Array Value} {m₀ : Str → Option Value} (xs : List Str) (J : Nat → Prop) (F : Fr h₀ env.locals s.heap m₀) (hl : h₀.IsList l its) (hh : A.handled = none) (hj : J 0)
    (turn : ∀ i v u h tk I oI, i < its.size → its[i]? = some v → J i → Fr h₀ env.locals h (mask xs u m₀) → News h₀ env.locals h [(I, oI)] →
      wpAny (model prog w) A (assign target env v) (fun _ s₃ => wpAny (model prog w) A (execs body env) (TTurn h₀ env.locals I oI (fun m' => (∀ y, y ∉ xs → m' y = m₀ y) ∧ J (i + 1)) { s with heap := h, toks := tk } Q) E s₃) E { s with heap := h, toks := tk })
    (done : ∀ u h tk, J its.size → Fr h₀ env.locals h (mask xs u m₀) → Q .next { s with heap := h, toks := tk }) :
    wpAny (model prog w) A (pyIter (.ref l)) (fun it s₂ => TurnsAt prog w A h₀ env target body Q E it s₂) E s := by
  refine turns_base (fun i m' => (∀ y, y ∉ xs → m' y = m₀ y) ∧ J i) F hl hh ⟨fun _ _ => rfl, hj⟩ ?_ ?_
  · rintro i v m₁ h tk I oI hi hv ⟨hm, hJ⟩ F₁ N₁
    rw [mask_of hm] at F₁
    exact turn i v m₁ h tk I oI hi hv hJ F₁ N₁
  · rintro m₁ h tk ⟨hm, hJ⟩ F₁
    rw [mask_of hm] at F₁
    exact done m₁ h tk hJ F₁
end
section
variable {prog : Program} {w : World} {A : Around} {E : Value → Shared → Prop} {s : Shared} {h₀ : Heap} {L a : Addr} {m : Str → Option Value} {cn : Str} {cs : Scope} {ccd : Value} {cl : List (Str × Addr)} {x : Str} {v : Value} {c : Addr} {value slice : PySem.Expr}
theorem nameX_base {pos : Pos} {Q : Value → Shared → Prop} {oc : Value} {od : Option Addr} {osl : Array (Option Value)} (F : Fr h₀ L s.heap m) (hc : cl.lookup x = some c) (ho : h₀.get? c = some ⟨oc, od, .cell (some v), osl⟩) (h : Q v s)
    (hk : cs.kind = .function := by rfl) (hx : (envX cn cs L a ccd cl).kindOf x = some .free := by rfl) (hn : (x == ("__classdict__" : Str)) = false := by decide) (hd : (x == ("__debug__" : Str)) = false := by decide) :
    wpAny (model prog w) A (eval (.Name x pos) (envX cn cs L a ccd cl)) Q E s :=
  wpAny_Name (wpAny_loadName_free hk hx hc ⟨_, F.keep _ _ ho, rfl⟩ h hn) hd
end
local macro_rules | `(tactic| kun_lst) => `(tactic| (refine' base_list ?f1 ?f2; (case f1 => k_asm); (case f2 => k_asm)))
local macro_rules | `(tactic| walk_at "eval Name") => `(tactic| (k_here; k_dflt (refine' nameX_base ?k1 ?k2 ?k3 ?_ ?k4 ?k5 ?k6 ?k7; (case k1 => k_asm); (case k2 => exact rfl); (case k3 => assumption); (case k4 => exact rfl); (case k5 => exact rfl); (case k6 => decide); (case k7 => decide))))
local macro_rules | `(tactic| walk_at "mine steps") => `(tactic| repeat' ((fail_if_success (with_reducible show wpAny _ _ (pyIter _) _ _ _)); (fail_if_success (with_reducible show wpAny _ _ (exec (Stmt.For _ _ _ _ _) _) _ _ _)); (first | (k_unfold; (try dsimp only)) | (k_end; wrow_close) | walk1 | (dsimp only; walk1))))
def Ask (b : Bool) (h : Heap) (g : Array GenState) (d : Drawn) (os : OsState) (v : Value) (s' : Shared) : Prop := ∃ n t h' tk, v = .int n t ∧ decide (n < 0) = b ∧ s' = ⟨h', g, d, tk, os⟩ ∧ Keep h h'
def at3 (x a b c : Int) : Int := if x = 0 then a else if x = 1 then b else c
/-- what the comparison gives, by its sign -/
def less3 (x0 x1 x2 g0 g1 g2 : Int) (i j k i' j' k' : Int) : Bool :=
  if at3 x0 i j k ≠ at3 x0 i' j' k' then decide ((at3 x0 i j k - at3 x0 i' j' k') * g0 < 0)
  else if at3 x1 i j k ≠ at3 x1 i' j' k' then decide ((at3 x1 i j k - at3 x1 i' j' k') * g1 < 0)
  else if at3 x2 i j k ≠ at3 x2 i' j' k' then decide ((at3 x2 i j k - at3 x2 i' j' k') * g2 < 0)
  else false
theorem at3_getD {x i j k : Int} (h0 : 0 ≤ x) (h3 : x < 3) : [i, j, k].getD x.toNat 0 = at3 x i j k := by
  obtain rfl | rfl | rfl : x = 0 ∨ x = 1 ∨ x = 2 := by omega
  · rfl
  · rfl
  · rfl
/-- the turn's pair -/
def Pr (x0 x1 x2 g0 g1 g2 : Int) (n : Nat) (x g : Int) : Prop := (n = 0 ∧ x = x0 ∧ g = g0) ∨ (n = 1 ∧ x = x1 ∧ g = g1) ∨ (n = 2 ∧ x = x2 ∧ g = g2)
def Eqs (x0 x1 x2 i j k i' j' k' : Int) (n : Nat) : Prop := (1 ≤ n → at3 x0 i j k = at3 x0 i' j' k') ∧ (2 ≤ n → at3 x1 i j k = at3 x1 i' j' k') ∧ (3 ≤ n → at3 x2 i j k = at3 x2 i' j' k')
theorem less_ret {x0 x1 x2 g0 g1 g2 i j k i' j' k' x g : Int} {n : Nat} (E : Eqs x0 x1 x2 i j k i' j' k' n) (P : Pr x0 x1 x2 g0 g1 g2 n x g) (ne : ¬ at3 x i j k = at3 x i' j' k') :
    decide ((at3 x i j k - at3 x i' j' k') * g < 0) = less3 x0 x1 x2 g0 g1 g2 i j k i' j' k' := by
  obtain ⟨e0, e1, e2⟩ := E
  unfold less3
  rcases P with ⟨rfl, rfl, rfl⟩ | ⟨rfl, rfl, rfl⟩ | ⟨rfl, rfl, rfl⟩
  · rw [if_pos ne]
  · rw [if_neg (not_not_intro (e0 (by decide))), if_pos ne]
  · rw [if_neg (not_not_intro (e0 (by decide))), if_neg (not_not_intro (e1 (by decide))), if_pos ne]
theorem less_end {x0 x1 x2 g0 g1 g2 i j k i' j' k' : Int} (E : Eqs x0 x1 x2 i j k i' j' k' 3) : decide ((0 : Int) < 0) = less3 x0 x1 x2 g0 g1 g2 i j k i' j' k' := by
  obtain ⟨e0, e1, e2⟩ := E
  unfold less3
  rw [if_neg (not_not_intro (e0 (by decide))), if_neg (not_not_intro (e1 (by decide))), if_neg (not_not_intro (e2 (by decide)))]; rfl
theorem eqs_next {x0 x1 x2 g0 g1 g2 i j k i' j' k' x g : Int} {n : Nat} (E : Eqs x0 x1 x2 i j k i' j' k' n) (P : Pr x0 x1 x2 g0 g1 g2 n x g) (e : at3 x i j k = at3 x i' j' k') : Eqs x0 x1 x2 i j k i' j' k' (n + 1) := by
  obtain ⟨e0, e1, e2⟩ := E
  rcases P with ⟨rfl, rfl, rfl⟩ | ⟨rfl, rfl, rfl⟩ | ⟨rfl, rfl, rfl⟩
  · exact ⟨fun _ => e, fun h => by omega, fun h => by omega⟩
  · exact ⟨fun _ => e0 (by decide), fun _ => e, fun h => by omega⟩
  · exact ⟨fun _ => e0 (by decide), fun _ => e1 (by decide), fun _ => e⟩
def In3 (x : Int) : Prop := 0 ≤ x ∧ x < 3
def In1 (g : Int) : Prop := -1 ≤ g ∧ g ≤ 1
theorem the_pair {h : Heap} {r0 r1 r2 : Addr} {x0 x1 x2 g0 g1 g2 : Int} {u0 u1 u2 v0 v1 v2 : Tok} (hr0 : h.IsList r0 #[.int x0 u0, .int g0 v0]) (hr1 : h.IsList r1 #[.int x1 u1, .int g1 v1]) (hr2 : h.IsList r2 #[.int x2 u2, .int g2 v2])
    (b0 : In3 x0) (b1 : In3 x1) (b2 : In3 x2) (c0 : In1 g0) (c1 : In1 g1) (c2 : In1 g2) {n : Nat} {v : Value} (hv : (#[Value.ref r0, .ref r1, .ref r2])[n]? = some v) :
    ∃ r x g u' v', v = Value.ref r ∧ h.IsList r #[.int x u', .int g v'] ∧ 0 ≤ x ∧ x < 3 ∧ -1 ≤ g ∧ g ≤ 1 ∧ Pr x0 x1 x2 g0 g1 g2 n x g ∧ n < 3 := by
  match n, hv with
  | 0, hv => cases hv; exact ⟨_, _, _, _, _, rfl, hr0, b0.1, b0.2, c0.1, c0.2, .inl ⟨rfl, rfl, rfl⟩, by decide⟩
  | 1, hv => cases hv; exact ⟨_, _, _, _, _, rfl, hr1, b1.1, b1.2, c1.1, c1.2, .inr (.inl ⟨rfl, rfl, rfl⟩), by decide⟩
  | 2, hv => cases hv; exact ⟨_, _, _, _, _, rfl, hr2, b2.1, b2.2, c2.1, c2.2, .inr (.inr ⟨rfl, rfl, rfl⟩), by decide⟩
  | n + 3, hv => simp at hv
local macro_rules | `(tactic| walk_at "mine end") => `(tactic| (repeat (first | k_unfold | (dsimp only) | (dsimp only [qk]))))
theorem qask (w : World) {s : Shared} {dp un : Nat} {fr : Option (List Env)} {gd : Option (List Code)} {Q E : Value → Shared → Prop} {q rl r0 r1 r2 l1 l2 : Addr} {x0 x1 x2 g0 g1 g2 i j k i' j' k' : Int} {u0 u1 u2 v0 v1 v2 t1 t2 t3 t4 t5 t6 : Tok}
    (S : Std w s.heap) (R : QReady w s.heap q rl) (hdp : dp + 40 < recursionLimit) (hun : un + 400 < cLine)
    (hrl : s.heap.IsList rl #[.ref r0, .ref r1, .ref r2]) (hr0 : s.heap.IsList r0 #[.int x0 u0, .int g0 v0]) (hr1 : s.heap.IsList r1 #[.int x1 u1, .int g1 v1]) (hr2 : s.heap.IsList r2 #[.int x2 u2, .int g2 v2])
    (hl1 : s.heap.IsList l1 #[.int i t1, .int j t2, .int k t3]) (hl2 : s.heap.IsList l2 #[.int i' t4, .int j' t5, .int k' t6])
    (b0 : In3 x0) (b1 : In3 x1) (b2 : In3 x2) (c0 : In1 g0) (c1 : In1 g1) (c2 : In1 g2)
    (ret : ∀ n t h' tk', Keep s.heap h' → decide (n < 0) = less3 x0 x1 x2 g0 g1 g2 i j k i' j' k' → Q (.int n t) { s with heap := h', toks := tk' }) :
    wpAny (model Challenge.rw_mq0096_01.row.prog w) (ard dp un fr gd) (call (.ref q) [.ref l1, .ref l2]) Q E s := by
  obtain ⟨X, pp, loose, mean, mg, mb, T⟩ := S
  obtain ⟨c, cc, ct, y1, y2, y3, y4, y5, z0, z1, z2, z4, z3, hq, hcc, hc⟩ := R
  revert X
  k_fill
  intro X
  refine enterX T (hq.trans (by with_unfolding_all rfl)) ⟨cc, _, _, z1, rfl, hcc, rfl, rfl⟩ (by omega) (BindsTo.of_eq rfl) (locs rfl) (by decide) rfl rfl rfl ?_
  k_whole
  intro L' h' tk F' N'
  (try dsimp only)
  (try k_fold)
  walk_at "mine steps"
  rename Fr _ _ _ _ => FF
  refine For_turns FF ?_
  walk_at "mine steps"
  refine turns_baseM [Str.ofString "axis", Str.ofString "sign"] (Eqs x0 x1 x2 i j k i' j' k') (by assumption) hrl rfl ⟨by omega, by omega, by omega⟩ ?turn ?done
  case done =>
    rintro u h tk eqs F1
    walk_at "mine steps"
    walk_at "mine end"
    unfold Back
    dsimp only
    exact ret _ _ _ _ F1.keep (less_end eqs)
  case turn =>
    rintro n v u h tk I oI hn hv eqs F1 N1
    obtain ⟨r, x, g, u', v', rfl, hr, hx0, hx3, hg, hg', pr, hn3⟩ := the_pair hr0 hr1 hr2 b0 b1 b2 c0 c1 c2 hv
    (try dsimp only)
    (try k_fold)
    walk_at "mine steps"
    · walk_at "mine end"
      (show Q (Value.int (([i, j, k].getD x.toNat 0 - [i', j', k'].getD x.toNat 0) * g) _) _)
      rename List.getD _ _ _ ≠ _ => ne
      rw [at3_getD hx0 hx3, at3_getD hx0 hx3] at ne ⊢
      exact ret _ _ _ _ (Fr.keep (by assumption)) (less_ret eqs pr ne)
    · walk_at "mine end"
      rename List.getD _ _ _ = _ => ne
      rw [at3_getD hx0 hx3, at3_getD hx0 hx3] at ne
      exact ⟨_, _, _, rfl, by assumption, by assumption, offs (by decide) (offs (by decide) off_refl), eqs_next eqs pr ne⟩
end Mine
end
section
open PySem PySem.W PySem.W.X PyProof.Rows PySem.Calls PySem.Spec
set_option Elab.async false
set_option maxRecDepth 100000
set_option maxHeartbeats 1000000
set_option rowWalk.seconds 0
namespace Mine
theorem start_M13 : True := by w_top off; trivial
local macro_rules | `(tactic| dsimp only) => `(tactic| skip)
local macro_rules | `(tactic| walk_at "go") => `(tactic| repeat (first
  | with_reducible refine m_stopN ?_
  | with_reducible refine m_alloc rfl ?_
  | with_reducible refine m_update (by assumption) rfl ?_
  | with_reducible refine m_fresh ?_
  | with_reducible refine m_try ?_
  | with_reducible refine r_isType ?_
  | with_reducible refine r_enter (by assumption) (by kernel_rfl) ?_
  | with_reducible refine r_room (by kernel_rfl) ?_
  | with_reducible refine x_at ?_
  | with_reducible refine wpAny_standAt ?_
  | lk))

abbrev A6 : Around := { handled := none, depth := 410, frames := none, guards := none, units := 50 }
theorem m_either {α : Type} {M : Model} {A : Around} {c : Prop} [Decidable c] {X : Sem α} {k : Value → Sem α} {Q : α → Shared → Prop} {E : Value → Shared → Prop} {s : Shared} (x : wpAny M A X Q (fun _ _ => False) s) : wpAny M A (if c then X else X.tryCatch k) Q E s := by
  split
  · exact wpAny_mono x (fun _ _ z => z) fun _ _ z => z.elim
  · exact m_try (wpAny_mono x (fun _ _ z => z) fun _ _ z => z.elim)
def Gv (x : Value) (h : Heap) (g : Array GenState) (d : Drawn) (os : OsState) (v : Flow) (s' : Shared) : Prop := ∃ h' tk, v = .ret x ∧ s' = ⟨h', g, d, tk, os⟩ ∧ Keep h h'
local macro_rules | `(tactic| x_close) => `(tactic| first | exact ⟨_, _, rfl, rfl, mem_keep (by assumption)⟩ | exact ⟨_, _, rfl, rfl, Keep.rfl'⟩)
def Gb (n : Int) (h : Heap) (g : Array GenState) (d : Drawn) (os : OsState) (v : Flow) (s' : Shared) : Prop := ∃ h' tk r, v = .ret (.bool r) ∧ r = decide (n < 0) ∧ s' = ⟨h', g, d, tk, os⟩ ∧ Keep h h'
local macro_rules | `(tactic| x_close) => `(tactic| first | exact ⟨_, _, rfl, rfl, mem_keep (by assumption)⟩ | exact ⟨_, _, rfl, rfl, Keep.rfl'⟩ | exact ⟨_, _, _, rfl, rfl, rfl, Keep.rfl'⟩ | exact ⟨_, _, _, rfl, (decide_eq_true (by assumption)).symm, rfl, Keep.rfl'⟩ | exact ⟨_, _, _, rfl, (decide_eq_false (by assumption)).symm, rfl, Keep.rfl'⟩)
theorem raw2 {α : Type} {M : Model} {A : Around} {s : Shared} {f : Value} {pos : List Value} {g : Bool} {l : List Value} {k : Result → Sem α} {Q : Value → Shared → Prop} {Q' : α → Shared → Prop} {E' : Value → Shared → Prop} (x : wpAny M A (call f pos []) Q (fun _ _ => False) s)
    (q : ∀ v s', Q v s' → wpAny M A (k (.ok (.ret v))) Q' E' s') : wpAny M A (Sem.call (.call f ⟨pos, []⟩) none g l k) Q' E' s := fun Γ p hΓ => by
  have z := x Γ p hΓ
  rw [Sem.wp_cmd_call] at z
  show Sem.wp M Γ _ _ _ p s
  rw [Sem.wp_call]
  refine wpCode_mono (fun r s' hr => ?_) z
  cases r with
  | error e => exact hr.elim
  | ok f => cases f with
    | ret v => exact q v s' hr Γ p hΓ
    | _ => exact hr.elim
noncomputable def envL (w : World) (L c f cc : Addr) : Env := { scope := (fdK w 3 (Str.ofString "cmp_to_key.<locals>.K.__lt__") [(Str.ofString "mycmp", c)] cc .none).scope, locals := L, globals := 3, cells := [(Str.ofString "mycmp", c)], qual := Str.ofString "cmp_to_key.<locals>.K.__lt__.<locals>.", func := some f, code := .ref cc, frame := some L, builtins := builtinsNs }
noncomputable def bodyL (w : World) : List Stmt := match (fdK w 3 (Str.ofString "cmp_to_key.<locals>.K.__lt__") [] 0 .none).body with | .stmts b => b | _ => []
theorem klt {w : World} {h : Heap} {g : Array GenState} {dr : Drawn} {tk : Nat} {os : OsState} {C q l1 l2 a b d1 d2 : Addr} {bb : Bool} (S : Std w h) (R : KReady w h C q) {eq : Option Addr} {dq : FuncData} {sq : Array (Option Value)} (hq : h.get? q = some ⟨.type "function", eq, .func dq, sq⟩)
   (ha : h.get? a = some (keyObj C d1 (.ref l1))) (hb : h.get? b = some (keyObj C d2 (.ref l2)))
   (qc : ∀ h' tk', Keep h h' → wpAny (model Challenge.rw_mq0096_01.row.prog w) A5 (call (.ref q) [.ref l1, .ref l2]) (Ask bb h' g dr os) (fun _ _ => False) ⟨h', g, dr, tk', os⟩) :
   wpAny (model Challenge.rw_mq0096_01.row.prog w) A6 (keyLt' oneType' (.ref a) (.ref b)) (fun r s' => r = bb ∧ ∃ h' tk', s' = ⟨h', g, dr, tk', os⟩ ∧ Keep h h') (fun _ _ => False) ⟨h, g, dr, tk, os⟩ := by
  obtain ⟨⟨bT, d, md, sl, f0, f1, f2, f3, f4, f5, st, c, cc0, cc1, ct1, y01, y02, y03, y04, y05, y11, y12, y13, y14, y15, t, t4, u0, u2, tm, z00, z01, z02, z04, z10, z11, z12, z14, et0, et1, et2, et3, et4, et5, et6, et7, et8, et9, et10, et11, et12, z03, z13, eh0, eh1, eh2, eh3, eh4, eh5, eh6, eh7, eh8, eh9, eh10, eh11, eh12⟩, hC, hd', hmd, hf0, hcc0, hf1, hcc1, hc⟩ := R
  obtain ⟨X, p, loose, mean, mg, mb, T⟩ := S
  have nl := T.nolimit
  walk_at "go"
  refine m_either ?_
  walk_at "go"
  refine x_call ?_ (by intro h; cases h)
  refine codeAny_of_tree ?_
  (show wpAny _ _ (callAny (.ref f1) _) _ _ _)
  walk_at "go"
  intro L h1 kL hL hL0
  have naL : a ≠ L := ne_none ha hL0
  have nbL : b ≠ L := ne_none hb hL0
  have nCL : C ≠ L := ne_none hC hL0
  have nddL : d ≠ L := ne_none hd' hL0
  have nmdL : md ≠ L := ne_none hmd hL0
  have nf1L : f1 ≠ L := ne_none hf1 hL0
  have ncc1L : cc1 ≠ L := ne_none hcc1 hL0
  have ncL : c ≠ L := ne_none hc hL0
  have kk := kL
  replace ha := kL _ _ ha
  replace hb := kL _ _ hb
  replace hC := kL _ _ hC
  replace hd' := kL _ _ hd'
  replace hmd := kL _ _ hmd
  replace hf1 := kL _ _ hf1
  replace hcc1 := kL _ _ hcc1
  replace hc := kL _ _ hc
  walk_at "go"
  intro h2 sb hL2
  replace ha := but_ne sb naL ha
  replace hb := but_ne sb nbL hb
  replace hC := but_ne sb nCL hC
  replace hd' := but_ne sb nddL hd'
  replace hmd := but_ne sb nmdL hmd
  replace hf1 := but_ne sb nf1L hf1
  replace hcc1 := but_ne sb ncc1L hcc1
  replace hc := but_ne sb ncL hc
  replace kk := keep_butM kk sb hL0
  obtain ⟨eL1, eT1, hL⟩ : ∃ hx tx, h2.get? L = some { cls := .type "frame", data := .dict #[⟨hx, .str (Str.ofString "self") tx, .ref a⟩] 1 } := ⟨_, _, hL2⟩
  clear hL2 sb
  walk_at "go"
  intro h3 sb hL3
  replace ha := but_ne sb naL ha
  replace hb := but_ne sb nbL hb
  replace hC := but_ne sb nCL hC
  replace hd' := but_ne sb nddL hd'
  replace hmd := but_ne sb nmdL hmd
  replace hf1 := but_ne sb nf1L hf1
  replace hcc1 := but_ne sb ncc1L hcc1
  replace hc := but_ne sb ncL hc
  replace kk := keep_butM kk sb hL0
  obtain ⟨eL2, eT2, hL⟩ : ∃ hx tx, h3.get? L = some { cls := .type "frame", data := .dict #[⟨eL1, .str (Str.ofString "self") eT1, .ref a⟩, ⟨hx, .str (Str.ofString "other") tx, .ref b⟩] 2 } := ⟨_, _, hL3⟩
  clear hL3 sb
  replace nl := T.nolimit.keeps kk
  walk_at "go"
  refine And.intro (by kernel_rfl) ?_
  (show codeAny _ _ (Code.func (bodyL w) (envL w L c f1 cc1)) _ _)
  refine codeAny_func ?_
  walk_at "go"
  replace ha : h3.get? a = some { cls := .ref C, dict := some d1, data := .plain, slots := #[some (.ref l1)] } := ha
  replace hb : h3.get? b = some { cls := .ref C, dict := some d2, data := .plain, slots := #[some (.ref l2)] } := hb
  have KX1 := X.keeps kk
  refine x_then (Gv (.ref l1) _ g dr os) (by x_run) ?_
  rintro v s' ⟨g1, tg1, rfl, rfl, kg1⟩
  replace ha := kg1 _ _ ha
  replace hb := kg1 _ _ hb
  replace hC := kg1 _ _ hC
  replace hd' := kg1 _ _ hd'
  replace hmd := kg1 _ _ hmd
  replace hc := kg1 _ _ hc
  replace hL := kg1 _ _ hL
  replace kk := kk.trans kg1
  clear KX1
  walk_at "go"
  have KX2 := X.keeps kk
  refine x_then (Gv (.ref l2) _ g dr os) (by x_run) ?_
  rintro v s' ⟨g2, tg2, rfl, rfl, kg2⟩
  replace ha := kg2 _ _ ha
  replace hb := kg2 _ _ hb
  replace hC := kg2 _ _ hC
  replace hd' := kg2 _ _ hd'
  replace hmd := kg2 _ _ hmd
  replace hc := kg2 _ _ hc
  replace hL := kg2 _ _ hL
  replace kk := kk.trans kg2
  clear KX2
  have hq' := kk _ _ hq
  walk_at "go"
  (show wpAny _ _ (Sem.call (Code.call (Value.ref q) ⟨[.ref l1, .ref l2], []⟩) _ _ _ _) _ _ _)
  refine raw2 (wk (B := A5) rfl (Nat.le_of_ble_eq_true (by kernel_rfl)) rfl rfl (Nat.le_of_ble_eq_true (by kernel_rfl)) (qc g2 tg2 kk)) ?_
  rintro v s' ⟨n, t, h9, tk9, rfl, hn, rfl, k9⟩
  walk_at "go"
  refine m_either ?_
  walk_at "go"
  refine x_then (Gb n h9 g dr os) (by x_run) ?_
  rintro v s' ⟨h10, tk10, rb, rfl, hrb, rfl, k10⟩
  walk_at "go"
  exact ⟨hrb.trans hn, h10, tk10, rfl, (kk.trans k9).trans k10⟩
end Mine
end
section
open PySem PySem.W PySem.W.X PyProof.Rows PySem.Calls PySem.Spec
set_option Elab.async false
set_option maxRecDepth 100000
set_option maxHeartbeats 1000000
set_option rowWalk.seconds 0
namespace Mine
theorem start_M14 : True := by w_top off; trivial
/-- a program whose text says nothing -/
def mute (p : Program) : Program := { p with main := { p.main with body := [.ImportFrom (some (Str.ofString "sys")) [] none ⟨0, 0, 0, 0⟩] } }
theorem mute_recs (p : Program) : recsOf (mute p) = [] := rfl
theorem mute_owns (p : Program) : ownsOf (mute p) = [] := rfl
theorem mute_val (p : Program) (x : Str) : valOf (mute p) x = none := rfl
theorem ns_B {h h' : Heap} {a P : Addr} {m : Str → Option Value} (n : h.Ns a m) (k : KeepB P h h') (ne : a ≠ P) : h'.Ns a m := let ⟨o, es, ep, e, r⟩ := n; ⟨o, es, ep, k _ _ e ne, r⟩
/-- what the calls need of the heap stands when only a code table has grown -/
theorem std_B {w : World} {h h' : Heap} {P : Addr} (S : Std w h) (k : KeepB P h h') {oP : Obj} (hP : h.get? P = some oP) (hc : oP.cls = .none) (hK : (hd.heap_39 w.params).lookup P = none) (n0 : builtinsNs ≠ P) (n2 : cStatics ≠ P) (n3 : mainGlobals ≠ P) : Std w h' := by
  obtain ⟨X, p, loose, mean, mg, mb, T⟩ := S
  refine ⟨fun a o e => k a o (X a o e) (fun z => by rw [z, hK] at e; cases e), mute p, loose ++ (recsOf p).map (·.name) ++ (litsOf p).map (·.1) ++ (clssOf p loose).map (·.name), mean, mg, mb, ?_⟩
  obtain ⟨mc, n4, n5⟩ := T.nodigits
  obtain ⟨bm, ob, b1, b2, b3, b4, b5, b6⟩ := T.bmain
  exact {
    g := ns_B T.g k n3
    b := ns_B T.b k n0
    nolimit := nolimit_B T.nolimit k n2
    nodigits := ⟨mc, ns_B n4 k n2, n5⟩
    fn := fun d hd => by rw [mute_recs] at hd; cases hd
    own := fun o ho => by rw [mute_owns] at ho; cases ho
    const := fun x d e => by rw [mute_val] at e; cases e
    free := fun x h1 h2 _ _ _ => by
      simp only [List.mem_append, not_or] at h2
      exact T.free x h1 h2.1.1.1 h2.1.1.2 h2.1.2 h2.2
    builtins := T.builtins
    tab := fun d hd => by rw [mute_recs] at hd; cases hd
    bmain := ⟨bm, ob, b1, b2, k _ _ b3 (fun e => by rw [e, hP] at b3; cases b3; rw [hc] at b4; cases b4), b4, b5, b6⟩
    seer := fun e => by
      have z : (List.all [_] _) = true := e
      exact absurd z (by decide +kernel) }
end Mine
end
section
open PySem PySem.W PyProof.Rows PySem.Calls PySem.Spec PyProof.V PySem.SeqAt
set_option Elab.async false
set_option maxRecDepth 100000
set_option maxHeartbeats 1000000
set_option rowWalk.seconds 0
namespace Mine
theorem start_M15 : True := by w_top off; trivial
/-- a list's items are lists of three ints each -/
def RowsAt (h : Heap) : List Value → List (Int × Int × Int) → Prop
  | [], [] => True
  | v :: vs, x :: xs => (∃ r t1 t2 t3, v = Value.ref r ∧ h.IsList r #[.int x.1 t1, .int x.2.1 t2, .int x.2.2 t3]) ∧ RowsAt h vs xs
  | _, _ => False
def rowD (x : Int × Int × Int) : PyData := .list [.int x.1, .int x.2.1, .int x.2.2]
theorem RowsAt.keep {h h' : Heap} (k : ∀ b o, h.get? b = some o → h'.get? b = some o) : ∀ {vs : List Value} {xs : List (Int × Int × Int)}, RowsAt h vs xs → RowsAt h' vs xs
  | [], [], _ => trivial
  | v :: vs, x :: xs, ⟨⟨r, t1, t2, t3, e, hl⟩, q⟩ => ⟨⟨r, t1, t2, t3, e, hl.at (k r)⟩, q.keep k⟩
  | [], _ :: _, q => q.elim
  | _ :: _, [], q => q.elim
theorem reads_row {h : Heap} {r : Addr} {x : Int × Int × Int} {t1 t2 t3 : Tok} (hl : h.IsList r #[.int x.1 t1, .int x.2.1 t2, .int x.2.2 t3]) : Reads h (.ref r) (rowD x) [r] :=
  reads_of_ints (vs := [.int x.1 t1, .int x.2.1 t2, .int x.2.2 t3]) (ns := [x.1, x.2.1, x.2.2]) hl (.cons _ _ (.cons _ _ (.cons _ _ .nil)))
theorem readsAll_rows {h : Heap} : ∀ {vs : List Value} {xs : List (Int × Int × Int)}, RowsAt h vs xs → ∃ as, ReadsAll h vs (xs.map rowD) as
  | [], [], _ => ⟨[], .nil⟩
  | v :: vs, x :: xs, ⟨⟨r, t1, t2, t3, e, hl⟩, q⟩ => by
    subst e
    obtain ⟨as, ih⟩ := readsAll_rows q
    exact ⟨_, ReadsAll.cons (reads_row hl) ih⟩
  | [], _ :: _, q => q.elim
  | _ :: _, [], q => q.elim
theorem reads_rows {h : Heap} {a : Addr} {vs : List Value} {xs : List (Int × Int × Int)} (hl : h.IsList a vs.toArray) (hv : RowsAt h vs xs) : ∃ as, Reads h (.ref a) (.list (xs.map rowD)) as := by
  obtain ⟨o, ho, hc, n, hd⟩ := hl
  obtain ⟨as, q⟩ := readsAll_rows hv
  exact ⟨_, Reads.list ho hc hd (by simpa using q)⟩
theorem canLay_rows : ∀ xs : List (Int × Int × Int), PyData.canLayAll0 (xs.map rowD) = true
  | [] => by simp [PyData.canLayAll0]
  | x :: r => by simp [PyData.canLayAll0, rowD, PyData.canLay0, canLay_rows r]
theorem depth_rows : ∀ xs : List (Int × Int × Int), PyData.depthAll (xs.map rowD) ≤ 3
  | [] => by simp [PyData.depthAll]
  | x :: r => by
    have := depth_rows r
    have := PySem.W.depthAll_ints [x.1, x.2.1, x.2.2]
    simp only [List.map_cons, List.map_nil] at this
    simp only [List.map_cons, PyData.depthAll, rowD, PyData.depth] at *
    omega
theorem shaped_rows (xs : List (Int × Int × Int)) : shaped (.list (xs.map rowD)) = true := by
  have h1 := depth_rows xs
  have h2 : PyData.depth (.list (xs.map rowD)) ≤ 64 := by simp only [PyData.depth]; omega
  show (PyData.canLay0 (.list (xs.map rowD)) && decide (PyData.depth (.list (xs.map rowD)) ≤ 64)) = true
  rw [Bool.and_eq_true]
  exact ⟨by simp only [PyData.canLay0]; exact canLay_rows xs, decide_eq_true h2⟩
theorem noMix_rows : ∀ xs ys : List (Int × Int × Int), noMixAll (xs.map rowD) (ys.map rowD) = true
  | [], [] => by simp [noMixAll]
  | [], _ :: _ => by simp [noMixAll]
  | _ :: _, [] => by simp [noMixAll]
  | x :: r, y :: q => by simp [noMixAll, rowD, noMix, noMix_rows r q]
theorem same_rows : ∀ xs : List (Int × Int × Int), PySem.Spec.sameAll (xs.map rowD) (xs.map rowD) = true
  | [] => by simp [PySem.Spec.sameAll]
  | x :: r => by simp [PySem.Spec.sameAll, rowD, PySem.Spec.same, same_rows r]
theorem eq_rows {prog : Program} {w : World} {A : Around} {E : Value → Shared → Prop} {s : Shared} {a b : Addr} {vs us : List Value} {xs : List (Int × Int × Int)} {Q : Value → Shared → Prop} (hl : s.heap.IsList a vs.toArray) (hv : RowsAt s.heap vs xs) (hl' : s.heap.IsList b us.toArray) (hu' : RowsAt s.heap us xs) (hu : A.units + 64 < cLine)
    (h : Q (.bool true) s) : wpAny (model prog w) A (compareOp .Eq (.ref a) (.ref b)) Q E s := by
  obtain ⟨as, r1⟩ := reads_rows hl hv
  obtain ⟨bs, r2⟩ := reads_rows hl' hu'
  exact eq_dataH_same r1 r2 (shaped_rows xs) (shaped_rows xs) hu (by simp only [noMix]; exact noMix_rows xs xs) (by simp only [PySem.Spec.same]; rw [same_rows]; exact h)
end Mine
end
section
open PySem PySem.W PySem.Float64
set_option Elab.async false
set_option maxRecDepth 100000
set_option maxHeartbeats 1000000
set_option rowWalk.seconds 0
namespace Mine
theorem start_F0 : True := by w_top off; trivial
theorem V_any : ∀ (k q : Nat), q ≤ 2 ^ 53 → ∃ t, V t = q * 2 ^ k := by
  intro k
  induction k with
  | zero => intro q h; exact ⟨0 * 2 ^ 52 + q, V_at h (.inr rfl)⟩
  | succ k ih =>
    intro q h
    by_cases h2 : 2 ^ 52 ≤ q
    · exact ⟨(k + 1) * 2 ^ 52 + q, V_at h (.inl h2)⟩
    · obtain ⟨t, e⟩ := ih (2 * q) (by omega)
      exact ⟨t, by rw [e, Nat.pow_succ]; rw [Nat.mul_comm 2 q, Nat.mul_assoc, Nat.mul_comm 2]⟩
theorem dist_le {a b c : Nat} (h : a ≤ b + c) (h' : b ≤ a + c) : dist a b ≤ c := by unfold dist; omega
theorem of_dist {a b c : Nat} (h : dist a b ≤ c) : a ≤ b + c ∧ b ≤ a + c := by unfold dist at h; omega
/-- x is a finite float -/
def Fin' (x : UInt64) : Prop := ∃ a m e, decode x = .fin a m e
/-- a right rounding is near: within 2 ^ k where the value is at most 2 ^ (53 + k) -/
theorem right_near {r : UInt64} {neg : Bool} {W D : Nat} (R : Right r neg W D) (k : Nat) (hD : 0 < D) (hk : k + 53 ≤ 2097) (hb : W ≤ D * (2 ^ 53 * 2 ^ k)) :
    ∃ v : Nat, Fin' r ∧ val r = sgn neg v ∧ W ≤ D * v + D * 2 ^ k ∧ D * v ≤ W + D * 2 ^ k := by
  obtain ⟨t, rfl, ht, hov, hn⟩ := R
  have hp : (2 : Nat) ^ 53 * 2 ^ k ≤ 2 ^ 2097 := by
    rw [← Nat.pow_add]
    exact Nat.pow_le_pow_right (by decide) (by omega)
  have hlt : t < infMag := by
    rcases Nat.lt_or_eq_of_le ht with h | h
    · exact h
    · have h1 := hov.mp h
      exfalso
      have h2 : D * ((2 ^ 54 - 1) * 2 ^ 2045) ≤ D * (2 * 2 ^ 2097) := by
        calc D * ((2 ^ 54 - 1) * 2 ^ 2045) ≤ 2 * W := h1
          _ ≤ 2 * (D * (2 ^ 53 * 2 ^ k)) := Nat.mul_le_mul_left _ hb
          _ = D * (2 * (2 ^ 53 * 2 ^ k)) := by ac_rfl
          _ ≤ D * (2 * 2 ^ 2097) := Nat.mul_le_mul_left _ (Nat.mul_le_mul_left _ hp)
      have h3 := Nat.le_of_mul_le_mul_left h2 hD
      exact absurd h3 (by decide +kernel)
  obtain ⟨m, e, hd, hv⟩ := decode_pack neg hlt
  obtain ⟨t', ht'⟩ := V_any k (W / (D * 2 ^ k)) (by
    apply Nat.le_of_lt_succ
    rw [Nat.div_lt_iff_lt_mul (Nat.mul_pos hD (Nat.two_pow_pos k))]
    have : W < D * (2 ^ 53 * 2 ^ k) + D * 2 ^ k := Nat.lt_of_le_of_lt hb (Nat.lt_add_of_pos_right (Nat.mul_pos hD (Nat.two_pow_pos k)))
    have e : D * (2 ^ 53 * 2 ^ k) = 2 ^ 53 * (D * 2 ^ k) := Nat.mul_left_comm _ _ _
    rw [e] at this
    rw [Nat.succ_mul]
    exact this)
  have hdist := (hn hlt t').1
  have h1 : dist W (D * V t') ≤ D * 2 ^ k := by
    rw [ht']
    have hdm := Nat.div_add_mod W (D * 2 ^ k)
    have hm := Nat.mod_lt W (Nat.mul_pos hD (Nat.two_pow_pos k))
    have e1 : D * (W / (D * 2 ^ k) * 2 ^ k) = D * 2 ^ k * (W / (D * 2 ^ k)) := by ac_rfl
    rw [e1]
    exact dist_le (by omega) (by omega)
  have h2 := of_dist (Nat.le_trans hdist h1)
  exact ⟨V t, ⟨neg, m, e, hd⟩, val_pack neg hlt, h2.1, h2.2⟩
end Mine
end
section
open PySem PySem.W PySem.Float64
set_option Elab.async false
set_option maxRecDepth 100000
set_option maxHeartbeats 1000000
set_option rowWalk.seconds 0
namespace Mine
theorem start_F1 : True := by w_top off; trivial
/-- the unit: 2 ^ -49 -/
def E0 : Nat := 2 ^ 1025
theorem E0_pos : (0 : Int) < (E0 : Int) := Int.ofNat_lt.mpr (Nat.two_pow_pos _)
theorem one_eq : (2 : Nat) ^ 1074 = 562949953421312 * E0 := by unfold E0; rw [show (562949953421312 : Nat) = 2 ^ 49 from by decide, ← Nat.pow_add]
/-- x is within e units of z units -/
def Ap (x : UInt64) (z e : Int) : Prop := Fin' x ∧ (z - e) * E0 ≤ val x ∧ val x ≤ (z + e) * E0
theorem sgn_abs (i : Int) : sgn (decide (i < 0)) i.natAbs = i := by
  unfold sgn
  by_cases h : i < 0
  · rw [decide_eq_true h, if_pos rfl]; omega
  · rw [decide_eq_false h, if_neg (by decide)]; omega
theorem val_zero (b : Bool) : Fin' (zero b) ∧ val (zero b) = 0 := by
  cases b
  · exact ⟨⟨false, 0, -1074, by kernel_rfl⟩, by decide +kernel⟩
  · exact ⟨⟨true, 0, -1074, by kernel_rfl⟩, by decide +kernel⟩
theorem sgn_near {neg : Bool} {v W k : Nat} (h1 : W ≤ v + k) (h2 : v ≤ W + k) : sgn neg W ≤ sgn neg v + k ∧ sgn neg v ≤ sgn neg W + k := by
  unfold sgn; cases neg <;> simp <;> omega
theorem ap_sum {r : UInt64} {S z e : Int} (h0 : S = 0 → ∃ b, r = zero b) (h1 : S ≠ 0 → Right r (decide (S < 0)) S.natAbs 1) (l : (z - e) * E0 ≤ S) (u : S ≤ (z + e) * E0)
    (bl : -9007199254740992 ≤ z - e) (bu : z + e ≤ 9007199254740992) (he : 0 ≤ e) : Ap r z (e + 1) := by
  have hE := E0_pos
  by_cases hS : S = 0
  · obtain ⟨b, rfl⟩ := h0 hS
    obtain ⟨f, v⟩ := val_zero b
    refine ⟨f, ?_, ?_⟩
    · rw [v]
      have : (z - (e + 1)) * (E0 : Int) = (z - e) * E0 - E0 := by rw [show z - (e + 1) = z - e - 1 from by omega, Int.sub_mul, Int.one_mul]
      omega
    · rw [v]
      have : (z + (e + 1)) * (E0 : Int) = (z + e) * E0 + E0 := by rw [show z + (e + 1) = z + e + 1 from by omega, Int.add_mul, Int.one_mul]
      omega
  · have hb : S.natAbs ≤ 1 * (2 ^ 53 * 2 ^ 1025) := by
      have b1 : -9007199254740992 * (E0 : Int) ≤ (z - e) * E0 := Int.mul_le_mul_of_nonneg_right bl (Int.le_of_lt hE)
      have b2 : (z + e) * (E0 : Int) ≤ 9007199254740992 * E0 := Int.mul_le_mul_of_nonneg_right bu (Int.le_of_lt hE)
      have : (1 * (2 ^ 53 * 2 ^ 1025) : Nat) = 9007199254740992 * E0 := by rw [Nat.one_mul]; rfl
      rw [this]
      omega
    obtain ⟨v, f, hv, n1, n2⟩ := right_near (h1 hS) 1025 (by decide) (by decide) hb
    simp only [Nat.one_mul] at n1 n2
    have hs := sgn_near (neg := decide (S < 0)) n1 n2
    rw [sgn_abs, ← hv] at hs
    have eE : ((2 ^ 1025 : Nat) : Int) = (E0 : Int) := rfl
    rw [eE] at hs
    have e1 : (z - (e + 1)) * (E0 : Int) = (z - e) * E0 - E0 := by rw [show z - (e + 1) = z - e - 1 from by omega, Int.sub_mul, Int.one_mul]
    have e2 : (z + (e + 1)) * (E0 : Int) = (z + e) * E0 + E0 := by rw [show z + (e + 1) = z + e + 1 from by omega, Int.add_mul, Int.one_mul]
    exact ⟨f, by omega, by omega⟩
theorem ap_add {x y : UInt64} {a b e f : Int} (hx : Ap x a e) (hy : Ap y b f) (bl : -9007199254740992 ≤ a + b - (e + f)) (bu : a + b + (e + f) ≤ 9007199254740992) (he : 0 ≤ e + f) : Ap (add x y) (a + b) (e + f + 1) := by
  obtain ⟨⟨sx, mx, ex, dx⟩, x1, x2⟩ := hx
  obtain ⟨⟨sy, my, ey, dy⟩, y1, y2⟩ := hy
  have R := add_right dx dy
  refine ap_sum (S := val x + val y) (fun h => ⟨_, R.1 h⟩) (fun h => R.2 h) ?_ ?_ bl bu he
  · rw [show a + b - (e + f) = (a - e) + (b - f) from by omega, Int.add_mul]; omega
  · rw [show a + b + (e + f) = (a + e) + (b + f) from by omega, Int.add_mul]; omega
theorem ap_sub {x y : UInt64} {a b e f : Int} (hx : Ap x a e) (hy : Ap y b f) (bl : -9007199254740992 ≤ a - b - (e + f)) (bu : a - b + (e + f) ≤ 9007199254740992) (he : 0 ≤ e + f) : Ap (sub x y) (a - b) (e + f + 1) := by
  obtain ⟨⟨sx, mx, ex, dx⟩, x1, x2⟩ := hx
  obtain ⟨⟨sy, my, ey, dy⟩, y1, y2⟩ := hy
  have R := sub_right dx dy
  refine ap_sum (S := val x - val y) (fun h => ⟨_, R.1 h⟩) (fun h => R.2 h) ?_ ?_ bl bu he
  · rw [show a - b - (e + f) = (a - e) - (b + f) from by omega, Int.sub_mul]; omega
  · rw [show a - b + (e + f) = (a + e) - (b - f) from by omega, Int.sub_mul]; omega
end Mine
end
section
open PySem PySem.W PySem.Float64
set_option Elab.async false
set_option maxRecDepth 100000
set_option maxHeartbeats 1000000
set_option linter.unusedVariables false
set_option rowWalk.seconds 0
namespace Mine
theorem start_F2 : True := by w_top off; trivial
theorem prod_in {p q d g : Int} (hp : 0 ≤ p) (hq : 0 ≤ q) (d1 : -p ≤ d) (d2 : d ≤ p) (g1 : -q ≤ g) (g2 : g ≤ q) : -(p * q) ≤ d * g ∧ d * g ≤ p * q := by
  have h := Nat.mul_le_mul (show d.natAbs ≤ p.natAbs by omega) (show g.natAbs ≤ q.natAbs by omega)
  rw [← Int.natAbs_mul, ← Int.natAbs_mul] at h
  have h2 := Int.mul_nonneg hp hq
  omega
theorem sgn_mul_sgn (a b : Bool) (m n : Nat) : sgn a m * sgn b n = sgn (a != b) (m * n) := by
  unfold sgn
  cases a <;> cases b <;> simp [Int.mul_neg, Int.neg_mul]
theorem val_sgn {x : UInt64} {a : Bool} {m : Nat} {e : Int} (h : decode x = .fin a m e) : val x = sgn a (val x).natAbs := by
  rw [val_natAbs h, val_eq h]
theorem sgn_nearD {neg : Bool} {v W k D : Nat} (h1 : W ≤ D * v + k) (h2 : D * v ≤ W + k) : sgn neg W ≤ D * sgn neg v + k ∧ D * sgn neg v ≤ sgn neg W + k := by
  unfold sgn
  cases neg
  · simp only [Bool.false_eq_true, if_false]
    rw [← Int.natCast_mul]
    omega
  · simp only [if_true]
    rw [Int.mul_neg, ← Int.natCast_mul]
    omega
theorem ap_mul {x y : UInt64} {a b e f : Int} (hx : Ap x a e) (hy : Ap y b f) (c g : Int) (ha : 0 ≤ a) (hb : 0 ≤ b) (he : 0 ≤ e) (hf : 0 ≤ f)
    (l : (c - (g - 1)) * 562949953421312 ≤ a * b - (a * f + b * e + e * f)) (u : a * b + (a * f + b * e + e * f) ≤ (c + (g - 1)) * 562949953421312)
    (bd : (a + e) * (b + f) ≤ 5070602400912917605986812821504) : Ap (mul x y) c g := by
  have hE := E0_pos
  obtain ⟨⟨sx, mx, ex, dx⟩, x1, x2⟩ := hx
  obtain ⟨⟨sy, my, ey, dy⟩, y1, y2⟩ := hy
  have R := mul_right dx dy
  have hP := sgn_mul_sgn sx sy (val x).natAbs (val y).natAbs
  rw [← val_sgn dx, ← val_sgn dy] at hP
  generalize hvx : val x = X at *
  generalize hvy : val y = Y at *
  have d1 : -(e * E0) ≤ X - a * E0 := by rw [Int.sub_mul] at x1; omega
  have d2 : X - a * E0 ≤ e * E0 := by rw [Int.add_mul] at x2; omega
  have g1 : -(f * E0) ≤ Y - b * E0 := by rw [Int.sub_mul] at y1; omega
  have g2 : Y - b * E0 ≤ f * E0 := by rw [Int.add_mul] at y2; omega
  have hE' := Int.le_of_lt hE
  have p1 := prod_in (Int.mul_nonneg he hE') (Int.mul_nonneg hf hE') d1 d2 g1 g2
  have p2 := prod_in (Int.mul_nonneg ha hE') (Int.mul_nonneg hf hE') (d := a * E0) (by have := Int.mul_nonneg ha hE'; omega) (by omega) g1 g2
  have p3 := prod_in (Int.mul_nonneg hb hE') (Int.mul_nonneg he hE') (d := b * E0) (by have := Int.mul_nonneg hb hE'; omega) (by omega) d1 d2
  have expand : X * Y = a * b * (E0 * E0) + a * E0 * (Y - b * E0) + b * E0 * (X - a * E0) + (X - a * E0) * (Y - b * E0) := by
    simp only [Int.mul_sub, Int.sub_mul, Int.mul_comm, Int.mul_left_comm, Int.mul_assoc]; omega
  have q1 : e * (E0 : Int) * (f * E0) = e * f * (E0 * E0) := by ac_rfl
  have q2 : a * (E0 : Int) * (f * E0) = a * f * (E0 * E0) := by ac_rfl
  have q3 : b * (E0 : Int) * (e * E0) = b * e * (E0 * E0) := by ac_rfl
  rw [q1] at p1
  rw [q2] at p2
  rw [q3] at p3
  have hEE : (0 : Int) ≤ (E0 : Int) * E0 := Int.mul_nonneg hE' hE'
  have lo : (a * b - (a * f + b * e + e * f)) * (E0 * E0) ≤ X * Y := by
    rw [expand, Int.sub_mul, Int.add_mul, Int.add_mul]; omega
  have hi : X * Y ≤ (a * b + (a * f + b * e + e * f)) * (E0 * E0) := by
    rw [expand, Int.add_mul, Int.add_mul, Int.add_mul]; omega
  have lo2 := Int.le_trans (Int.mul_le_mul_of_nonneg_right l hEE) lo
  have hi2 := Int.le_trans hi (Int.mul_le_mul_of_nonneg_right u hEE)
  have hD : (0 : Nat) < 2 ^ 1074 := Nat.two_pow_pos _
  have hW : X.natAbs * Y.natAbs ≤ 2 ^ 1074 * (2 ^ 53 * 2 ^ 1025) := by
    have n1 : (X.natAbs : Int) ≤ (a + e) * E0 := by rw [Int.add_mul]; rw [Int.sub_mul] at x1; have := Int.mul_nonneg ha hE'; have := Int.mul_nonneg he hE'; rw [Int.add_mul] at x2; omega
    have n2 : (Y.natAbs : Int) ≤ (b + f) * E0 := by rw [Int.add_mul]; rw [Int.sub_mul] at y1; have := Int.mul_nonneg hb hE'; have := Int.mul_nonneg hf hE'; rw [Int.add_mul] at y2; omega
    have n3 : (X.natAbs : Int) * Y.natAbs ≤ (a + e) * E0 * ((b + f) * E0) := Int.mul_le_mul n1 n2 (by omega) (Int.mul_nonneg (by omega) hE')
    have n4 : (a + e) * (E0 : Int) * ((b + f) * E0) = (a + e) * (b + f) * (E0 * E0) := by ac_rfl
    have n5 := Int.mul_le_mul_of_nonneg_right bd hEE
    have n6 : ((2 ^ 1074 * (2 ^ 53 * 2 ^ 1025) : Nat) : Int) = 5070602400912917605986812821504 * (E0 * E0) := by
      rw [one_eq, show (2 : Nat) ^ 1025 = E0 from rfl]
      have : (562949953421312 * E0 * (2 ^ 53 * E0) : Nat) = 5070602400912917605986812821504 * (E0 * E0) := by
        rw [show (5070602400912917605986812821504 : Nat) = 562949953421312 * 2 ^ 53 from by decide]; ac_rfl
      rw [this]; simp
    have n7 : ((X.natAbs * Y.natAbs : Nat) : Int) ≤ ((2 ^ 1074 * (2 ^ 53 * 2 ^ 1025) : Nat) : Int) := by
      rw [n6, Int.natCast_mul]; exact Int.le_trans n3 (n4 ▸ n5)
    exact Int.ofNat_le.mp n7
  obtain ⟨v, fr, hv, w1, w2⟩ := right_near R 1025 hD (by decide) hW
  have hs := sgn_nearD (neg := sx != sy) w1 w2
  rw [← hP, ← hv] at hs
  have k1 : ((2 ^ 1074 * 2 ^ 1025 : Nat) : Int) = 562949953421312 * (E0 * E0) := by
    rw [one_eq, show (2 : Nat) ^ 1025 = E0 from rfl]; simp [Int.mul_assoc]
  have k2 : ((2 ^ 1074 : Nat) : Int) = 562949953421312 * E0 := by rw [one_eq]; simp
  rw [k1, k2] at hs
  have hDE : (0 : Int) < 562949953421312 * E0 := by omega
  refine ⟨fr, ?_, ?_⟩
  · refine Int.le_of_mul_le_mul_left ?_ hDE
    have : 562949953421312 * (E0 : Int) * ((c - g) * E0) = (c - (g - 1)) * 562949953421312 * (E0 * E0) - 562949953421312 * (E0 * E0) := by
      rw [show c - (g - 1) = (c - g) + 1 from by omega, Int.add_mul, Int.add_mul, Int.one_mul, Int.add_sub_cancel]; ac_rfl
    rw [this]; omega
  · refine Int.le_of_mul_le_mul_left ?_ hDE
    have : 562949953421312 * (E0 : Int) * ((c + g) * E0) = (c + (g - 1)) * 562949953421312 * (E0 * E0) + 562949953421312 * (E0 * E0) := by
      rw [show c + (g - 1) = (c + g) - 1 from by omega, Int.sub_mul, Int.sub_mul, Int.one_mul, Int.sub_add_cancel]; ac_rfl
    rw [this]; omega
end Mine
end
section
open PySem PySem.W PySem.Float64
set_option Elab.async false
set_option maxRecDepth 100000
set_option maxHeartbeats 1000000
set_option linter.unusedVariables false
set_option rowWalk.seconds 0
namespace Mine
theorem start_F3 : True := by w_top off; trivial
theorem ap_frac {n d : Nat} (hd : 0 < d) (z e : Int) (l : (z - (e - 1)) * d ≤ n * 562949953421312) (u : (n : Int) * 562949953421312 ≤ (z + (e - 1)) * d) (bd : n ≤ d * 16) : Ap (ofFrac false n d) z e := by
  have R : Right (ofFrac false n d) false (n * 2 ^ 1074) d := ofFrac_right hd rfl hd
  have hE := E0_pos
  have hE' := Int.le_of_lt hE
  have hW : n * 2 ^ 1074 ≤ d * (2 ^ 53 * 2 ^ 1025) := by
    rw [one_eq, show (2 : Nat) ^ 1025 = E0 from rfl]
    calc n * (562949953421312 * E0) ≤ d * 16 * (562949953421312 * E0) := Nat.mul_le_mul_right _ bd
      _ = d * (2 ^ 53 * E0) := by rw [show (2 : Nat) ^ 53 = 16 * 562949953421312 from by decide]; ac_rfl
  obtain ⟨v, fr, hv, w1, w2⟩ := right_near R 1025 hd (by decide) hW
  rw [one_eq, show (2 : Nat) ^ 1025 = E0 from rfl] at w1 w2
  have hs : val (ofFrac false n d) = (v : Int) := by rw [hv]; unfold sgn; simp
  have c1 : (n : Int) * 562949953421312 * E0 ≤ d * v + d * E0 := by
    have := Int.ofNat_le.mpr w1
    simp only [Int.natCast_mul, Int.natCast_add] at this
    rw [← Int.mul_assoc] at this; simpa using this
  have c2 : (d : Int) * v ≤ n * 562949953421312 * E0 + d * E0 := by
    have := Int.ofNat_le.mpr w2
    simp only [Int.natCast_mul, Int.natCast_add] at this
    rw [← Int.mul_assoc (n : Int)] at this; simpa using this
  have l2 := Int.mul_le_mul_of_nonneg_right l hE'
  have u2 := Int.mul_le_mul_of_nonneg_right u hE'
  have hdd : (0 : Int) < d := Int.ofNat_lt.mpr hd
  refine ⟨fr, ?_, ?_⟩
  · rw [hs]
    refine Int.le_of_mul_le_mul_left ?_ hdd
    have : (d : Int) * ((z - e) * E0) = (z - (e - 1)) * d * E0 - d * E0 := by
      rw [show z - (e - 1) = (z - e) + 1 from by omega, Int.add_mul, Int.add_mul, Int.one_mul, Int.add_sub_cancel]; ac_rfl
    rw [this]; omega
  · rw [hs]
    refine Int.le_of_mul_le_mul_left ?_ hdd
    have : (d : Int) * ((z + e) * E0) = (z + (e - 1)) * d * E0 + d * E0 := by
      rw [show z + (e - 1) = (z + e) - 1 from by omega, Int.sub_mul, Int.sub_mul, Int.one_mul, Int.sub_add_cancel]; ac_rfl
    rw [this]; omega
/-- a fraction that is a float is that float -/
theorem frac_exact {n d q k : Nat} (hd : 0 < d) (h : n * 2 ^ 1074 = d * (q * 2 ^ k)) (hq : q ≤ 2 ^ 53) (hk : k ≤ 1074) : Fin' (ofFrac false n d) ∧ val (ofFrac false n d) = ((q * 2 ^ k : Nat) : Int) := by
  have R : Right (ofFrac false n d) false (n * 2 ^ 1074) d := ofFrac_right hd rfl hd
  have hb : n * 2 ^ 1074 ≤ d * (2 ^ 53 * 2 ^ 1074) := by
    rw [h]
    exact Nat.mul_le_mul_left _ (Nat.mul_le_mul hq (Nat.pow_le_pow_right (by decide) hk))
  obtain ⟨t, hr, ht, hov, hn⟩ := R
  obtain ⟨v, fr, hv, -, -⟩ := right_near ⟨t, hr, ht, hov, hn⟩ 1074 hd (by decide) hb
  have hlt : t < infMag := by
    rcases Nat.lt_or_eq_of_le ht with h | h
    · exact h
    · exfalso
      obtain ⟨a, m, e, hd'⟩ := fr
      rw [hr, h] at hd'
      rw [show decode (pack false infMag) = .inf false from by kernel_rfl] at hd'
      cases hd'
  obtain ⟨t', e'⟩ := V_any k q hq
  have z := (hn hlt t').1
  rw [e', h] at z
  have z2 : dist (d * (q * 2 ^ k)) (d * (q * 2 ^ k)) = 0 := by unfold dist; omega
  rw [z2] at z
  have z3 := of_dist z
  have z4 : d * (q * 2 ^ k) = d * V t := by omega
  have z5 : q * 2 ^ k = V t := Nat.eq_of_mul_eq_mul_left hd z4
  refine ⟨fr, ?_⟩
  rw [hr, val_pack false hlt, z5]
  unfold sgn; simp
end Mine
end
section
open PySem PySem.W PySem.Float64
set_option Elab.async false
set_option maxRecDepth 100000
set_option maxHeartbeats 1000000
set_option linter.unusedVariables false
set_option rowWalk.seconds 0
namespace Mine
theorem start_F4 : True := by w_top off; trivial
theorem floor_pos {m : Nat} {e : Int} {N : Nat} (he : -1074 ≤ e) (l : N * 2 ^ 1074 ≤ m * 2 ^ (e + 1074).toNat) (u : m * 2 ^ (e + 1074).toNat < (N + 1) * 2 ^ 1074) : floorOf false m e = N := by
  unfold floorOf
  have hs : sgn false m = (m : Int) := by unfold sgn; simp
  rw [hs]
  by_cases h : e ≥ 0
  · rw [if_pos h]
    have e1 : (e + 1074).toNat = e.toNat + 1074 := by omega
    rw [e1, Nat.pow_add, ← Nat.mul_assoc] at l u
    have l2 := Nat.le_of_mul_le_mul_right l (Nat.two_pow_pos 1074)
    have u2 := Nat.lt_of_mul_lt_mul_right u
    have : ((2 : Int) ^ e.toNat) = ((2 ^ e.toNat : Nat) : Int) := by simp
    rw [this, ← Int.natCast_mul]
    omega
  · rw [if_neg h]
    have e1 : 1074 = (e + 1074).toNat + (-e).toNat := by omega
    have e2 : (2 : Nat) ^ 1074 = 2 ^ (-e).toNat * 2 ^ (e + 1074).toNat := by rw [← Nat.pow_add]; congr 1; omega
    rw [e2, ← Nat.mul_assoc] at l u
    have l2 := Nat.le_of_mul_le_mul_right l (Nat.two_pow_pos _)
    have u2 := Nat.lt_of_mul_lt_mul_right u
    have : ((2 : Int) ^ (-e).toNat) = ((2 ^ (-e).toNat : Nat) : Int) := by simp
    rw [this, Int.fdiv_eq_ediv_of_nonneg _ (Int.natCast_nonneg _), ← Int.natCast_ediv]
    congr 1
    refine Nat.div_eq_of_lt_le ?_ ?_
    · exact l2
    · exact u2
theorem trunc_of {x : UInt64} {N : Nat} (hx : Fin' x) (l : ((N * 2 ^ 1074 : Nat) : Int) ≤ val x) (u : val x < (((N + 1) * 2 ^ 1074 : Nat) : Int)) : Flt.toInt truncOf x = N ∧ isFinite x = true := by
  obtain ⟨s, m, e, hd⟩ := hx
  have he := decode_ge hd
  have hv := val_eq hd
  refine ⟨?_, by unfold isFinite; rw [hd]⟩
  unfold Flt.toInt
  rw [hd]
  show truncOf s m e = N
  unfold truncOf
  cases s with
  | false =>
    rw [if_neg (by decide)]
    have hs : sgn false (m * 2 ^ (e + 1074).toNat) = ((m * 2 ^ (e + 1074).toNat : Nat) : Int) := by unfold sgn; simp
    rw [hv, hs] at l u
    exact floor_pos he (Int.ofNat_le.mp l) (Int.ofNat_lt.mp u)
  | true =>
    rw [if_pos rfl]
    have hs : sgn true (m * 2 ^ (e + 1074).toNat) = -((m * 2 ^ (e + 1074).toNat : Nat) : Int) := by unfold sgn; simp
    rw [hv, hs] at l u
    have hN : N * 2 ^ 1074 = 0 := by omega
    have hN0 : N = 0 := by
      rcases Nat.mul_eq_zero.mp hN with h | h
      · exact h
      · exact absurd h (Nat.ne_of_gt (Nat.two_pow_pos 1074))
    have hm : m * 2 ^ (e + 1074).toNat = 0 := by omega
    have hm0 : m = 0 := by
      rcases Nat.mul_eq_zero.mp hm with h | h
      · exact h
      · exact absurd h (Nat.ne_of_gt (Nat.two_pow_pos _))
    subst hm0 hN0
    unfold ceilOf floorOf sgn
    split <;> simp
end Mine
end
section
open PySem PySem.W PySem.Float64
set_option Elab.async false
set_option maxRecDepth 100000
set_option maxHeartbeats 1000000
set_option linter.unusedVariables false
set_option rowWalk.seconds 0
namespace Mine
theorem start_F5 : True := by w_top off; trivial
def T0 : Nat := 2 ^ 1043
theorem T0_pos : (0 : Int) < (T0 : Int) := Int.ofNat_lt.mpr (Nat.two_pow_pos _)
theorem pT (k : Nat) : 2 ^ (1043 + k) = 2 ^ k * T0 := by unfold T0; rw [Nat.pow_add, Nat.mul_comm]
theorem E0_T : 1048576 * E0 = 4 * T0 := by
  unfold E0 T0
  rw [show (1048576 : Nat) = 2 ^ 20 from by decide, show (4 : Nat) = 2 ^ 2 from by decide, ← Nat.pow_add, ← Nat.pow_add]
theorem d_scale : ∃ m e, decode (Float64.ofInt 1048576) = .fin false m e ∧ val (Float64.ofInt 1048576) = ((2 ^ 1094 : Nat) : Int) := ⟨4503599627370496, -32, by kernel_rfl, by kernel_rfl⟩
theorem d_half : ∃ m e, decode 4602678819172646912 = .fin false m e ∧ val 4602678819172646912 = ((2 ^ 1073 : Nat) : Int) := ⟨4503599627370496, -53, by kernel_rfl, by kernel_rfl⟩
theorem read_of {x : UInt64} {N e : Int} (hx : Ap x (N * 536870912) e) (hN : 0 ≤ N) (hN2 : N ≤ 2097152) (he : 0 ≤ e) (he2 : e ≤ 1048576) : readI x = N ∧ isFinite (readF x) = true := by
  obtain ⟨⟨sx, mx, ex, dx⟩, x1, x2⟩ := hx
  obtain ⟨m1, e1, q1, v1⟩ := d_scale
  obtain ⟨m2, e2, q2, v2⟩ := d_half
  have hT := T0_pos
  have hE := E0_pos
  have eT : (1048576 : Int) * E0 = 4 * T0 := by have := E0_T; omega
  -- the value, scaled
  have y1 : (N * 2147483648 - e * 4) * T0 ≤ val x * 1048576 := by
    have := Int.mul_le_mul_of_nonneg_right x1 (show (0 : Int) ≤ 1048576 by decide)
    have e3 : (N * 536870912 - e) * (E0 : Int) * 1048576 = (N * 536870912 - e) * (4 * T0) := by rw [← eT]; ac_rfl
    have e4 : (N * 2147483648 - e * 4) * (T0 : Int) = (N * 536870912 - e) * (4 * T0) := by
      rw [← Int.mul_assoc]; congr 1; omega
    omega
  have y2 : val x * 1048576 ≤ (N * 2147483648 + e * 4) * T0 := by
    have := Int.mul_le_mul_of_nonneg_right x2 (show (0 : Int) ≤ 1048576 by decide)
    have e3 : (N * 536870912 + e) * (E0 : Int) * 1048576 = (N * 536870912 + e) * (4 * T0) := by rw [← eT]; ac_rfl
    have e4 : (N * 2147483648 + e * 4) * (T0 : Int) = (N * 536870912 + e) * (4 * T0) := by
      rw [← Int.mul_assoc]; congr 1; omega
    omega
  have b1 : (-4194304 : Int) * T0 ≤ (N * 2147483648 - e * 4) * T0 := Int.mul_le_mul_of_nonneg_right (by omega) (Int.le_of_lt hT)
  have b2 : (N * 2147483648 + e * 4) * (T0 : Int) ≤ 4503599631564800 * T0 := Int.mul_le_mul_of_nonneg_right (by omega) (Int.le_of_lt hT)
  -- the product
  have R := mul_right dx q1
  rw [v1] at R
  have hW : (val x).natAbs * ((2 ^ 1094 : Nat) : Int).natAbs ≤ 2 ^ 1074 * (2 ^ 53 * 2 ^ 1043) := by
    rw [Int.natAbs_natCast, show (2 : Nat) ^ 1094 = 2 ^ 1074 * 1048576 from by rw [show (1048576 : Nat) = 2 ^ 20 from by decide, ← Nat.pow_add], Nat.mul_left_comm]
    refine Nat.mul_le_mul_left _ ?_
    rw [show (2 : Nat) ^ 1043 = T0 from rfl, show (2 : Nat) ^ 53 = 9007199254740992 from by decide]
    omega
  obtain ⟨v, fr, hv, w1, w2⟩ := right_near R 1043 (Nat.two_pow_pos _) (by decide) hW
  have hs := sgn_nearD (neg := sx != false) w1 w2
  have hP := sgn_mul_sgn sx false (val x).natAbs ((2 ^ 1094 : Nat) : Int).natAbs
  rw [← val_sgn dx] at hP
  have hp2 : sgn false ((2 ^ 1094 : Nat) : Int).natAbs = ((2 ^ 1094 : Nat) : Int) := by rw [Int.natAbs_natCast]; unfold sgn; simp only [Bool.false_eq_true, if_false]
  rw [hp2] at hP
  rw [← hP, ← hv] at hs
  have k1 : ((2 ^ 1074 * 2 ^ 1043 : Nat) : Int) = ((2 ^ 1074 : Nat) : Int) * T0 := by rw [Int.natCast_mul]; rfl
  have k2 : val x * ((2 ^ 1094 : Nat) : Int) = ((2 ^ 1074 : Nat) : Int) * (val x * 1048576) := by
    rw [show (2 : Nat) ^ 1094 = 2 ^ 1074 * 1048576 from by rw [show (1048576 : Nat) = 2 ^ 20 from by decide, ← Nat.pow_add], Int.natCast_mul]
    generalize ((2 ^ 1074 : Nat) : Int) = G
    rw [show ((1048576 : Nat) : Int) = 1048576 from rfl]; ac_rfl
  rw [k1, k2] at hs
  have hG : (0 : Int) < ((2 ^ 1074 : Nat) : Int) := Int.ofNat_lt.mpr (Nat.two_pow_pos _)
  have s1 : val x * 1048576 ≤ val (mul x (Float64.ofInt 1048576)) + T0 := by
    refine Int.le_of_mul_le_mul_left ?_ hG
    rw [Int.mul_add]; exact hs.1
  have s2 : val (mul x (Float64.ofInt 1048576)) ≤ val x * 1048576 + T0 := by
    refine Int.le_of_mul_le_mul_left ?_ hG
    rw [Int.mul_add]; exact hs.2
  -- the half
  obtain ⟨a3, m3, e3, d3⟩ := fr
  have R2 := add_right d3 q2
  rw [v2] at R2
  have h73 : ((2 ^ 1073 : Nat) : Int) = 1073741824 * T0 := by rw [show (1073 : Nat) = 1043 + 30 from rfl, pT]; simp
  rw [h73] at R2
  have hS : val (mul x (Float64.ofInt 1048576)) + 1073741824 * (T0 : Int) ≠ 0 := by omega
  have R3 := R2.2 hS
  obtain ⟨v', fr', hv', w3, w4⟩ := right_near R3 1044 (by decide) (by decide) (by
    rw [Nat.one_mul, show (1044 : Nat) = 1043 + 1 from rfl, pT, show (2 : Nat) ^ 53 * (2 ^ 1 * T0) = 18014398509481984 * T0 from by rw [← Nat.mul_assoc]]
    omega)
  simp only [Nat.one_mul] at w3 w4
  have hs3 := sgn_near (neg := decide (val (mul x (Float64.ofInt 1048576)) + 1073741824 * (T0 : Int) < 0)) w3 w4
  rw [sgn_abs, ← hv'] at hs3
  have h44 : ((2 ^ 1044 : Nat) : Int) = 2 * T0 := by rw [show (1044 : Nat) = 1043 + 1 from rfl, pT]; simp
  rw [h44] at hs3
  have h74 : (2 : Nat) ^ 1074 = 2147483648 * T0 := by rw [show (1074 : Nat) = 1043 + 31 from rfl, pT]
  obtain ⟨n, rfl⟩ := Int.eq_ofNat_of_zero_le hN
  have z1 : ((n : Int) * 2147483648 - e * 4) * T0 = (n : Int) * 2147483648 * T0 - e * 4 * T0 := Int.sub_mul ..
  have z2 : ((n : Int) * 2147483648 + e * 4) * T0 = (n : Int) * 2147483648 * T0 + e * 4 * T0 := Int.add_mul ..
  have z3 : e * 4 * (T0 : Int) ≤ 4194304 * T0 := Int.mul_le_mul_of_nonneg_right (by omega) (Int.le_of_lt hT)
  have z4 : ((n * 2 ^ 1074 : Nat) : Int) = (n : Int) * 2147483648 * T0 := by rw [h74]; simp [Int.mul_assoc]
  have z5 : (((n + 1) * 2 ^ 1074 : Nat) : Int) = (n : Int) * 2147483648 * T0 + 2147483648 * T0 := by rw [h74, Nat.add_mul]; simp [Int.mul_assoc]
  have fin := trunc_of (x := readF x) (N := n) fr' (by rw [z4]; show _ ≤ val (add _ _); omega) (by rw [z5]; show val (add _ _) < _; omega)
  exact ⟨fin.1, fin.2⟩
end Mine
end
section
open PySem PySem.W PySem.Float64
set_option Elab.async false
set_option maxRecDepth 100000
set_option maxHeartbeats 1000000
set_option linter.unusedVariables false
set_option rowWalk.seconds 0
namespace Mine
theorem start_F6 : True := by w_top off; trivial
theorem ap_const {x : UInt64} {c : Int} (h : ∃ m e, decode x = .fin false m e ∧ val x = c * ((2 ^ 1025 : Nat) : Int)) : Ap x c 0 := by
  obtain ⟨m, e, h1, h2⟩ := h
  refine ⟨⟨_, m, e, h1⟩, ?_, ?_⟩
  · rw [h2, Int.sub_zero]; exact Int.le_refl _
  · rw [h2, Int.add_zero]; exact Int.le_refl _
theorem ap_one : Ap 4607182418800017408 562949953421312 0 := ap_const ⟨4503599627370496, -52, by kernel_rfl, by kernel_rfl⟩
theorem ap_two : Ap 4611686018427387904 1125899906842624 0 := ap_const ⟨4503599627370496, -51, by kernel_rfl, by kernel_rfl⟩
theorem ap_six : Ap 4618441417868443648 3377699720527872 0 := ap_const ⟨6755399441055744, -50, by kernel_rfl, by kernel_rfl⟩
theorem ap_le {x : UInt64} {z e e' : Int} (h : Ap x z e) (le : e ≤ e') : Ap x z e' := by
  obtain ⟨f, a, b⟩ := h
  have hE := Int.le_of_lt E0_pos
  refine ⟨f, Int.le_trans (Int.mul_le_mul_of_nonneg_right (by omega) hE) a, Int.le_trans b (Int.mul_le_mul_of_nonneg_right (by omega) hE)⟩
/-- m2 for the darker half -/
theorem ap_m2A {l s : UInt64} {P H B z : Int} (hl : Ap l (P * 268435456) 1) (hs : Ap s z 2) (hP : P = B + H) (hB : 0 ≤ B) (hBH : B ≤ H) (hH : H ≤ 1048575) (hP1 : P ≤ 1048576) (z0 : 0 ≤ z) (z1 : z ≤ 562949953421312)
    (q1 : z * P ≤ (H - B) * 562949953421312) (q2 : (H - B) * 562949953421312 < (z + 1) * P) : Ap (mul l (add 4607182418800017408 s)) (H * 536870912) 6 := by
  have a1 := ap_add ap_one hs (by omega) (by omega) (by decide)
  rw [Int.add_mul] at q2
  have e1 : P * 268435456 * (562949953421312 + z) = P * 151115727451828646838272 + 268435456 * (z * P) := by
    rw [Int.mul_add, Int.mul_assoc P, Int.mul_comm z P, Int.mul_left_comm 268435456 P z, Int.mul_assoc P]; rfl
  have e2 : P * 268435456 * (0 + 2 + 1) = P * 805306368 := by omega
  refine ap_mul hl a1 (H * 536870912) 6 (by omega) (by omega) (by decide) (by decide) ?_ ?_ ?_
  · rw [e1, e2]; omega
  · rw [e1, e2]; omega
  · have := Int.mul_le_mul (show P * 268435456 + 1 ≤ 281474976710657 by omega) (show 562949953421312 + z + (0 + 2 + 1) ≤ 1125899906842627 by omega) (by omega) (by omega)
    exact Int.le_trans this (by decide)
/-- m2 for the lighter half -/
theorem ap_m2B {l s : UInt64} {P H B z : Int} (hl : Ap l (P * 268435456) 1) (hs : Ap s z 2) (hP : P = B + H) (hB : 0 ≤ B) (hBH : B ≤ H) (hH : H ≤ 1048575) (z0 : 0 ≤ z) (z1 : z ≤ 562949953421312)
    (q1 : z * (2097152 - P) ≤ (H - B) * 562949953421312) (q2 : (H - B) * 562949953421312 < (z + 1) * (2097152 - P)) : Ap (sub (add l s) (mul l s)) (H * 536870912) 11 := by
  have a1 := ap_add hl hs (by omega) (by omega) (by decide)
  rw [Int.add_mul] at q2
  rw [Int.mul_sub] at q1 q2
  have e1 : P * 268435456 * z = 268435456 * (z * P) := by rw [Int.mul_comm z P, Int.mul_assoc, Int.mul_left_comm]
  have a2 : Ap (mul l s) (z - (H - B) * 268435456) 6 := by
    refine ap_mul hl hs _ 6 (by omega) (by omega) (by decide) (by decide) ?_ ?_ ?_
    · rw [e1]; omega
    · rw [e1]; omega
    · have := Int.mul_le_mul (show P * 268435456 + 1 ≤ 562949684985857 by omega) (show z + 2 ≤ 562949953421314 by omega) (by omega) (by omega)
      exact Int.le_trans this (by decide)
  have a3 := ap_sub a1 a2 (by omega) (by omega) (by decide)
  have e3 : P * 268435456 + z - (z - (H - B) * 268435456) = H * 536870912 := by omega
  rw [e3] at a3
  exact ap_le a3 (by decide)
theorem ap_m1 {l m2 : UInt64} {P H B : Int} (hl : Ap l (P * 268435456) 1) (hm : Ap m2 (H * 536870912) 11) (hP : P = B + H) (hB : 0 ≤ B) (hBH : B ≤ H) (hH : H ≤ 1048575) : Ap (sub (mul 4611686018427387904 l) m2) (B * 536870912) 16 := by
  have a1 : Ap (mul 4611686018427387904 l) (P * 536870912) 4 := by
    refine ap_mul ap_two hl _ 4 (by decide) (by omega) (by decide) (by decide) (by omega) (by omega) ?_
    omega
  have a2 := ap_sub a1 hm (by omega) (by omega) (by decide)
  have e : P * 536870912 - H * 536870912 = B * 536870912 := by omega
  rw [e] at a2
  exact ap_le a2 (by decide)
end Mine
end
section
open PySem PySem.W PySem.Float64
set_option Elab.async false
set_option maxRecDepth 100000
set_option maxHeartbeats 1000000
set_option linter.unusedVariables false
set_option rowWalk.seconds 0
namespace Mine
theorem start_F7 : True := by w_top off; trivial
/-- the branch of _v and its factor -/
inductive VB where
  | lin (k : UInt64)
  | hi
  | lo
def vB (hue : UInt64) : VB :=
  if (Float64.cmp (Float64.divmod hue 4607182418800017408).2 4595172819793696085 == some Ordering.lt) = true then .lin (Float64.divmod hue 4607182418800017408).2
  else if (Float64.cmp (Float64.divmod hue 4607182418800017408).2 4602678819172646912 == some Ordering.lt) = true then .hi
  else if (Float64.cmp (Float64.divmod hue 4607182418800017408).2 4604180019048437077 == some Ordering.lt) = true then .lin (Float64.sub 4604180019048437077 (Float64.divmod hue 4607182418800017408).2)
  else .lo
def vOf (m1 m2 : UInt64) : VB → UInt64
  | .lin k => Float64.add m1 (Float64.mul (Float64.mul (Float64.sub m2 m1) k) 4618441417868443648)
  | .hi => m2
  | .lo => m1
theorem vF_eq (m1 m2 hue : UInt64) : vF m1 m2 hue = vOf m1 m2 (vB hue) := by
  unfold vF vB
  split
  · rfl
  · split
    · rfl
    · split
      · rfl
      · rfl
def kap (x : UInt64) : Int := val x / ((2 ^ 1025 : Nat) : Int)
def isF (x : UInt64) : Bool := match decode x with | .fin _ _ _ => true | _ => false
theorem ap_kap {x : UInt64} (h : isF x = true) : Ap x (kap x) 1 := by
  unfold isF at h
  cases q : decode x with
  | fin a m e =>
    refine ⟨⟨a, m, e, q⟩, ?_, ?_⟩
    · have := Int.ediv_mul_le (val x) (show ((2 ^ 1025 : Nat) : Int) ≠ 0 from Int.ne_of_gt E0_pos)
      have h2 : (kap x - 1) * (E0 : Int) = kap x * E0 - E0 := by rw [Int.sub_mul, Int.one_mul]
      have h3 := E0_pos
      have : kap x * (E0 : Int) ≤ val x := this
      omega
    · have := Int.lt_ediv_add_one_mul_self (val x) (show (0 : Int) < ((2 ^ 1025 : Nat) : Int) from E0_pos)
      exact Int.le_of_lt this
  | _ => rw [q] at h; cases h
/-- the branch answers the unit u of n -/
def vOk (b : VB) (n u : Int) : Bool :=
  match b with
  | .hi => u == n
  | .lo => u == 0
  | .lin k => isF k && decide (0 ≤ kap k) && decide (kap k ≤ 562949953421312) && decide (u * 562949953421312 - 60 ≤ 6 * n * kap k) && decide (6 * n * kap k ≤ u * 562949953421312 + 60)
/-- the unit colour of the hue p -/
def unit (n p : Nat) : Nat × Nat × Nat :=
  match p / n with
  | 0 => (n, p % n, 0)
  | 1 => (n - p % n, n, 0)
  | 2 => (0, n, p % n)
  | 3 => (0, n - p % n, n)
  | 4 => (p % n, 0, n)
  | _ => (n, 0, n - p % n)
def hueOk (t : Int) (n p : Nat) : Bool :=
  vOk (vB (Float64.add (hueF t n p) 4599676419421066581)) n (unit n p).1 && vOk (vB (hueF t n p)) n (unit n p).2.1 && vOk (vB (Float64.sub (hueF t n p) 4599676419421066581)) n (unit n p).2.2
theorem hues_ok : ((List.range 7).all fun t => [1, 2, 3].all fun n => (List.range (6 * n)).all fun p => hueOk ((t : Int) - 3) n p) = true := by decide +kernel
theorem hue_ok {t : Int} {n p : Nat} (t0 : -3 ≤ t) (t1 : t ≤ 3) (n0 : 1 ≤ n) (n1 : n ≤ 3) (hp : p < 6 * n) : hueOk t n p = true := by
  have h := hues_ok
  rw [List.all_eq_true] at h
  have h1 := h (t + 3).toNat (List.mem_range.mpr (by omega))
  rw [List.all_eq_true] at h1
  have h2 := h1 n (by rcases (show n = 1 ∨ n = 2 ∨ n = 3 by omega) with rfl | rfl | rfl <;> decide)
  rw [List.all_eq_true] at h2
  have h3 := h2 p (List.mem_range.mpr hp)
  rw [show (((t + 3).toNat : Nat) : Int) - 3 = t by omega] at h3
  exact h3
end Mine
end
section
open PySem PySem.W PySem.Float64
set_option Elab.async false
set_option maxRecDepth 100000
set_option maxHeartbeats 1000000
set_option linter.unusedVariables false
set_option rowWalk.seconds 0
namespace Mine
theorem start_F8 : True := by w_top off; trivial
/-- a channel of the hue is B + u step -/
theorem ap_v {m1 m2 : UInt64} {B step n u : Int} {b : VB} (h1 : Ap m1 (B * 536870912) 16) (h2 : Ap m2 ((B + n * step) * 536870912) 11) (ok : vOk b n u = true)
    (hB : 0 ≤ B) (hs : 0 ≤ step) (hs2 : step ≤ 131072) (hn : 0 ≤ n) (hn3 : n ≤ 3) (hH : B + n * step ≤ 1048575) (hns : 0 ≤ n * step) : Ap (vOf m1 m2 b) ((B + u * step) * 536870912) 400 := by
  cases b with
  | hi =>
    have : u = n := by simpa [vOk] using ok
    subst this
    exact ap_le h2 (by decide)
  | lo =>
    have : u = 0 := by simpa [vOk] using ok
    subst this
    rw [Int.zero_mul, Int.add_zero]
    exact ap_le h1 (by decide)
  | lin k =>
    simp only [vOk, Bool.and_eq_true, decide_eq_true_eq] at ok
    obtain ⟨⟨⟨⟨f, k0⟩, k1⟩, q1⟩, q2⟩ := ok
    have hk := ap_kap f
    generalize kap k = κ at *
    have d := ap_sub h2 h1 (by omega) (by omega) (by decide)
    rw [show (B + n * step) * 536870912 - B * 536870912 = n * step * 536870912 from by omega] at d
    -- n step κ
    have e1 : n * step * 536870912 * κ = n * step * κ * 536870912 := by ac_rfl
    have b1 : 0 ≤ n * step * κ := Int.mul_nonneg hns k0
    have b2 : n * step * κ ≤ 1048575 * 562949953421312 := Int.mul_le_mul (by omega) k1 k0 (by decide)
    -- 6 n κ step against u step
    have c1 := Int.mul_le_mul_of_nonneg_right q1 hs
    have c2 := Int.mul_le_mul_of_nonneg_right q2 hs
    have e2 : 6 * n * κ * step = 6 * (n * step * κ) := by
      rw [Int.mul_assoc, Int.mul_assoc, Int.mul_assoc n step, Int.mul_comm κ step]
    have e3 : (u * 562949953421312 - 60) * step = u * step * 562949953421312 - 60 * step := by rw [Int.sub_mul]; congr 1; ac_rfl
    have e4 : (u * 562949953421312 + 60) * step = u * step * 562949953421312 + 60 * step := by rw [Int.add_mul]; congr 1; ac_rfl
    rw [e2, e3] at c1
    rw [e2, e4] at c2
    generalize n * step * κ = X at *
    generalize hU : u * step = U at *
    generalize n * step = S at *
    have hd1 := Int.ediv_mul_le X (show (1048576 : Int) ≠ 0 by decide)
    have hd2 := Int.lt_ediv_add_one_mul_self X (show (0 : Int) < 1048576 by decide)
    rw [Int.add_mul, Int.one_mul] at hd2
    generalize X / 1048576 = c at *
    have m := ap_mul d hk c 40 (by omega) k0 (by decide) (by decide) (by rw [e1]; omega) (by rw [e1]; omega) (by
      have := Int.mul_le_mul (show S * 536870912 + (11 + 16 + 1) ≤ 562949416550428 by omega) (show κ + 1 ≤ 562949953421313 by omega) (by omega) (by decide)
      exact Int.le_trans this (by decide))
    have m6 := ap_mul m ap_six (6 * c) 260 (by omega) (by decide) (by decide) (by decide) (by omega) (by omega) (by omega)
    have s := ap_add h1 m6 (by omega) (by omega) (by decide)
    obtain ⟨F, l, r⟩ := s
    have hE := Int.le_of_lt E0_pos
    refine ⟨F, Int.le_trans (Int.mul_le_mul_of_nonneg_right ?_ hE) l, Int.le_trans r (Int.mul_le_mul_of_nonneg_right ?_ hE)⟩
    · omega
    · omega
end Mine
end
section
open PySem PySem.W PySem.Float64
set_option Elab.async false
set_option maxRecDepth 100000
set_option maxHeartbeats 1000000
set_option linter.unusedVariables false
set_option rowWalk.seconds 0
namespace Mine
theorem start_F9 : True := by w_top off; trivial
theorem fracF_nat (a b : Nat) : fracF a b = ofFrac false a b := by
  unfold fracF
  rw [decide_eq_false (by omega), decide_eq_false (by omega)]; rfl
theorem ap_fracF {a b z : Int} (ha : 0 ≤ a) (hb : 0 < b) (l : z * b ≤ a * 562949953421312) (u : a * 562949953421312 < (z + 1) * b) (bd : a ≤ b * 16) : Ap (fracF a b) z 2 := by
  obtain ⟨a, rfl⟩ := Int.eq_ofNat_of_zero_le ha
  obtain ⟨b, rfl⟩ := Int.eq_ofNat_of_zero_le (Int.le_of_lt hb)
  rw [fracF_nat]
  rw [Int.add_mul] at u
  refine ap_frac (by omega) z 2 ?_ ?_ (by omega)
  · rw [Int.sub_mul]; omega
  · rw [Int.add_mul]; omega
theorem dyad {a : Int} (k : Nat) (hk : k ≤ 1074) (ha : 0 ≤ a) (ha2 : a ≤ 9007199254740992) : Fin' (fracF a ((2 ^ (1074 - k) : Nat) : Int)) ∧ val (fracF a ((2 ^ (1074 - k) : Nat) : Int)) = a * ((2 ^ k : Nat) : Int) := by
  obtain ⟨a, rfl⟩ := Int.eq_ofNat_of_zero_le ha
  rw [fracF_nat]
  have := frac_exact (n := a) (d := 2 ^ (1074 - k)) (q := a) (k := k) (Nat.two_pow_pos _) (by
    rw [Nat.mul_left_comm, ← Nat.pow_add]; congr 2; omega) (by omega) hk
  refine ⟨this.1, ?_⟩
  rw [this.2, Int.natCast_mul]
theorem ap_dyad {x : UInt64} {a c : Int} {k : Nat} (h : Fin' x ∧ val x = a * ((2 ^ k : Nat) : Int)) (e : ((2 ^ k : Nat) : Int) = c * E0) : Ap x (a * c) 1 := by
  refine ⟨h.1, ?_, ?_⟩
  · rw [h.2, e, Int.sub_mul, ← Int.mul_assoc]; have := E0_pos; omega
  · rw [h.2, e, Int.add_mul, ← Int.mul_assoc]; have := E0_pos; omega
theorem k1053 : ((2 ^ 1053 : Nat) : Int) = 268435456 * E0 := by
  unfold E0; rw [show (1053 : Nat) = 28 + 1025 from rfl, Nat.pow_add, Int.natCast_mul]; rfl
theorem k1054 : ((2 ^ 1054 : Nat) : Int) = 536870912 * E0 := by
  unfold E0; rw [show (1054 : Nat) = 29 + 1025 from rfl, Nat.pow_add, Int.natCast_mul]; rfl
theorem light_is {P : Int} (h0 : 0 ≤ P) (h1 : P ≤ 2097152) : Fin' (fracF P 2097152) ∧ val (fracF P 2097152) = P * ((2 ^ 1053 : Nat) : Int) := dyad 1053 (by decide) h0 (by omega)
theorem value_is {P : Int} (h0 : 0 ≤ P) (h1 : P ≤ 2097152) : Fin' (fracF P 1048576) ∧ val (fracF P 1048576) = P * ((2 ^ 1054 : Nat) : Int) := dyad 1054 (by decide) h0 (by omega)
/-- l <= 0.5 -/
theorem half_is {P : Int} (h0 : 0 ≤ P) (h1 : P ≤ 2097152) :
    ((Float64.cmp (fracF P 2097152) 4602678819172646912 == some Ordering.lt || Float64.cmp (fracF P 2097152) 4602678819172646912 == some Ordering.eq) = true) ↔ P ≤ 1048576 := by
  obtain ⟨⟨a, m, e, d⟩, v⟩ := light_is h0 h1
  obtain ⟨m2, e2, d2, v2⟩ := d_half
  rw [cmp_right d d2, v, v2]
  have e3 : ((2 ^ 1073 : Nat) : Int) = 1048576 * ((2 ^ 1053 : Nat) : Int) := by
    rw [show (1073 : Nat) = 20 + 1053 from rfl, Nat.pow_add, Int.natCast_mul]; rfl
  rw [e3]
  have hG : (0 : Int) < ((2 ^ 1053 : Nat) : Int) := Int.ofNat_lt.mpr (Nat.two_pow_pos _)
  generalize ((2 ^ 1053 : Nat) : Int) = G at *
  rcases Int.lt_trichotomy P 1048576 with h | h | h
  · rw [Int.compare_eq_lt.mpr (Int.mul_lt_mul_of_pos_right h hG)]; simp; omega
  · subst h; simp
  · rw [Int.compare_eq_gt.mpr (Int.mul_lt_mul_of_pos_right h hG)]; simp; omega
theorem not_zero {x : UInt64} {z e : Int} (h : Ap x z e) (hz : e < z) : ¬ (Float64.cmp x 0 == some Ordering.eq) = true := by
  obtain ⟨⟨a, m, q, d⟩, l, u⟩ := h
  have d0 : decode 0 = .fin false 0 (-1074) := by kernel_rfl
  have v0 : val 0 = 0 := by decide +kernel
  rw [cmp_right d d0, v0]
  have : (1 : Int) * E0 ≤ (z - e) * E0 := Int.mul_le_mul_of_nonneg_right (by omega) (Int.le_of_lt E0_pos)
  have := E0_pos
  rw [Int.compare_eq_gt.mpr (show 0 < val x by omega)]
  decide
theorem zero_frac {d : Nat} : (Float64.cmp (ofFrac false 0 d) 0 == some Ordering.eq) = true := by
  have : ofFrac false 0 d = 0 := by
    unfold ofFrac roundMag
    simp
    try kernel_rfl
  rw [this]; kernel_rfl
end Mine
end
section
open PySem PySem.W PySem.Float64
set_option Elab.async false
set_option maxRecDepth 100000
set_option maxHeartbeats 1000000
set_option linter.unusedVariables false
set_option rowWalk.seconds 0
namespace Mine
theorem start_F10 : True := by w_top off; trivial
theorem unit_le {n p : Nat} (hn : 1 ≤ n) : (unit n p).1 ≤ n ∧ (unit n p).2.1 ≤ n ∧ (unit n p).2.2 ≤ n := by
  have := Nat.mod_lt p (show n > 0 by omega)
  unfold unit
  split <;> refine ⟨?_, ?_, ?_⟩ <;> dsimp only <;> omega
/-- the colour's three parts, in the law's ints -/
def part (m step base : Int) (u : Nat) : Int := base + (m + u) * step
theorem read_part {x : UInt64} {B step m base : Int} {u n : Nat} (h : Ap x ((B + u * step) * 536870912) 400) (hB : B = base + m * step) (hu : u ≤ n) (hs : 0 ≤ step) (hB0 : 0 ≤ B) (hH : B + n * step ≤ 1048575) :
    readI x = part m step base u ∧ isFinite (readF x) = true := by
  have h1 : (0 : Int) ≤ u * step := Int.mul_nonneg (by omega) hs
  have h2 : (u : Int) * step ≤ n * step := Int.mul_le_mul_of_nonneg_right (by omega) hs
  have := read_of h (by omega) (by omega) (by decide) (by decide)
  refine ⟨?_, this.2⟩
  rw [this.1]; unfold part; rw [hB, Int.add_mul]; omega
/-- what is asked of a reckoned colour -/
def Reads (x : UInt64 × UInt64 × UInt64) (m step base : Int) (u : Nat × Nat × Nat) : Prop :=
  (readI x.1 = part m step base u.1 ∧ isFinite (readF x.1) = true) ∧ (readI x.2.1 = part m step base u.2.1 ∧ isFinite (readF x.2.1) = true) ∧ (readI x.2.2 = part m step base u.2.2 ∧ isFinite (readF x.2.2) = true)
theorem hls_is {t m step base : Int} {n p : Nat} (t0 : -3 ≤ t) (t1 : t ≤ 3) (hm : 0 ≤ m) (hn : m + n ≤ 3) (hp : p < max 1 (6 * n)) (hs0 : 1 ≤ step) (hs : step ≤ 131072) (hb0 : 0 ≤ base) (hb : base < 524288) :
    Reads (hlsOf t n m p step base) m step base (unit n p) := by
  have hmn : (m + n) * step ≤ 3 * step := Int.mul_le_mul_of_nonneg_right hn (by omega)
  rw [Int.add_mul] at hmn
  have hm0 : 0 ≤ m * step := Int.mul_nonneg hm (by omega)
  have hn0 : (0 : Int) ≤ n * step := Int.mul_nonneg (by omega) (by omega)
  have hboth : bothI n m step base = (base + m * step) + (base + m * step + n * step) := by
    unfold bothI; rw [Int.add_mul, Int.mul_assoc]; omega
  have hB : base + m * step = base + m * step := rfl
  generalize hBB : base + m * step = B at hboth
  have hB0 : 0 ≤ B := by omega
  have hH : B + n * step ≤ 1048575 := by omega
  have hL := light_is (P := bothI n m step base) (by omega) (by omega)
  have aL := ap_dyad hL k1053
  by_cases hz : n = 0
  · subst hz
    have hp0 : p = 0 := by omega
    subst hp0
    have hsz : (Float64.cmp (shareF (0 : Nat) m step base) 0 == some Ordering.eq) = true := by
      unfold shareF fracF
      rw [show (((0 : Nat) : Int) * step) = 0 from by simp]
      have : (decide ((0 : Int) < 0) != decide (maxI 1 (minI (bothI (0 : Nat) m step base) (2097152 - bothI (0 : Nat) m step base)) < 0)) = false := by
        rw [decide_eq_false (by omega), decide_eq_false (by unfold maxI; split <;> omega)]; rfl
      rw [this]
      exact zero_frac
    have hx : hlsOf t (0 : Nat) m (0 : Nat) step base = (lightF (0 : Nat) m step base, lightF (0 : Nat) m step base, lightF (0 : Nat) m step base) := by
      unfold hlsOf hlsF
      rw [if_pos hsz]
    have hr := read_part (x := lightF (0 : Nat) m step base) (B := B) (step := step) (m := m) (base := base) (u := 0) (n := 0) (by
      unfold lightF
      refine ap_le (e := 1) ?_ (by decide)
      have := aL
      rw [hboth] at this ⊢
      rw [show (B + ((0 : Nat) : Int) * step) * 536870912 = (B + (B + ((0 : Nat) : Int) * step)) * 268435456 by simp; omega]
      exact this) hBB.symm (Nat.le_refl _) (by omega) hB0 hH
    unfold Reads
    rw [hx]
    exact ⟨hr, hr, hr⟩
  · have hn1 : 1 ≤ n := by omega
    have hns : step ≤ n * step := by
      have := Int.mul_le_mul_of_nonneg_right (show (1 : Int) ≤ n by omega) (show 0 ≤ step by omega)
      omega
    have ok := hue_ok t0 t1 hn1 (show n ≤ 3 by omega) (show p < 6 * n by omega)
    simp only [hueOk, Bool.and_eq_true] at ok
    obtain ⟨⟨ok1, ok2⟩, ok3⟩ := ok
    have le := unit_le (p := p) hn1
    -- the share
    have hmin : maxI 1 (minI (bothI n m step base) (2097152 - bothI n m step base)) = minI (bothI n m step base) (2097152 - bothI n m step base) := by
      unfold maxI minI; split <;> split <;> omega
    obtain ⟨hM2, hnz⟩ : Ap (hlsM2 (lightF n m step base) (shareF n m step base)) ((B + n * step) * 536870912) 11 ∧ ¬ (Float64.cmp (shareF n m step base) 0 == some Ordering.eq) = true := by
      have hhalf := half_is (P := bothI n m step base) (by omega) (by omega)
      have core : ∀ d : Int, minI (bothI n m step base) (2097152 - bothI n m step base) = d → 1 ≤ d → n * step ≤ d → d ≤ 1048576 → ∃ z, Ap (shareF n m step base) z 2 ∧ 3 ≤ z ∧ z ≤ 562949953421312 ∧ z * d ≤ n * step * 562949953421312 ∧ n * step * 562949953421312 < (z + 1) * d := by
        intro d hd d1 d2 d3
        have q1 := Int.ediv_mul_le (n * step * 562949953421312) (show d ≠ 0 by omega)
        have q2 := Int.lt_ediv_add_one_mul_self (n * step * 562949953421312) (show 0 < d by omega)
        refine ⟨n * step * 562949953421312 / d, ?_, ?_, ?_, q1, q2⟩
        · unfold shareF
          rw [hmin, hd]
          exact ap_fracF hn0 (by omega) q1 q2 (by omega)
        · refine Int.le_ediv_of_mul_le (by omega) ?_
          omega
        · refine Int.ediv_le_of_le_mul (by omega) ?_
          rw [Int.mul_comm 562949953421312]
          exact Int.mul_le_mul_of_nonneg_right d2 (by decide)
      by_cases hh : bothI n m step base ≤ 1048576
      · obtain ⟨z, az, z3, zu, q1, q2⟩ := core (bothI n m step base) (by unfold minI; split <;> omega) (by omega) (by omega) hh
        refine ⟨?_, not_zero az (by omega)⟩
        unfold hlsM2 lightF
        rw [if_pos (hhalf.mpr hh)]
        refine ap_le (ap_m2A (P := bothI n m step base) (H := B + n * step) (B := B) (z := z) aL az (by omega) hB0 (by omega) hH hh (by omega) zu ?_ ?_) (by decide)
        · rw [show B + n * step - B = n * step by omega]; exact q1
        · rw [show B + n * step - B = n * step by omega]; exact q2
      · obtain ⟨z, az, z3, zu, q1, q2⟩ := core (2097152 - bothI n m step base) (by unfold minI; split <;> omega) (by omega) (by omega) (by omega)
        refine ⟨?_, not_zero az (by omega)⟩
        unfold hlsM2 lightF
        rw [if_neg (fun h => hh (hhalf.mp h))]
        refine ap_m2B (P := bothI n m step base) (H := B + n * step) (B := B) (z := z) aL az (by omega) hB0 (by omega) hH (by omega) zu ?_ ?_
        · rw [show B + n * step - B = n * step by omega]; exact q1
        · rw [show B + n * step - B = n * step by omega]; exact q2
    have hM1 : Ap (hlsM1 (lightF n m step base) (shareF n m step base)) (B * 536870912) 16 := ap_m1 (P := bothI n m step base) aL hM2 hboth hB0 (by omega) hH
    have ch : ∀ (o : UInt64) (u : Nat), vOk (vB o) n u = true → u ≤ n → readI (vF (hlsM1 (lightF n m step base) (shareF n m step base)) (hlsM2 (lightF n m step base) (shareF n m step base)) o) = part m step base u ∧ isFinite (readF (vF (hlsM1 (lightF n m step base) (shareF n m step base)) (hlsM2 (lightF n m step base) (shareF n m step base)) o)) = true := by
      intro o u hv hu
      have a := ap_v hM1 hM2 hv hB0 (by omega) hs (by omega) (by omega) hH hn0
      rw [vF_eq]
      exact read_part a hBB.symm hu (by omega) hB0 hH
    unfold Reads hlsOf hlsF
    rw [if_neg hnz]
    exact ⟨ch _ _ ok1 le.1, ch _ _ ok2 le.2.1, ch _ _ ok3 le.2.2⟩
end Mine
end
section
open PySem PySem.W PySem.Float64
set_option Elab.async false
set_option maxRecDepth 100000
set_option maxHeartbeats 1000000
set_option linter.unusedVariables false
set_option rowWalk.seconds 0
namespace Mine
theorem start_F11 : True := by w_top off; trivial
/-- the factor k is r of n -/
def kOk (k : UInt64) (n r : Int) : Bool :=
  isF k && decide (0 ≤ kap k) && decide (kap k ≤ 562949953421312) && decide (r * 562949953421312 - 60 ≤ n * kap k) && decide (n * kap k ≤ r * 562949953421312 + 60)
theorem ap_q {v s k : UInt64} {H z n step r : Int} (hv : Ap v (H * 536870912) 1) (hs : Ap s z 2) (ok : kOk k n r = true) (hH0 : 1 ≤ H) (hH : H ≤ 1048575) (z0 : 0 ≤ z) (z1 : z ≤ 562949953421312)
    (q1 : z * H ≤ n * step * 562949953421312) (q2 : n * step * 562949953421312 < (z + 1) * H) (hs0 : 0 ≤ step) (hs1 : step ≤ 131072) :
    Ap (Float64.mul v (Float64.sub 4607182418800017408 (Float64.mul s k))) ((H - r * step) * 536870912) 400 := by
  simp only [kOk, Bool.and_eq_true, decide_eq_true_eq] at ok
  obtain ⟨⟨⟨⟨f, k0⟩, k1⟩, r1⟩, r2⟩ := ok
  have hk := ap_kap f
  generalize kap k = κ at *
  have e0 : 0 ≤ z * κ := Int.mul_nonneg z0 k0
  have e1 : z * κ ≤ 562949953421312 * 562949953421312 := Int.mul_le_mul z1 k1 k0 (by decide)
  -- c = z κ / one
  have d1 := Int.ediv_mul_le (z * κ) (show (562949953421312 : Int) ≠ 0 by decide)
  have d2 := Int.lt_ediv_add_one_mul_self (z * κ) (show (0 : Int) < 562949953421312 by decide)
  have c0 : 0 ≤ z * κ / 562949953421312 := Int.ediv_nonneg e0 (by decide)
  have c1 : z * κ / 562949953421312 ≤ 562949953421312 := Int.ediv_le_of_le_mul (by decide) e1
  rw [Int.add_mul, Int.one_mul] at d2
  generalize z * κ / 562949953421312 = c at *
  have a1 : Ap (Float64.mul s k) c 6 := by
    refine ap_mul hs hk c 6 z0 k0 (by decide) (by decide) (by omega) (by omega) ?_
    have := Int.mul_le_mul (show z + 2 ≤ 562949953421314 by omega) (show κ + 1 ≤ 562949953421313 by omega) (by omega) (by decide)
    exact Int.le_trans this (by decide)
  have a2 := ap_sub ap_one a1 (by omega) (by omega) (by decide)
  -- H c against r step
  have g1 := Int.mul_le_mul_of_nonneg_left d1 (show 0 ≤ H by omega)
  have g2 := Int.mul_lt_mul_of_pos_left d2 (show 0 < H by omega)
  have g3 := Int.mul_le_mul_of_nonneg_right q1 k0
  have g4 := Int.mul_le_mul_of_nonneg_right (Int.le_of_lt q2) k0
  have g5 := Int.mul_le_mul_of_nonneg_right r1 hs0
  have g6 := Int.mul_le_mul_of_nonneg_right r2 hs0
  have g7 : H * κ ≤ H * 562949953421312 := Int.mul_le_mul_of_nonneg_left k1 (by omega)
  have x1 : H * (c * 562949953421312) = H * c * 562949953421312 := by ac_rfl
  have x2 : H * (c * 562949953421312 + 562949953421312) = H * c * 562949953421312 + H * 562949953421312 := by rw [Int.mul_add]; congr 1
  have x3 : z * H * κ = H * (z * κ) := by ac_rfl
  have x4 : n * step * 562949953421312 * κ = n * κ * step * 562949953421312 := by ac_rfl
  have x5 : (z + 1) * H * κ = H * (z * κ) + H * κ := by rw [Int.add_mul, Int.add_mul, Int.one_mul]; congr 1; 
  have x6 : (r * 562949953421312 - 60) * step = r * step * 562949953421312 - 60 * step := by rw [Int.sub_mul]; congr 1; ac_rfl
  have x7 : (r * 562949953421312 + 60) * step = r * step * 562949953421312 + 60 * step := by rw [Int.add_mul]; congr 1; ac_rfl
  rw [x1] at g1
  rw [x2] at g2
  rw [x3, x4] at g3
  rw [x4, x5] at g4
  rw [x6] at g5
  rw [x7] at g6
  have f1 : H * 536870912 * (562949953421312 - c) = H * 302231454903657293676544 - H * c * 536870912 := by
    rw [Int.mul_sub]
    have : H * 536870912 * 562949953421312 = H * 302231454903657293676544 := by rw [Int.mul_assoc]; rfl
    have : H * 536870912 * c = H * c * 536870912 := by ac_rfl
    omega
  refine ap_le (e := 40) (ap_mul hv a2 ((H - r * step) * 536870912) 40 (by omega) (by omega) (by decide) (by decide) ?_ ?_ ?_) (by decide)
  · rw [f1]
    generalize H * c = HC at *
    generalize H * (z * κ) = HZ at *
    generalize n * κ * step = NS at *
    generalize r * step = RS at *
    generalize H * κ = HK at *
    omega
  · rw [f1]
    generalize H * c = HC at *
    generalize H * (z * κ) = HZ at *
    generalize n * κ * step = NS at *
    generalize r * step = RS at *
    generalize H * κ = HK at *
    omega
  · have := Int.mul_le_mul (show H * 536870912 + 1 ≤ 562949416550401 by omega) (show 562949953421312 - c + (0 + 6 + 1) ≤ 562949953421319 by omega) (by omega) (by decide)
    exact Int.le_trans this (by decide)
def satOk (i : Int) (f : UInt64) (n : Nat) (u : Nat × Nat × Nat) : Bool :=
  if i.fmod 6 = 0 then (u.1 == n && kOk (Float64.sub 4607182418800017408 f) n (n - u.2.1) && u.2.2 == 0)
  else if i.fmod 6 = 1 then (kOk f n (n - u.1) && u.2.1 == n && u.2.2 == 0)
  else if i.fmod 6 = 2 then (u.1 == 0 && u.2.1 == n && kOk (Float64.sub 4607182418800017408 f) n (n - u.2.2))
  else if i.fmod 6 = 3 then (u.1 == 0 && kOk f n (n - u.2.1) && u.2.2 == n)
  else if i.fmod 6 = 4 then (kOk (Float64.sub 4607182418800017408 f) n (n - u.1) && u.2.1 == 0 && u.2.2 == n)
  else (u.1 == n && u.2.1 == 0 && kOk f n (n - u.2.2))
theorem sats_ok : ((List.range 4).all fun t => [1, 2, 3].all fun n => (List.range (6 * n)).all fun p => satOk (hsvI (hueF t n p)) (hsvFr (hueF t n p)) n (unit n p)) = true := by decide +kernel
theorem sides_ok : ((List.range 4).all fun t => [0, 1, 2, 3].all fun n => (List.range (max 1 (6 * n))).all fun p => isFinite (Float64.mul (hueF t n p) 4618441417868443648) && decide ((Flt.toInt Float64.truncOf (Float64.mul (hueF t n p) 4618441417868443648)).natAbs < 100)) = true := by decide +kernel
end Mine
end
section
open PySem PySem.W PySem.Float64
set_option Elab.async false
set_option maxRecDepth 100000
set_option maxHeartbeats 1000000
set_option linter.unusedVariables false
set_option rowWalk.seconds 0
namespace Mine
theorem start_F12 : True := by w_top off; trivial
theorem sat_ok {t : Int} {n p : Nat} (t0 : 0 ≤ t) (t1 : t ≤ 3) (n0 : 1 ≤ n) (n1 : n ≤ 3) (hp : p < 6 * n) : satOk (hsvI (hueF t n p)) (hsvFr (hueF t n p)) n (unit n p) = true := by
  have h := sats_ok
  rw [List.all_eq_true] at h
  have h1 := h t.toNat (List.mem_range.mpr (by omega))
  rw [List.all_eq_true] at h1
  have h2 := h1 n (by rcases (show n = 1 ∨ n = 2 ∨ n = 3 by omega) with rfl | rfl | rfl <;> decide)
  rw [List.all_eq_true] at h2
  have h3 := h2 p (List.mem_range.mpr hp)
  rw [show ((t.toNat : Nat) : Int) = t by omega] at h3
  exact h3
theorem side_ok {t : Int} {n p : Nat} (t0 : 0 ≤ t) (t1 : t ≤ 3) (n1 : n ≤ 3) (hp : p < max 1 (6 * n)) :
    isFinite (Float64.mul (hueF t n p) 4618441417868443648) = true ∧ (Flt.toInt Float64.truncOf (Float64.mul (hueF t n p) 4618441417868443648)).natAbs < 2 ^ 1024 - 2 ^ 970 := by
  have h := sides_ok
  rw [List.all_eq_true] at h
  have h1 := h t.toNat (List.mem_range.mpr (by omega))
  rw [List.all_eq_true] at h1
  have h2 := h1 n (by rcases (show n = 0 ∨ n = 1 ∨ n = 2 ∨ n = 3 by omega) with rfl | rfl | rfl | rfl <;> decide)
  rw [List.all_eq_true] at h2
  have h3 := h2 p (List.mem_range.mpr hp)
  rw [show ((t.toNat : Nat) : Int) = t by omega, Bool.and_eq_true, decide_eq_true_eq] at h3
  exact ⟨h3.1, Nat.lt_of_lt_of_le h3.2 (by decide +kernel)⟩
theorem hsv_is {t m step base : Int} {n p : Nat} (t0 : 0 ≤ t) (t1 : t ≤ 3) (hm : 0 ≤ m) (hn : m + n ≤ 3) (hp : p < max 1 (6 * n)) (hs0 : 1 ≤ step) (hs : step ≤ 131072) (hb0 : 0 ≤ base) (hb : base < 524288) :
    Reads (hsvOf t n m p step base) m step base (unit n p) := by
  have hmn : (m + n) * step ≤ 3 * step := Int.mul_le_mul_of_nonneg_right hn (by omega)
  rw [Int.add_mul] at hmn
  have hm0 : 0 ≤ m * step := Int.mul_nonneg hm (by omega)
  have hn0 : (0 : Int) ≤ n * step := Int.mul_nonneg (by omega) (by omega)
  have hmost : mostI n m step base = base + m * step + n * step := by
    unfold mostI; rw [Int.add_mul]; omega
  generalize hBB : base + m * step = B at hmost
  have hB0 : 0 ≤ B := by omega
  have hH : B + n * step ≤ 1048575 := by omega
  have aV := ap_dyad (value_is (P := mostI n m step base) (by omega) (by omega)) k1054
  by_cases hz : n = 0
  · subst hz
    have hp0 : p = 0 := by omega
    subst hp0
    have hsz : (Float64.cmp (satF (0 : Nat) m step base) 0 == some Ordering.eq) = true := by
      unfold satF fracF
      rw [show (((0 : Nat) : Int) * step) = 0 from by simp]
      have : (decide ((0 : Int) < 0) != decide (maxI 1 (mostI (0 : Nat) m step base) < 0)) = false := by
        rw [decide_eq_false (by omega), decide_eq_false (by unfold maxI; split <;> omega)]; rfl
      rw [this]
      exact zero_frac
    have hx : hsvOf t (0 : Nat) m (0 : Nat) step base = (valF (0 : Nat) m step base, valF (0 : Nat) m step base, valF (0 : Nat) m step base) := by
      unfold hsvOf hsvF
      rw [if_pos hsz]
    have hr := read_part (x := valF (0 : Nat) m step base) (B := B) (step := step) (m := m) (base := base) (u := 0) (n := 0) (by
      unfold valF
      refine ap_le (e := 1) ?_ (by decide)
      have := aV
      rw [hmost] at this ⊢
      exact this) hBB.symm (Nat.le_refl _) (by omega) hB0 hH
    unfold Reads
    rw [hx]
    exact ⟨hr, hr, hr⟩
  · have hn1 : 1 ≤ n := by omega
    have hns : step ≤ n * step := by
      have := Int.mul_le_mul_of_nonneg_right (show (1 : Int) ≤ n by omega) (show 0 ≤ step by omega)
      omega
    have ok := sat_ok t0 t1 hn1 (show n ≤ 3 by omega) (show p < 6 * n by omega)
    have le := unit_le (p := p) hn1
    have hmax : maxI 1 (mostI n m step base) = mostI n m step base := by unfold maxI; split <;> omega
    have q1 := Int.ediv_mul_le (n * step * 562949953421312) (show mostI n m step base ≠ 0 by omega)
    have q2 := Int.lt_ediv_add_one_mul_self (n * step * 562949953421312) (show 0 < mostI n m step base by omega)
    have z3 : 3 ≤ n * step * 562949953421312 / mostI n m step base := Int.le_ediv_of_mul_le (by omega) (by omega)
    have zu : n * step * 562949953421312 / mostI n m step base ≤ 562949953421312 := by
      refine Int.ediv_le_of_le_mul (by omega) ?_
      rw [Int.mul_comm 562949953421312]
      exact Int.mul_le_mul_of_nonneg_right (by omega) (by decide)
    have aS : Ap (satF n m step base) (n * step * 562949953421312 / mostI n m step base) 2 := by
      unfold satF
      rw [hmax]
      exact ap_fracF hn0 (by omega) q1 q2 (by omega)
    have hnz := not_zero aS (by omega)
    generalize n * step * 562949953421312 / mostI n m step base = z at *
    have hq : ∀ (k : UInt64) (u : Nat), kOk k n (n - (u : Int)) = true → u ≤ n → readI (Float64.mul (valF n m step base) (Float64.sub 4607182418800017408 (Float64.mul (satF n m step base) k))) = part m step base u ∧ isFinite (readF (Float64.mul (valF n m step base) (Float64.sub 4607182418800017408 (Float64.mul (satF n m step base) k)))) = true := by
      intro k u hk hu
      have a := ap_q (step := step) aV aS hk (by omega) (by omega) (by omega) zu q1 q2 (by omega) hs
      refine read_part ?_ hBB.symm hu (by omega) hB0 hH
      have e : mostI n m step base - (n - (u : Int)) * step = B + u * step := by rw [hmost, Int.sub_mul]; omega
      rw [e] at a
      exact a
    have hP : readI (hsvP (satF n m step base) (valF n m step base)) = part m step base 0 ∧ isFinite (readF (hsvP (satF n m step base) (valF n m step base))) = true := by
      have a2 := ap_sub ap_one aS (by omega) (by omega) (by decide)
      unfold hsvP
      refine read_part (u := 0) (n := n) ?_ hBB.symm (by omega) (by omega) hB0 hH
      refine ap_le (e := 40) (ap_mul aV a2 ((B + ((0 : Nat) : Int) * step) * 536870912) 40 (by omega) (by omega) (by decide) (by decide) ?_ ?_ ?_) (by decide)
      · have x5 : (z + 1) * mostI n m step base = z * mostI n m step base + mostI n m step base := by rw [Int.add_mul, Int.one_mul]
        have f1 : mostI n m step base * 536870912 * (562949953421312 - z) = mostI n m step base * 302231454903657293676544 - z * mostI n m step base * 536870912 := by
          rw [Int.mul_sub]
          have : mostI n m step base * 536870912 * 562949953421312 = mostI n m step base * 302231454903657293676544 := by rw [Int.mul_assoc]; rfl
          have : mostI n m step base * 536870912 * z = z * mostI n m step base * 536870912 := by ac_rfl
          omega
        rw [f1, show ((0 : Nat) : Int) * step = 0 by simp]
        rw [x5] at q2
        generalize z * mostI n m step base = ZM at *
        omega
      · have x5 : (z + 1) * mostI n m step base = z * mostI n m step base + mostI n m step base := by rw [Int.add_mul, Int.one_mul]
        have f1 : mostI n m step base * 536870912 * (562949953421312 - z) = mostI n m step base * 302231454903657293676544 - z * mostI n m step base * 536870912 := by
          rw [Int.mul_sub]
          have : mostI n m step base * 536870912 * 562949953421312 = mostI n m step base * 302231454903657293676544 := by rw [Int.mul_assoc]; rfl
          have : mostI n m step base * 536870912 * z = z * mostI n m step base * 536870912 := by ac_rfl
          omega
        rw [f1, show ((0 : Nat) : Int) * step = 0 by simp]
        rw [x5] at q2
        generalize z * mostI n m step base = ZM at *
        omega
      · have := Int.mul_le_mul (show mostI n m step base * 536870912 + 1 ≤ 562949416550401 by omega) (show 562949953421312 - z + (0 + 2 + 1) ≤ 562949953421315 by omega) (by omega) (by decide)
        exact Int.le_trans this (by decide)
    have hV : readI (valF n m step base) = part m step base n ∧ isFinite (readF (valF n m step base)) = true := by
      refine read_part (u := n) (n := n) ?_ hBB.symm (Nat.le_refl _) (by omega) hB0 hH
      refine ap_le (e := 1) ?_ (by decide)
      unfold valF
      have := aV
      rw [hmost] at this ⊢
      exact this
    have hf5 := @fmod6 (hsvI (hueF t n p))
    unfold Reads hsvOf hsvF
    rw [if_neg hnz]
    unfold satOk at ok
    obtain ⟨l1, l2, l3⟩ := le
    generalize unit n p = u at *
    obtain ⟨u1, u2, u3⟩ := u
    dsimp only at *
    split at ok
    · rename_i h; rw [if_pos h]
      simp only [Bool.and_eq_true, beq_iff_eq] at ok
      obtain ⟨⟨rfl, o2⟩, rfl⟩ := ok
      exact ⟨hV, hq _ _ o2 l2, hP⟩
    · rename_i h0; rw [if_neg h0]
      split at ok
      · rename_i h; rw [if_pos h]
        simp only [Bool.and_eq_true, beq_iff_eq] at ok
        obtain ⟨⟨o1, rfl⟩, rfl⟩ := ok
        exact ⟨hq _ _ o1 l1, hV, hP⟩
      · rename_i h1; rw [if_neg h1]
        split at ok
        · rename_i h; rw [if_pos h]
          simp only [Bool.and_eq_true, beq_iff_eq] at ok
          obtain ⟨⟨rfl, rfl⟩, o3⟩ := ok
          exact ⟨hP, hV, hq _ _ o3 l3⟩
        · rename_i h2; rw [if_neg h2]
          split at ok
          · rename_i h; rw [if_pos h]
            simp only [Bool.and_eq_true, beq_iff_eq] at ok
            obtain ⟨⟨rfl, o2⟩, rfl⟩ := ok
            exact ⟨hP, hq _ _ o2 l2, hV⟩
          · rename_i h3; rw [if_neg h3]
            split at ok
            · rename_i h; rw [if_pos h]
              simp only [Bool.and_eq_true, beq_iff_eq] at ok
              obtain ⟨⟨o1, rfl⟩, rfl⟩ := ok
              exact ⟨hq _ _ o1 l1, hP, hV⟩
            · rename_i h4; rw [if_neg h4]
              simp only [Bool.and_eq_true, beq_iff_eq] at ok
              obtain ⟨⟨rfl, rfl⟩, o3⟩ := ok
              exact ⟨hV, hP, hq _ _ o3 l3⟩
end Mine
end
section
open PySem PySem.W
set_option Elab.async false
set_option maxRecDepth 100000
set_option maxHeartbeats 1000000
set_option linter.unusedVariables false
set_option rowWalk.seconds 0
namespace Mine
theorem start_P0 : True := by w_top off; trivial
/-- the colour of a name, in parts -/
def colOf (step base : Int) (x : Nm) : Nm :=
  (part x.2.1 step base (unit x.1.toNat x.2.2.toNat).1, part x.2.1 step base (unit x.1.toNat x.2.2.toNat).2.1, part x.2.1 step base (unit x.1.toNat x.2.2.toNat).2.2)
def scale (step base : Int) (x : Nm) : Nm := (base + x.1 * step, base + x.2.1 * step, base + x.2.2 * step)
theorem col_scale (step base : Int) (x : Nm) : colOf step base x = scale step base (colOf 1 0 x) := by
  unfold colOf scale part; simp
/-- the six orders -/
def Ord (x0 x1 x2 : Int) : Prop := (x0 = 0 ∧ x1 = 1 ∧ x2 = 2) ∨ (x0 = 0 ∧ x1 = 2 ∧ x2 = 1) ∨ (x0 = 1 ∧ x1 = 0 ∧ x2 = 2) ∨ (x0 = 1 ∧ x1 = 2 ∧ x2 = 0) ∨ (x0 = 2 ∧ x1 = 0 ∧ x2 = 1) ∨ (x0 = 2 ∧ x1 = 1 ∧ x2 = 0)
def L3 (x0 x1 x2 g0 g1 g2 : Int) (a b : Nm) : Bool := less3 x0 x1 x2 g0 g1 g2 a.1 a.2.1 a.2.2 b.1 b.2.1 b.2.2
def rank (x0 x1 x2 g0 g1 g2 : Int) (a : Nm) : Int := (at3 x0 a.1 a.2.1 a.2.2 * g0) * 17592186044416 + (at3 x1 a.1 a.2.1 a.2.2 * g1) * 4194304 + at3 x2 a.1 a.2.1 a.2.2 * g2
def Small (a : Nm) : Prop := (0 ≤ a.1 ∧ a.1 < 1048576) ∧ (0 ≤ a.2.1 ∧ a.2.1 < 1048576) ∧ (0 ≤ a.2.2 ∧ a.2.2 < 1048576)
theorem at3_small {x : Int} {a : Nm} (h : Small a) : 0 ≤ at3 x a.1 a.2.1 a.2.2 ∧ at3 x a.1 a.2.1 a.2.2 < 1048576 := by
  unfold at3
  split
  · exact h.1
  · split
    · exact h.2.1
    · exact h.2.2
theorem L3_rank {x0 x1 x2 g0 g1 g2 : Int} {a b : Nm} (ha : Small a) (hb : Small b) (h0 : g0 = 1 ∨ g0 = -1) (h1 : g1 = 1 ∨ g1 = -1) (h2 : g2 = 1 ∨ g2 = -1) :
    L3 x0 x1 x2 g0 g1 g2 a b = decide (rank x0 x1 x2 g0 g1 g2 a < rank x0 x1 x2 g0 g1 g2 b) := by
  unfold L3 less3 rank
  have a0 := at3_small (x := x0) ha
  have a1 := at3_small (x := x1) ha
  have a2 := at3_small (x := x2) ha
  have b0 := at3_small (x := x0) hb
  have b1 := at3_small (x := x1) hb
  have b2 := at3_small (x := x2) hb
  generalize at3 x0 a.1 a.2.1 a.2.2 = p0 at *
  generalize at3 x1 a.1 a.2.1 a.2.2 = p1 at *
  generalize at3 x2 a.1 a.2.1 a.2.2 = p2 at *
  generalize at3 x0 b.1 b.2.1 b.2.2 = q0 at *
  generalize at3 x1 b.1 b.2.1 b.2.2 = q1 at *
  generalize at3 x2 b.1 b.2.1 b.2.2 = q2 at *
  rcases h0 with rfl | rfl <;> rcases h1 with rfl | rfl <;> rcases h2 with rfl | rfl <;>
  · split
    · exact decide_eq_decide.mpr (by omega)
    · split
      · exact decide_eq_decide.mpr (by omega)
      · split
        · exact decide_eq_decide.mpr (by omega)
        · exact (decide_eq_false (by omega)).symm
theorem at3_scale (step base x : Int) (a : Nm) : at3 x (scale step base a).1 (scale step base a).2.1 (scale step base a).2.2 = base + at3 x a.1 a.2.1 a.2.2 * step := by
  unfold at3 scale; split <;> (try split) <;> rfl
theorem L3_scale {x0 x1 x2 g0 g1 g2 step base : Int} {a b : Nm} (hs : 1 ≤ step) (h0 : g0 = 1 ∨ g0 = -1) (h1 : g1 = 1 ∨ g1 = -1) (h2 : g2 = 1 ∨ g2 = -1) (h : L3 x0 x1 x2 g0 g1 g2 a b = true) :
    L3 x0 x1 x2 g0 g1 g2 (scale step base a) (scale step base b) = true := by
  have key : ∀ p q : Int, p < q → base + p * step < base + q * step := fun p q h => by
    have := Int.mul_lt_mul_of_pos_right h (show 0 < step by omega); omega
  have key2 : ∀ p q : Int, (base + p * step = base + q * step) ↔ p = q := fun p q => by
    refine ⟨fun e => ?_, fun e => by rw [e]⟩
    rcases Int.lt_trichotomy p q with h | h | h
    · have := key _ _ h; omega
    · exact h
    · have := key _ _ h; omega
  have key3 : ∀ (p q g : Int), (g = 1 ∨ g = -1) → (p - q) * g < 0 → (base + p * step - (base + q * step)) * g < 0 := by
    rintro p q g (rfl | rfl) h
    · have := key p q (by omega); omega
    · have := key q p (by omega); omega
  unfold L3 less3 at h ⊢
  simp only [at3_scale, ne_eq, key2]
  split at h
  · rename_i hc; rw [if_pos hc]; exact decide_eq_true (key3 _ _ _ h0 (of_decide_eq_true h))
  · rename_i hc; rw [if_neg hc]
    split at h
    · rename_i hc; rw [if_pos hc]; exact decide_eq_true (key3 _ _ _ h1 (of_decide_eq_true h))
    · rename_i hc; rw [if_neg hc]
      split at h
      · rename_i hc; rw [if_pos hc]; exact decide_eq_true (key3 _ _ _ h2 (of_decide_eq_true h))
      · cases h
end Mine
end
section
open PySem PySem.W
set_option Elab.async false
set_option maxRecDepth 100000
set_option maxHeartbeats 1000000
set_option linter.unusedVariables false
set_option rowWalk.seconds 0
namespace Mine
theorem start_P1 : True := by w_top off; trivial
theorem steps_scale (N : Nat) (step base : Int) : stepsL N step base = (stepsL N 1 0).map fun a => base + a * step := by
  unfold stepsL; rw [List.map_map]; congr 1; funext k; simp
theorem walk_scale (N : Nat) (step base g : Int) : walkL N step base g = (walkL N 1 0 g).map fun a => base + a * step := by
  unfold walkL; split
  · exact steps_scale ..
  · rw [steps_scale, List.map_reverse]
theorem place_scale {x0 x1 x2 step base x y z : Int} (o : Ord x0 x1 x2) : place x0 x1 x2 (base + x * step) (base + y * step) (base + z * step) = scale step base (place x0 x1 x2 x y z) := by
  rcases o with ⟨rfl, rfl, rfl⟩ | ⟨rfl, rfl, rfl⟩ | ⟨rfl, rfl, rfl⟩ | ⟨rfl, rfl, rfl⟩ | ⟨rfl, rfl, rfl⟩ | ⟨rfl, rfl, rfl⟩ <;> rfl
theorem cube_scale {x0 x1 x2 step base g0 g1 g2 : Int} {N : Nat} (o : Ord x0 x1 x2) :
    cubeX x0 x1 x2 (walkL N step base g0) (walkL N step base g1) (walkL N step base g2) = (cubeX x0 x1 x2 (walkL N 1 0 g0) (walkL N 1 0 g1) (walkL N 1 0 g2)).map (scale step base) := by
  rw [walk_scale N step base g0, walk_scale N step base g1, walk_scale N step base g2]
  unfold cubeX cubeY cubeZ
  simp only [List.flatMap_map, List.map_flatMap, List.map_map]
  congr 1; funext x
  congr 1; funext y
  congr 1; funext z
  exact place_scale o
def headB (f : Nm → Nm → Bool) (x : Nm) : List Nm → Bool
  | [] => true
  | y :: _ => f x y
/-- each item before the next -/
def chainB (f : Nm → Nm → Bool) : List Nm → Bool
  | [] => true
  | x :: l => headB f x l && chainB f l
theorem chain_head {f : Nm → Nm → Bool} {P : Nm → Prop} (tr : ∀ a b c, P a → P b → P c → f a b = true → f b c = true → f a c = true) : ∀ {l : List Nm} {x : Nm}, (∀ a ∈ x :: l, P a) → chainB f (x :: l) = true → ∀ z ∈ l, f x z = true
  | y :: l, x, hP, h, z, hz => by
    rw [chainB, Bool.and_eq_true] at h
    rcases List.mem_cons.mp hz with rfl | hz
    · exact h.1
    · exact tr x y z (hP _ (.head _)) (hP _ (.tail _ (.head _))) (hP _ (.tail _ (.tail _ hz))) h.1 (chain_head tr (fun a ha => hP a (.tail _ ha)) h.2 z hz)
theorem chain_pair {f : Nm → Nm → Bool} {P : Nm → Prop} (tr : ∀ a b c, P a → P b → P c → f a b = true → f b c = true → f a c = true) : ∀ {l : List Nm}, (∀ a ∈ l, P a) → chainB f l = true → l.Pairwise fun a b => f a b = true
  | [], _, _ => .nil
  | x :: l, hP, h => .cons (chain_head tr hP h) (chain_pair tr (fun a ha => hP a (.tail _ ha)) (by rw [chainB, Bool.and_eq_true] at h; exact h.2))
def orders : List (Int × Int × Int) := [(0, 1, 2), (0, 2, 1), (1, 0, 2), (1, 2, 0), (2, 0, 1), (2, 1, 0)]
theorem chain_table : ([2, 3].all fun N => orders.all fun o => [1, -1].all fun g0 => [1, -1].all fun g1 => [1, -1].all fun g2 =>
    chainB (L3 o.1 o.2.1 o.2.2 g0 g1 g2) (cubeX o.1 o.2.1 o.2.2 (walkL N 1 0 g0) (walkL N 1 0 g1) (walkL N 1 0 g2)) &&
    ((cubeX o.1 o.2.1 o.2.2 (walkL N 1 0 g0) (walkL N 1 0 g1) (walkL N 1 0 g2)).length == (nameL N).length)) = true := by decide +kernel
/-- all triples -/
def boxL (N : Nat) : List Nm := (stepsL N 1 0).flatMap fun x => (stepsL N 1 0).flatMap fun y => (stepsL N 1 0).map fun z => (x, y, z)
theorem box_table : ([2, 3].all fun N => (boxL N).isPerm ((nameL N).map (colOf 1 0)) && (boxL N).all fun a => decide (0 ≤ a.1) && decide (a.1 ≤ 3) && decide (0 ≤ a.2.1) && decide (a.2.1 ≤ 3) && decide (0 ≤ a.2.2) && decide (a.2.2 ≤ 3)) = true := by decide +kernel
theorem mem_walk {N : Nat} {g x : Int} (h : x ∈ walkL N 1 0 g) : x ∈ stepsL N 1 0 := by
  unfold walkL at h; split at h
  · exact h
  · exact List.mem_reverse.mp h
theorem mem_cube {x0 x1 x2 g0 g1 g2 : Int} {N : Nat} (o : Ord x0 x1 x2) {c : Nm} (h : c ∈ cubeX x0 x1 x2 (walkL N 1 0 g0) (walkL N 1 0 g1) (walkL N 1 0 g2)) : c ∈ boxL N := by
  unfold cubeX at h
  obtain ⟨x, hx, h⟩ := List.mem_flatMap.mp h
  unfold cubeY at h
  obtain ⟨y, hy, h⟩ := List.mem_flatMap.mp h
  unfold cubeZ at h
  obtain ⟨z, hz, rfl⟩ := List.mem_map.mp h
  have hx := mem_walk hx
  have hy := mem_walk hy
  have hz := mem_walk hz
  have key : ∀ a b c : Int, a ∈ stepsL N 1 0 → b ∈ stepsL N 1 0 → c ∈ stepsL N 1 0 → (a, b, c) ∈ boxL N := fun a b c ha hb hc =>
    List.mem_flatMap.mpr ⟨a, ha, List.mem_flatMap.mpr ⟨b, hb, List.mem_map.mpr ⟨c, hc, rfl⟩⟩⟩
  rcases o with ⟨rfl, rfl, rfl⟩ | ⟨rfl, rfl, rfl⟩ | ⟨rfl, rfl, rfl⟩ | ⟨rfl, rfl, rfl⟩ | ⟨rfl, rfl, rfl⟩ | ⟨rfl, rfl, rfl⟩
  · exact key _ _ _ hx hy hz
  · exact key _ _ _ hx hz hy
  · exact key _ _ _ hy hx hz
  · exact key _ _ _ hz hx hy
  · exact key _ _ _ hy hz hx
  · exact key _ _ _ hz hy hx
theorem in_orders {x0 x1 x2 : Int} (o : Ord x0 x1 x2) : (x0, x1, x2) ∈ orders := by
  rcases o with ⟨rfl, rfl, rfl⟩ | ⟨rfl, rfl, rfl⟩ | ⟨rfl, rfl, rfl⟩ | ⟨rfl, rfl, rfl⟩ | ⟨rfl, rfl, rfl⟩ | ⟨rfl, rfl, rfl⟩ <;> decide
theorem in_signs {g : Int} (h : g = 1 ∨ g = -1) : g ∈ [(1 : Int), -1] := by rcases h with rfl | rfl <;> decide
theorem in_tops {N : Nat} (h : N = 2 ∨ N = 3) : N ∈ [2, 3] := by rcases h with rfl | rfl <;> decide
theorem perm_of_sub : ∀ {l B : List Nm}, l.Nodup → (∀ x ∈ l, x ∈ B) → ∃ r, (l ++ r).Perm B
  | [], B, _, _ => ⟨B, .rfl⟩
  | x :: l, B, hn, hs => by
    obtain ⟨hx, hn'⟩ := List.nodup_cons.mp hn
    obtain ⟨r, hr⟩ := perm_of_sub (B := B.erase x) hn' fun y hy => (List.mem_erase_of_ne (fun (e : y = x) => hx (e ▸ hy))).mpr (hs y (.tail _ hy))
    exact ⟨r, (hr.cons x).trans (List.perm_cons_erase (hs x (.head _))).symm⟩
section
variable {N : Nat} {x0 x1 x2 g0 g1 g2 : Int}
theorem unit_rises (hN : N = 2 ∨ N = 3) (o : Ord x0 x1 x2) (h0 : g0 = 1 ∨ g0 = -1) (h1 : g1 = 1 ∨ g1 = -1) (h2 : g2 = 1 ∨ g2 = -1) :
    (cubeX x0 x1 x2 (walkL N 1 0 g0) (walkL N 1 0 g1) (walkL N 1 0 g2)).Pairwise fun a b => L3 x0 x1 x2 g0 g1 g2 a b = true := by
  have h := List.all_eq_true.mp (List.all_eq_true.mp (List.all_eq_true.mp (List.all_eq_true.mp (List.all_eq_true.mp chain_table N (in_tops hN)) _ (in_orders o)) g0 (in_signs h0)) g1 (in_signs h1)) g2 (in_signs h2)
  rw [Bool.and_eq_true] at h
  have hb := List.all_eq_true.mp box_table N (in_tops hN)
  rw [Bool.and_eq_true, List.all_eq_true] at hb
  refine chain_pair (P := Small) (fun a b c ha hb hc e1 e2 => ?_) (fun a ha => ?_) h.1
  · rw [L3_rank ha hb h0 h1 h2, decide_eq_true_eq] at e1
    rw [L3_rank hb hc h0 h1 h2, decide_eq_true_eq] at e2
    rw [L3_rank ha hc h0 h1 h2, decide_eq_true_eq]
    exact Int.lt_trans e1 e2
  · have := hb.2 a (mem_cube o ha)
    simp only [Bool.and_eq_true, decide_eq_true_eq] at this
    unfold Small; omega
theorem unit_perm (hN : N = 2 ∨ N = 3) (o : Ord x0 x1 x2) (h0 : g0 = 1 ∨ g0 = -1) (h1 : g1 = 1 ∨ g1 = -1) (h2 : g2 = 1 ∨ g2 = -1) :
    (cubeX x0 x1 x2 (walkL N 1 0 g0) (walkL N 1 0 g1) (walkL N 1 0 g2)).Perm ((nameL N).map (colOf 1 0)) := by
  have h := List.all_eq_true.mp (List.all_eq_true.mp (List.all_eq_true.mp (List.all_eq_true.mp (List.all_eq_true.mp chain_table N (in_tops hN)) _ (in_orders o)) g0 (in_signs h0)) g1 (in_signs h1)) g2 (in_signs h2)
  rw [Bool.and_eq_true, beq_iff_eq] at h
  have hb := List.all_eq_true.mp box_table N (in_tops hN)
  rw [Bool.and_eq_true, List.all_eq_true] at hb
  have hp := List.isPerm_iff.mp hb.1
  have hn : (cubeX x0 x1 x2 (walkL N 1 0 g0) (walkL N 1 0 g1) (walkL N 1 0 g2)).Nodup := by
    refine (unit_rises hN o h0 h1 h2).imp fun {a b} e hab => ?_
    subst hab
    unfold L3 less3 at e
    simp at e
  obtain ⟨r, hr⟩ := perm_of_sub hn fun c hc => mem_cube o hc
  have hl := (hr.trans hp).length_eq
  rw [List.length_append, h.2, List.length_map] at hl
  have : r = [] := List.length_eq_zero_iff.mp (by omega)
  subst this
  rw [List.append_nil] at hr
  exact hr.trans hp
end
end Mine
end
section
open PySem PySem.W
set_option Elab.async false
set_option maxRecDepth 100000
set_option maxHeartbeats 1000000
set_option linter.unusedVariables false
set_option rowWalk.seconds 0
namespace Mine
theorem start_P2 : True := by w_top off; trivial
def namesL (N : Nat) (stride : Int) : List Nm := (List.range (nameL N).length).map fun (j : Nat) => (nameL N).getD (((j : Int) * stride).fmod ((nameL N).length : Int)).toNat (0, 0, 0)
def strides : List Int := [1, 5, 7, 11, 13, 17, 19, 23]
theorem stride_table : ([2, 3].all fun N => strides.all fun st => (namesL N st).isPerm (nameL N)) = true := by decide +kernel
section
variable {N : Nat} {stride step base x0 x1 x2 g0 g1 g2 : Int}
theorem cols_eq : (namesL N stride).map (colOf step base) = ((namesL N stride).map (colOf 1 0)).map (scale step base) := by
  rw [List.map_map]; congr 1; funext x; exact col_scale step base x
theorem small_cols (hN : N = 2 ∨ N = 3) (hst : stride ∈ strides) (hs0 : 1 ≤ step) (hs : step ≤ 131072) (hb0 : 0 ≤ base) (hb : base < 524288) : ∀ c ∈ (namesL N stride).map (colOf step base), Small c := by
  intro c hc
  have hp := List.isPerm_iff.mp (List.all_eq_true.mp (List.all_eq_true.mp stride_table N (in_tops hN)) stride hst)
  rw [cols_eq] at hc
  obtain ⟨d, hd, rfl⟩ := List.mem_map.mp hc
  have hd' := (hp.map (colOf 1 0)).mem_iff.mp hd
  have hbx := List.all_eq_true.mp box_table N (in_tops hN)
  rw [Bool.and_eq_true, List.all_eq_true] at hbx
  have h := hbx.2 d ((List.isPerm_iff.mp hbx.1).mem_iff.mpr hd')
  simp only [Bool.and_eq_true, decide_eq_true_eq] at h
  obtain ⟨⟨⟨⟨⟨a0, a1⟩, b0⟩, b1⟩, c0⟩, c1⟩ := h
  have k : ∀ a : Int, 0 ≤ a → a ≤ 3 → 0 ≤ base + a * step ∧ base + a * step < 1048576 := fun a h0 h1 => by
    have := Int.mul_nonneg h0 (show 0 ≤ step by omega)
    have := Int.mul_le_mul_of_nonneg_right h1 (show 0 ≤ step by omega)
    omega
  exact ⟨k _ a0 a1, k _ b0 b1, k _ c0 c1⟩
theorem cube_perm (hN : N = 2 ∨ N = 3) (hst : stride ∈ strides) (o : Ord x0 x1 x2) (h0 : g0 = 1 ∨ g0 = -1) (h1 : g1 = 1 ∨ g1 = -1) (h2 : g2 = 1 ∨ g2 = -1) :
    (cubeX x0 x1 x2 (walkL N step base g0) (walkL N step base g1) (walkL N step base g2)).Perm ((namesL N stride).map (colOf step base)) := by
  have hp := List.isPerm_iff.mp (List.all_eq_true.mp (List.all_eq_true.mp stride_table N (in_tops hN)) stride hst)
  rw [cube_scale o, cols_eq]
  exact ((unit_perm hN o h0 h1 h2).trans (hp.map _).symm).map _
theorem cube_rises (hN : N = 2 ∨ N = 3) (hst : stride ∈ strides) (o : Ord x0 x1 x2) (h0 : g0 = 1 ∨ g0 = -1) (h1 : g1 = 1 ∨ g1 = -1) (h2 : g2 = 1 ∨ g2 = -1)
    (hs0 : 1 ≤ step) (hs : step ≤ 131072) (hb0 : 0 ≤ base) (hb : base < 524288) :
    (cubeX x0 x1 x2 (walkL N step base g0) (walkL N step base g1) (walkL N step base g2)).Pairwise fun a b => rank x0 x1 x2 g0 g1 g2 a < rank x0 x1 x2 g0 g1 g2 b := by
  have hp := cube_perm (step := step) (base := base) hN hst o h0 h1 h2
  have hm : ∀ c ∈ cubeX x0 x1 x2 (walkL N step base g0) (walkL N step base g1) (walkL N step base g2), Small c := fun c hc => small_cols hN hst hs0 hs hb0 hb c (hp.mem_iff.mp hc)
  have hq : (cubeX x0 x1 x2 (walkL N step base g0) (walkL N step base g1) (walkL N step base g2)).Pairwise fun a b => L3 x0 x1 x2 g0 g1 g2 a b = true := by
    rw [cube_scale o]
    exact List.pairwise_map.mpr ((unit_rises hN o h0 h1 h2).imp fun q => L3_scale hs0 h0 h1 h2 q)
  exact hq.imp_of_mem fun ha hb' q => by
    rw [L3_rank (hm _ ha) (hm _ hb') h0 h1 h2] at q
    exact of_decide_eq_true q
/-- the sorted colours are the cube -/
theorem plain {ys : List Nm} (hN : N = 2 ∨ N = 3) (hst : stride ∈ strides) (o : Ord x0 x1 x2) (h0 : g0 = 1 ∨ g0 = -1) (h1 : g1 = 1 ∨ g1 = -1) (h2 : g2 = 1 ∨ g2 = -1)
    (hs0 : 1 ≤ step) (hs : step ≤ 131072) (hb0 : 0 ≤ base) (hb : base < 524288) (hp : ys.Perm ((namesL N stride).map (colOf step base)))
    (hr : ys.Pairwise fun a b => rank x0 x1 x2 g0 g1 g2 a < rank x0 x1 x2 g0 g1 g2 b) :
    ys = cubeX x0 x1 x2 (walkL N step base g0) (walkL N step base g1) (walkL N step base g2) :=
  List.Perm.eq_of_pairwise (le := fun a b => rank x0 x1 x2 g0 g1 g2 a < rank x0 x1 x2 g0 g1 g2 b) (fun a b _ _ h h' => by omega) hr (cube_rises hN hst o h0 h1 h2 hs0 hs hb0 hb)
    (hp.trans (cube_perm hN hst o h0 h1 h2).symm)
theorem ranks_nodup (hN : N = 2 ∨ N = 3) (hst : stride ∈ strides) (o : Ord x0 x1 x2) (h0 : g0 = 1 ∨ g0 = -1) (h1 : g1 = 1 ∨ g1 = -1) (h2 : g2 = 1 ∨ g2 = -1)
    (hs0 : 1 ≤ step) (hs : step ≤ 131072) (hb0 : 0 ≤ base) (hb : base < 524288) : (((namesL N stride).map (colOf step base)).map (rank x0 x1 x2 g0 g1 g2)).Nodup := by
  refine ((cube_perm hN hst o h0 h1 h2).map _).nodup_iff.mp ?_
  exact List.pairwise_map.mpr ((cube_rises hN hst o h0 h1 h2 hs0 hs hb0 hb).imp fun h => Int.ne_of_lt h)
end
end Mine
end
section
open PySem PySem.W PyProof.Rows PySem.Calls
set_option Elab.async false
set_option maxRecDepth 100000
set_option maxHeartbeats 1000000
set_option linter.unusedVariables false
set_option rowWalk.seconds 0
namespace Mine
theorem start_Y0 : True := by w_top off; trivial
/-- the heap without the object at a -/
def freed (h : Heap) (a : Addr) : Heap := h.update a fun o => { o with data := .freed }
theorem freed_size (h : Heap) (a : Addr) : (freed h a).objs.size = h.objs.size := Heap.size_update ..
theorem freed_ne (h : Heap) {a b : Addr} (n : b ≠ a) : (freed h a).get? b = h.get? b := Heap.get?_update_ne _ _ _ _ n
theorem freed_self (h : Heap) (a : Addr) : (freed h a).get? a = none := by
  unfold freed Heap.update Heap.get?
  obtain ⟨objs, l⟩ := h
  dsimp only
  by_cases hl : a < objs.size
  · rw [Array.getElem?_modify]; simp [hl]
  · rw [Array.getElem?_eq_none (by simpa using hl)]
/-- the heap without the two code tables that grow -/
def bare (h : Heap) : Heap := freed (freed h 75) 37
theorem bare_get {h : Heap} {b : Addr} {o : Obj} (e : (bare h).get? b = some o) : h.get? b = some o ∧ b ≠ 75 ∧ b ≠ 37 := by
  unfold bare at e
  by_cases n : b = 37
  · rw [n, freed_self] at e; cases e
  · rw [freed_ne _ n] at e
    by_cases n' : b = 75
    · rw [n', freed_self] at e; cases e
    · rw [freed_ne _ n'] at e; exact ⟨e, n', n⟩
theorem bare_at {h : Heap} {b : Addr} {o : Obj} (e : h.get? b = some o) (n : b ≠ 75) (n' : b ≠ 37) : (bare h).get? b = some o := by
  unfold bare; rw [freed_ne _ n', freed_ne _ n]; exact e
theorem bare_of {h h0 : Heap} (z : bare h = h0) {b : Addr} {o : Obj} (e : h.get? b = some o) (n : b ≠ 75) (n' : b ≠ 37) : h0.get? b = some o := z ▸ bare_at e n n'
theorem bare_size (h : Heap) : (bare h).objs.size = h.objs.size := by unfold bare; rw [freed_size, freed_size]
theorem bare_75 (h : Heap) : (bare h).get? 75 = none := by unfold bare; rw [freed_ne _ (by decide), freed_self]
theorem bare_37 (h : Heap) : (bare h).get? 37 = none := freed_self ..
/-- the two tables, as the top leaves them -/
def tab0 : Obj := ⟨.none, none, .fields #[], #[]⟩
/-- a table that has grown -/
def Grown (P : Addr) (h : Heap) : Prop := ∃ more, h.get? P = some ⟨.none, none, .fields more, #[]⟩
theorem Grown.keep {P : Addr} {h h' : Heap} (k : Keep h h') : Grown P h → Grown P h' := fun ⟨m, e⟩ => ⟨m, k _ _ e⟩
/-- all but the two tables stands, and they have grown -/
def Kept (h h' : Heap) : Prop := (∀ b o, h.get? b = some o → b ≠ 75 → b ≠ 37 → h'.get? b = some o) ∧ Grown 75 h' ∧ Grown 37 h'
theorem std_bare {w : World} {h : Heap} (S : Std w h) (h75 : h.get? 75 = some tab0) (h37 : h.get? 37 = some tab0) : Std w (bare h) := by
  have k1 : KeepB 75 h (freed h 75) := fun b o e n => (freed_ne h n).trans e
  have S1 : Std w (freed h 75) := std_B S k1 h75 rfl (by kernel_rfl) (by decide) (by decide) (by decide)
  have k2 : KeepB 37 (freed h 75) (bare h) := fun b o e n => (freed_ne _ n).trans e
  exact std_B S1 k2 (oP := tab0) ((freed_ne h (by decide)).trans h37) rfl (by kernel_rfl) (by decide) (by decide) (by decide)
theorem fr_bare {h₀ h : Heap} {L : Addr} {m : Str → Option Value} (F : Fr h₀ L h m) : Fr (bare h₀) L h m :=
  ⟨F.ns, fun b o e => F.keep b o (bare_get e).1, by rw [bare_size]; exact F.above⟩
theorem news_bare {h₀ h : Heap} {L : Addr} {news : List (Addr × Obj)} (N : News h₀ L h news) : News (bare h₀) L h news := fun p hp => by
  refine ⟨(N p hp).1, (N p hp).2.1, ?_⟩
  cases e : (bare h₀).get? p.1 with
  | none => rfl
  | some o => have := (bare_get e).1; rw [(N p hp).2.2] at this; cases this
/-- a call that lets one table grow -/
theorem fr_keepB {h₀ h h' : Heap} {L P : Addr} {m : Str → Option Value} (F : Fr h₀ L h m) (k : KeepB P h h') (n : h₀.get? P = none) (hP : P < h₀.objs.size) : Fr h₀ L h' m := by
  have nL : L ≠ P := Nat.ne_of_gt (Nat.lt_of_lt_of_le hP F.above)
  exact ⟨ns_B F.ns k nL, fun b o e => k b o (F.keep b o e) (ne_none e n), F.above⟩
theorem news_keepB {h₀ h h' : Heap} {L P : Addr} {news : List (Addr × Obj)} (N : News h₀ L h news) (k : KeepB P h h') (n : ∀ p ∈ news, p.1 ≠ P) : News h₀ L h' news :=
  fun p hp => ⟨k _ _ (N p hp).1 (n p hp), (N p hp).2⟩
theorem ne_tab {h : Heap} {a P : Addr} {o oP : Obj} (e : h.get? a = some o) (eP : h.get? P = some oP) (hc : oP.cls = .none) (ho : o.cls ≠ .none) : a ≠ P := fun z => by
  rw [z, eP] at e; cases e; exact ho hc
theorem QReady.keepB {w : World} {h h' : Heap} {q rl P : Addr} {oP : Obj} (k : KeepB P h h') (eP : h.get? P = some oP) (hc : oP.cls = .none) : QReady w h q rl → QReady w h' q rl := by
  rintro ⟨c, cc, ct, y1, y2, y3, y4, y5, z0, z1, z2, z4, z3, p1, p2, p3⟩
  exact ⟨c, cc, ct, y1, y2, y3, y4, y5, z0, z1, z2, z4, z3, k _ _ p1 (ne_tab p1 eP hc (by simp)), k _ _ p2 (ne_tab p2 eP hc (by simp)), k _ _ p3 (ne_tab p3 eP hc (by simp))⟩
section
variable {w : World} {s : Shared} {dp un : Nat} {fr : Option (List Env)} {gd : Option (List Code)} {Q E : Value → Shared → Prop} {rl q C : Addr}
theorem lc_call (S : Std w s.heap) (hdp : dp ≤ 420) (hun : un ≤ 100) {sl4 : Array (Option Value)} (hs4 : s.heap.get? 4 = some ⟨.type "module", some builtinsNs, .plain, sl4⟩) (h75 : s.heap.get? 75 = some tab0)
    (ret : ∀ q h' tk, KeepB 75 s.heap h' → Grown 75 h' → s.heap.get? q = none → QReady w h' q rl → Q (.ref q) { s with heap := h', toks := tk }) :
    wpAny (model Challenge.rw_mq0096_01.row.prog w) (ard dp un fr gd) (call (.ref 80) [.ref rl]) Q E s :=
  wk (B := A2) rfl hdp rfl rfl hun (lc (g0 := s.gens) (dr0 := s.drawn) (k0 := s.toks) (os0 := s.os) S sl4 hs4 h75 ret)
theorem ctk_call (S : Std w s.heap) (hdp : dp ≤ 420) (hun : un ≤ 100) {sl4 : Array (Option Value)} {o1 : Obj} (hs1 : s.heap.get? sysModules = some o1) (hs4 : s.heap.get? 4 = some ⟨.type "module", some builtinsNs, .plain, sl4⟩) (h37 : s.heap.get? 37 = some tab0)
    (ret : ∀ C h' tk, KeepB 37 s.heap h' → Grown 37 h' → s.heap.get? C = none → KReady w h' C q → Q (.ref C) { s with heap := h', toks := tk }) :
    wpAny (model Challenge.rw_mq0096_01.row.prog w) (ard dp un fr gd) (call (.ref 42) [.ref q]) Q E s :=
  wk (B := A2) rfl hdp rfl rfl hun (ctk (g0 := s.gens) (dr0 := s.drawn) (k0 := s.toks) (os0 := s.os) S o1 hs1 sl4 hs4 h37 ret)
end
end Mine
end
section
open PySem PySem.W PyProof.Rows PySem.Calls
set_option Elab.async false
set_option maxRecDepth 100000
set_option maxHeartbeats 1000000
set_option linter.unusedVariables false
set_option rowWalk.seconds 0
namespace Mine
theorem start_Y1 : True := by w_top off; trivial
/-- a list's row, read off the heap -/
def rowOf (h : Heap) (v : Value) : Nm := match v with
  | .ref a => match h.get? a with
    | some ⟨_, _, .seq ⟨[.int i _, .int j _, .int k _]⟩ _, _⟩ => (i, j, k)
    | _ => (0, 0, 0)
  | _ => (0, 0, 0)
theorem rowOf_at {h : Heap} {a : Addr} {i j k : Int} {t1 t2 t3 : Tok} {n : Nat} (e : h.get? a = some (listOf #[.int i t1, .int j t2, .int k t3] n)) : rowOf h (.ref a) = (i, j, k) := by
  unfold rowOf; dsimp only; rw [e]
section
variable {w : World} {s : Shared} {dp un : Nat} {fr : Option (List Env)} {gd : Option (List Code)} {Q E : Value → Shared → Prop} {rl q C : Addr}
theorem qcall {w : World} {h : Heap} {g : Array GenState} {dr : Drawn} {tk : Nat} {os : OsState} {q rl r0 r1 r2 l1 l2 : Addr} {x0 x1 x2 g0 g1 g2 i j k i' j' k' : Int} {u0 u1 u2 v0 v1 v2 t1 t2 t3 t4 t5 t6 : Tok} {n0 n1 n2 n3 n4 n5 : Nat}
   (S : Std w h) (R : QReady w h q rl) (o : Ord x0 x1 x2) (h0 : g0 = 1 ∨ g0 = -1) (h1 : g1 = 1 ∨ g1 = -1) (h2 : g2 = 1 ∨ g2 = -1)
   (hrl : h.get? rl = some (listOf #[.ref r0, .ref r1, .ref r2] n0)) (hr0 : h.get? r0 = some (listOf #[.int x0 u0, .int g0 v0] n1)) (hr1 : h.get? r1 = some (listOf #[.int x1 u1, .int g1 v1] n2)) (hr2 : h.get? r2 = some (listOf #[.int x2 u2, .int g2 v2] n3))
   (hl1 : h.get? l1 = some (listOf #[.int i t1, .int j t2, .int k t3] n4)) (hl2 : h.get? l2 = some (listOf #[.int i' t4, .int j' t5, .int k' t6] n5)) :
   wpAny (model Challenge.rw_mq0096_01.row.prog w) A5 (call (.ref q) [.ref l1, .ref l2]) (Ask (L3 x0 x1 x2 g0 g1 g2 (i, j, k) (i', j', k')) h g dr os) (fun _ _ => False) ⟨h, g, dr, tk, os⟩ := by
  have il : ∀ {a : Addr} {its : Array Value} {n : Nat}, h.get? a = some (listOf its n) → h.IsList a its := fun e => ⟨_, e, rfl, _, rfl⟩
  have o3 : In3 x0 ∧ In3 x1 ∧ In3 x2 := by unfold Ord at o; unfold In3; omega
  have g3 : In1 g0 ∧ In1 g1 ∧ In1 g2 := by unfold In1; omega
  exact qask w (s := ⟨h, g, dr, tk, os⟩) (dp := 420) (un := 100) (fr := none) (gd := none) S R (by decide) (by decide) (il hrl) (il hr0) (il hr1) (il hr2) (il hl1) (il hl2) o3.1 o3.2.1 o3.2.2 g3.1 g3.2.1 g3.2.2
    fun n t h' tk' k e => ⟨n, t, h', tk', rfl, e, rfl, k⟩
theorem qfun {w : World} {h : Heap} (R : QReady w h q rl) : ∃ eq dq sq, h.get? q = some ⟨.type "function", eq, .func dq, sq⟩ := by
  obtain ⟨c, cc, ct, y1, y2, y3, y4, y5, z0, z1, z2, z4, z3, p1, _⟩ := R
  exact ⟨_, _, _, p1⟩
theorem isList_of {h : Heap} {a : Addr} {its : Array Value} {k : Nat} (e : h.get? a = some (listOf its k)) : h.IsList a its := ⟨_, e, rfl, _, rfl⟩
/-- an item of a list of rows -/
theorem refs_mem {h : Heap} {R : List (Addr × Obj)} {ys : List Nm} (hR : Rows R ys) (hh : ∀ p ∈ R, h.get? p.1 = some p.2) {v : Value} (hv : v ∈ R.map fun p => Value.ref p.1) :
    ∃ l x t1 t2 t3 n, v = .ref l ∧ x ∈ ys ∧ h.get? l = some (listOf #[.int x.1 t1, .int x.2.1 t2, .int x.2.2 t3] n) := by
  obtain ⟨p, hp, rfl⟩ := List.mem_map.mp hv
  obtain ⟨j, hj⟩ := List.mem_iff_getElem?.mp hp
  have hjl : j < ys.length := by
    rw [← hR.1]
    rcases Nat.lt_or_ge j R.length with h | h
    · exact h
    · rw [List.getElem?_eq_none h] at hj; cases hj
  obtain ⟨t1, t2, t3, k, e⟩ := hR.2 j p _ hj (List.getElem?_eq_getElem hjl)
  exact ⟨p.1, _, t1, t2, t3, k, rfl, List.getElem_mem hjl, (hh p hp).trans (congrArg some e)⟩
theorem refs_rows {h : Heap} {R : List (Addr × Obj)} {ys : List Nm} (hR : Rows R ys) (hh : ∀ p ∈ R, h.get? p.1 = some p.2) : (R.map fun p => Value.ref p.1).map (rowOf h) = ys := by
  apply List.ext_getElem?
  intro j
  rw [List.getElem?_map, List.getElem?_map]
  cases e : R[j]? with
  | none =>
    have : R.length ≤ j := List.getElem?_eq_none_iff.mp e
    rw [List.getElem?_eq_none (by rw [← hR.1]; exact this)]; rfl
  | some p =>
    have hjl : j < R.length := by
      rcases Nat.lt_or_ge j R.length with h | h
      · exact h
      · rw [List.getElem?_eq_none h] at e; cases e
    have hy : ys[j]? = some (ys[j]'(by rw [← hR.1]; exact hjl)) := List.getElem?_eq_getElem _
    obtain ⟨t1, t2, t3, k, z⟩ := hR.2 j p _ e hy
    rw [hy]
    have := (hh p (List.mem_of_getElem? e)).trans (congrArg some z)
    simp only [Option.map_some, rowOf_at this]
theorem rows_at {h h' : Heap} (k : Keep h h') : ∀ {us : List Value}, (∀ v ∈ us, ∃ l x t1 t2 t3 n, v = .ref l ∧ h.get? l = some (listOf #[.int (x : Nm).1 t1, .int x.2.1 t2, .int x.2.2 t3] n)) → RowsAt h' us (us.map (rowOf h))
  | [], _ => trivial
  | v :: us, hv => by
    obtain ⟨l, x, t1, t2, t3, n, rfl, e⟩ := hv v (.head _)
    refine ⟨⟨l, t1, t2, t3, rfl, ?_⟩, rows_at k fun v' h' => hv v' (.tail _ h')⟩
    rw [rowOf_at e]
    exact isList_of (k _ _ e)
theorem sort_call (S : Std w s.heap) (hdp : dp ≤ 410) (hun : un ≤ 40) (KR : KReady w s.heap C q) (QR : QReady w s.heap q rl)
    {r0 r1 r2 : Addr} {x0 x1 x2 g0 g1 g2 : Int} {u0 u1 u2 v0 v1 v2 : Tok} {n0 n1 n2 n3 : Nat} (o : Ord x0 x1 x2) (h0 : g0 = 1 ∨ g0 = -1) (h1 : g1 = 1 ∨ g1 = -1) (h2 : g2 = 1 ∨ g2 = -1)
    (hrl : s.heap.get? rl = some (listOf #[.ref r0, .ref r1, .ref r2] n0)) (hr0 : s.heap.get? r0 = some (listOf #[.int x0 u0, .int g0 v0] n1)) (hr1 : s.heap.get? r1 = some (listOf #[.int x1 u1, .int g1 v1] n2)) (hr2 : s.heap.get? r2 = some (listOf #[.int x2 u2, .int g2 v2] n3))
    {D : Addr} {R : List (Addr × Obj)} {ys : List Nm} {kD : Nat} (hD : s.heap.get? D = some (listOf (refsOf R) kD)) (hR : Rows R ys) (hh : ∀ p ∈ R, s.heap.get? p.1 = some p.2)
    (hl2 : 2 ≤ ys.length) (hl64 : ys.length ≤ 64) (hsm : ∀ y ∈ ys, Small y) (hnd : (ys.map (rank x0 x1 x2 g0 g1 g2)).Nodup)
    (ret : ∀ Z h' tk' us c zs, Keep s.heap h' → s.heap.get? Z = none → h'.get? Z = some (listOf (List.toArray us) c) → RowsAt h' us zs → zs.Perm ys → zs.Pairwise (fun a b => rank x0 x1 x2 g0 g1 g2 a < rank x0 x1 x2 g0 g1 g2 b) → Q (.ref Z) { s with heap := h', toks := tk' }) :
    wpAny (model Challenge.rw_mq0096_01.row.prog w) (ard dp un fr gd) (call (.builtin "sorted") [.ref D] [(Str.ofString "key", .ref C)]) Q E s := by
  have hm := refs_rows hR hh
  refine sorted_key (l := D) (K := C) (vs := R.map fun p => Value.ref p.1) (KO := fun x o => ∃ dx, o = keyObj C dx x) (rv := fun v => rank x0 x1 x2 g0 g1 g2 (rowOf s.heap v)) (isList_of hD) (by rw [List.length_map, hR.1]; exact hl2) (by rw [List.length_map, hR.1]; exact hl64) ?nd ?cls ?kc ?cc ?ret
  case nd =>
    have e : (R.map fun p => Value.ref p.1).map (fun v => rank x0 x1 x2 g0 g1 g2 (rowOf s.heap v)) = ys.map (rank x0 x1 x2 g0 g1 g2) := by
      conv => rhs; rw [← hm, List.map_map]
      rfl
    rw [e]; exact hnd
  case cls => rintro x o ⟨dx, rfl⟩; rfl
  case kc =>
    intro x hx h tk k
    obtain ⟨l, y, t1, t2, t3, n, rfl, _, e⟩ := refs_mem hR hh hx
    refine wpAny_mono (wk (B := A5) rfl (Nat.le_trans hdp (by decide)) rfl rfl (Nat.le_trans (Nat.add_le_add_right hun 2) (by decide)) (kmake (g := s.gens) (dr := s.drawn) (tk := tk) (os := s.os) (l := l) (S.keep k).k (KR.keep k))) (fun v s' hv => ?_) fun _ _ z => z
    obtain ⟨y, h', tk', rfl, rfl, k', ny, dx, ey⟩ := hv
    exact ⟨y, _, h', tk', rfl, rfl, k', ny, ey, dx, rfl⟩
  case cc =>
    intro x hx y hy a b oa ob h tk k ea ka eb kb
    obtain ⟨l1, p1, t1, t2, t3, n, rfl, m1, e1⟩ := refs_mem hR hh hx
    obtain ⟨l2, p2, t4, t5, t6, n', rfl, m2, e2⟩ := refs_mem hR hh hy
    obtain ⟨d1, rfl⟩ := ka
    obtain ⟨d2, rfl⟩ := kb
    obtain ⟨eq, dq, sq, hq⟩ := qfun (QR.keep k)
    rw [rowOf_at e1, rowOf_at e2]
    refine wpAny_mono (wk (B := A6) rfl hdp rfl rfl (Nat.le_trans (Nat.add_le_add_right hun 2) (by decide)) (klt (g := s.gens) (dr := s.drawn) (tk := tk) (os := s.os) (bb := L3 x0 x1 x2 g0 g1 g2 p1 p2) (S.keep k) (KR.keep k) hq ea eb ?_)) (fun r s' hr => ?_) fun _ _ z => z
    · intro h' tk' k'
      have kk := k.trans k'
      exact qcall (S.keep kk) (QR.keep kk) o h0 h1 h2 (kk _ _ hrl) (kk _ _ hr0) (kk _ _ hr1) (kk _ _ hr2) (kk _ _ e1) (kk _ _ e2)
    · obtain ⟨rfl, h', tk', rfl, k'⟩ := hr
      exact ⟨L3_rank (hsm _ m1) (hsm _ m2) h0 h1 h2, h', tk', rfl, k'⟩
  case ret =>
    intro Z h' tk' out c k nZ eZ hp hw
    refine ret Z h' tk' out c (out.map (rowOf s.heap)) k nZ eZ (rows_at k fun v hv => ?_) ?_ ?_
    · obtain ⟨l, x, t1, t2, t3, n, e, _, e'⟩ := refs_mem hR hh (hp.mem_iff.mp hv)
      exact ⟨l, x, t1, t2, t3, n, e, e'⟩
    · rw [← hm]; exact hp.map _
    · exact List.pairwise_map.mpr hw
end
/-- a list of rows on the ledger, for == -/
theorem refs_rowsAt {h : Heap} {R : List (Addr × Obj)} {ys : List Nm} (hR : Rows R ys) (hh : ∀ p ∈ R, h.get? p.1 = some p.2) : RowsAt h (R.map fun p => Value.ref p.1) ys := by
  have := rows_at (h := h) (h' := h) Keep.rfl' (us := R.map fun p => Value.ref p.1) fun v hv => by
    obtain ⟨l, x, t1, t2, t3, n, e, _, e'⟩ := refs_mem hR hh hv
    exact ⟨l, x, t1, t2, t3, n, e, e'⟩
  rw [refs_rows hR hh] at this
  exact this
end Mine
end
section
open PySem PySem.W PyProof.Rows PySem.Calls PySem.Spec
set_option Elab.async false
set_option maxRecDepth 100000
set_option maxHeartbeats 8000000
set_option linter.unusedVariables false
set_option rowWalk.seconds 0
namespace Mine
theorem start_A0 : True := by w_top off; trivial
/-- a name that is met -/
def Nice (x : Nm) : Prop := 0 ≤ x.1 ∧ 0 ≤ x.2.1 ∧ x.2.1 + x.1 ≤ 3 ∧ 0 ≤ x.2.2 ∧ x.2.2 < max 1 (6 * x.1)
theorem nice_table : ([2, 3].all fun N => decide ((nameL N).length ≤ 64) && decide (2 ≤ (nameL N).length) && (nameL N).all fun x => decide (0 ≤ x.1) && decide (0 ≤ x.2.1) && decide (x.2.1 + x.1 ≤ 3) && decide (0 ≤ x.2.2) && decide (x.2.2 < max 1 (6 * x.1))) = true := by decide +kernel
theorem names_ok {N : Nat} {stride : Int} (hN : N = 2 ∨ N = 3) (hst : stride ∈ strides) : (namesL N stride).length ≤ 64 ∧ 2 ≤ (namesL N stride).length ∧ ∀ x ∈ namesL N stride, Nice x := by
  have hp := List.isPerm_iff.mp (List.all_eq_true.mp (List.all_eq_true.mp stride_table N (in_tops hN)) stride hst)
  have h := List.all_eq_true.mp nice_table N (in_tops hN)
  rw [Bool.and_eq_true, Bool.and_eq_true, decide_eq_true_eq, decide_eq_true_eq, List.all_eq_true] at h
  obtain ⟨⟨h1, h2⟩, h3⟩ := h
  refine ⟨by rw [hp.length_eq]; exact h1, by rw [hp.length_eq]; exact h2, fun x hx => ?_⟩
  have := h3 x (hp.mem_iff.mp hx)
  simp only [Bool.and_eq_true, decide_eq_true_eq] at this
  obtain ⟨⟨⟨⟨a, b⟩, c⟩, d⟩, e⟩ := this
  exact ⟨a, b, c, d, e⟩
theorem ord_in {x0 x1 x2 : Int} (o : Ord x0 x1 x2) : 0 ≤ x0 ∧ x0 < 3 ∧ 0 ≤ x1 ∧ x1 < 3 ∧ 0 ≤ x2 ∧ x2 < 3 := by unfold Ord at o; omega
section
variable {w : World} {s : Shared} {dp un : Nat} {fr : Option (List Env)} {gd : Option (List Code)} {Q E : Value → Shared → Prop}
theorem hls_call (S : Std w s.heap) (hdp : dp + 40 < recursionLimit) (hun : un + 400 < cLine)
    {a : Addr} {x : Nm} {turns step base : Int} {t1 t2 t3 t4 t5 t6 : Tok} (ha : s.heap.IsList a #[.int x.1 t1, .int x.2.1 t2, .int x.2.2 t3]) (hx : Nice x)
    (hs0 : 1 ≤ step) (hs : step ≤ 131072) (hb0 : 0 ≤ base) (hb : base < 524288) (hu0 : -3 ≤ turns) (hu : turns ≤ 3)
    (ret : ∀ a k t1 t2 t3 h' tk', Keep s.heap h' → s.heap.get? a = none → h'.get? a = some (listOf #[.int (colOf step base x).1 t1, .int (colOf step base x).2.1 t2, .int (colOf step base x).2.2 t3] k) → Q (.ref a) { s with heap := h', toks := tk' }) :
    wpAny (model Challenge.rw_mq0096_01.row.prog w) (ard dp un fr gd) (call (.ref 66) [.ref a, .int turns t4, .int step t5, .int base t6]) Q E s := by
  obtain ⟨n, m, p⟩ := x
  obtain ⟨h1, h2, h3, h4, h5⟩ := hx
  dsimp only at *
  obtain ⟨n, rfl⟩ := Int.eq_ofNat_of_zero_le h1
  obtain ⟨p, rfl⟩ := Int.eq_ofNat_of_zero_le h4
  obtain ⟨⟨a1, b1⟩, ⟨a2, b2⟩, a3, b3⟩ := hls_is (t := turns) (m := m) (step := step) (base := base) (n := n) (p := p) hu0 hu h2 (by omega) (by omega) hs0 hs hb0 hb
  refine byhls_spec w S hdp hun a n m p turns step base t1 t2 t3 t4 t5 t6 ha (by omega) (by omega) h2 (by omega) (by omega) (by omega) hs0 hs hb0 hb hu0 hu b1 b2 b3 ?_
  rw [a1, a2, a3]
  exact ret
theorem hsv_call (S : Std w s.heap) (hdp : dp + 40 < recursionLimit) (hun : un + 400 < cLine)
    {a : Addr} {x : Nm} {turns step base : Int} {t1 t2 t3 t4 t5 t6 : Tok} (ha : s.heap.IsList a #[.int x.1 t1, .int x.2.1 t2, .int x.2.2 t3]) (hx : Nice x)
    (hs0 : 1 ≤ step) (hs : step ≤ 131072) (hb0 : 0 ≤ base) (hb : base < 524288) (hu0 : 0 ≤ turns) (hu : turns ≤ 3)
    (ret : ∀ a k t1 t2 t3 h' tk', Keep s.heap h' → s.heap.get? a = none → h'.get? a = some (listOf #[.int (colOf step base x).1 t1, .int (colOf step base x).2.1 t2, .int (colOf step base x).2.2 t3] k) → Q (.ref a) { s with heap := h', toks := tk' }) :
    wpAny (model Challenge.rw_mq0096_01.row.prog w) (ard dp un fr gd) (call (.ref 73) [.ref a, .int turns t4, .int step t5, .int base t6]) Q E s := by
  obtain ⟨n, m, p⟩ := x
  obtain ⟨h1, h2, h3, h4, h5⟩ := hx
  dsimp only at *
  obtain ⟨n, rfl⟩ := Int.eq_ofNat_of_zero_le h1
  obtain ⟨p, rfl⟩ := Int.eq_ofNat_of_zero_le h4
  obtain ⟨⟨a1, b1⟩, ⟨a2, b2⟩, a3, b3⟩ := hsv_is (t := turns) (m := m) (step := step) (base := base) (n := n) (p := p) hu0 hu h2 (by omega) (by omega) hs0 hs hb0 hb
  obtain ⟨c1, c2⟩ := side_ok (t := turns) (n := n) (p := p) hu0 hu (by omega) (by omega)
  refine byhsv_spec w S hdp hun a n m p turns step base t1 t2 t3 t4 t5 t6 ha (by omega) (by omega) h2 (by omega) (by omega) (by omega) hs0 hs hb0 hb (by omega) hu c1 c2 b1 b2 b3 ?_
  rw [a1, a2, a3]
  exact ret
end
theorem rows_get {h : Heap} : ∀ {vs : List Value} {xs : List Nm} {j : Nat} {x : Nm}, RowsAt h vs xs → xs[j]? = some x → ∃ r t1 t2 t3, vs[j]? = some (.ref r) ∧ h.IsList r #[.int x.1 t1, .int x.2.1 t2, .int x.2.2 t3]
  | [], [], j, x, _, e => by simp at e
  | v :: vs, y :: ys, 0, x, ⟨⟨r, t1, t2, t3, e, hl⟩, _⟩, q => by
    simp at q; subst q; subst e
    exact ⟨r, t1, t2, t3, rfl, hl⟩
  | v :: vs, y :: ys, j + 1, x, ⟨_, q⟩, e => by
    simp at e
    obtain ⟨r, t1, t2, t3, a, b⟩ := rows_get q e
    exact ⟨r, t1, t2, t3, by simpa using a, b⟩
  | [], _ :: _, _, _, q, _ => q.elim
  | _ :: _, [], _, _, q, _ => q.elim
theorem rows_len {h : Heap} : ∀ {vs : List Value} {xs : List Nm}, RowsAt h vs xs → vs.length = xs.length
  | [], [], _ => rfl
  | v :: vs, y :: ys, ⟨_, q⟩ => by simp [rows_len q]
  | [], _ :: _, q => q.elim
  | _ :: _, [], q => q.elim
section
variable {prog : Program} {w : World} {A : Around} {E : Value → Shared → Prop} {s : Shared} {value slice : PySem.Expr} {h₀ : Heap} {L l : Addr} {m : Str → Option Value} {Q : Value → Shared → Prop}
theorem item_rows {vs : List Value} {xs : List Nm} {x : Nm} {i : Nat} {u : Tok} (F : Fr h₀ L s.heap m) (hl : h₀.IsList l vs.toArray) (hv : RowsAt h₀ vs xs) (hx : xs[i]? = some x) (hfit : i < 2 ^ 62)
    (h : ∀ r t1 t2 t3, h₀.IsList r #[.int x.1 t1, .int x.2.1 t2, .int x.2.2 t3] → Q (.ref r) s)
    (hs : subscripted slice false (.ref l) (.int (i : Int) u) = operate [.ref l, .int (i : Int) u] (getItem (.ref l) (.int (i : Int) u)) := by with_unfolding_all rfl) :
    wpAny (model prog w) A (subscriptTail value slice (.ref l) (.int (i : Int) u)) Q E s := by
  obtain ⟨r, t1, t2, t3, e, hr⟩ := rows_get hv hx
  have hl' := base_list F hl
  refine tail_any hl'.typeIs slot_list_getitem.lookup (wpAny_getItem_list hl' (by omega) (by omega) (x := .ref r) ?_ (h r t1 t2 t3 hr)) hs
  rw [List.getElem?_toArray]
  exact e
theorem len_base {vs : List Value} {n : Nat} {Q : Value → Shared → Prop} (F : Fr h₀ L s.heap m) (hl : h₀.IsList l vs.toArray) (e : vs.length = n) (hn : n < 2 ^ 20)
    (h : Q (.int (n : Int) (s.toks + 1)) { s with toks := s.toks + 1 + 1 }) : wpAny (model prog w) A (call (.builtin "len") [.ref l]) Q E s := by
  have e' : vs.toArray.size = n := by simpa using e
  refine len_list (base_list F hl) (by rw [e']; omega) ?_
  rw [e']; exact h
/-- the last item of a list that the call has made -/
theorem item_last {news R : List (Addr × Obj)} {a : Addr} {n : Nat} {u : Tok} (N : News h₀ L s.heap news) (hm : (l, listOf ((refsOf R).push (.ref a)) n) ∈ news) (hR : R.length < 2 ^ 20)
    (h : Q (.ref a) s)
    (hs : subscripted slice false (.ref l) (.int (-1) u) = operate [.ref l, .int (-1) u] (getItem (.ref l) (.int (-1) u)) := by with_unfolding_all rfl) :
    wpAny (model prog w) A (subscriptTail value slice (.ref l) (.int (-1) u)) Q E s := by
  have hl := ledList N hm
  refine tail_any hl.typeIs slot_list_getitem.lookup (wpAny_getItem_list_neg hl (by decide) (by simp; omega) (by decide) (x := .ref a) ?_ h) hs
  have e : (-1 + ((((refsOf R).push (.ref a)).size : Nat) : Int)).toNat = (refsOf R).size := by simp; omega
  rw [e]; simp
end
theorem append3 {prog : Program} {w : World} {A : Around} {E : Value → Shared → Prop} {s : Shared} {h₀ : Heap} {L D I a : Addr} {o oI : Obj} {m : Str → Option Value} {R : List (Addr × Obj)} {k : Nat} {Q : Value → Shared → Prop} (F : Fr h₀ L s.heap m)
    (N : News h₀ L s.heap ((a, o) :: (I, oI) :: (D, listOf (refsOf R) k) :: R)) (haD : a ≠ D) (hID : I ≠ D) (hR : ∀ p ∈ R, p.1 ≠ D) (hl : R.length ≤ 1000)
    (h : ∀ h', Fr h₀ L h' m → News h₀ L h' ((a, o) :: (I, oI) :: (D, listOf ((refsOf R).push (.ref a)) (k + 1)) :: R) → Q .none { s with heap := h' }) :
    wpAny (model prog w) A (call (.builtin "list.append") [.ref D, .ref a]) Q E s :=
  append_K F N (.tail haD (.tail hID (.head hR))) h (by
    have e : (refsOf R).size = R.length := by simp [refsOf]
    rw [sizeLine_eq, e]; omega)
theorem ne_three {prog : Program} {w : World} {A : Around} {E : Value → Shared → Prop} {s : Shared} {h₀ : Heap} {L a b : Addr} {news : List (Addr × Obj)} {x : Nm} {t1 t2 t3 t4 t5 t6 : Tok} {n n' : Nat} {Q : Value → Shared → Prop} (N : News h₀ L s.heap news)
    (ha : (a, listOf #[.int x.1 t1, .int x.2.1 t2, .int x.2.2 t3] n) ∈ news) (hb : (b, listOf #[.int x.1 t4, .int x.2.1 t5, .int x.2.2 t6] n') ∈ news) (hu : A.units + 64 < cLine)
    (h : Q (.bool false) s) : wpAny (model prog w) A (compareOp .NotEq (.ref a) (.ref b)) Q E s := by
  refine ne_intsK (vs := [.int x.1 t1, .int x.2.1 t2, .int x.2.2 t3]) (us := [.int x.1 t4, .int x.2.1 t5, .int x.2.2 t6]) (ns := [x.1, x.2.1, x.2.2]) (ms := [x.1, x.2.1, x.2.2]) (ledList N ha) (.cons _ _ (.cons _ _ (.cons _ _ .nil))) (ledList N hb) (.cons _ _ (.cons _ _ (.cons _ _ .nil))) hu ?_
  simpa using h
end Mine
end
section
open PySem PySem.W PyProof.Rows PySem.Calls PySem.Spec
set_option Elab.async false
set_option maxRecDepth 100000
set_option maxHeartbeats 8000000
set_option linter.unusedVariables false
set_option rowWalk.seconds 0
namespace Mine
theorem start_A1 : True := by w_top off; trivial
local macro_rules | `(tactic| walk_at "mine enter") => `(tactic| (k_dflt (refine' enter ?k1 ?k2 ?k6 ?k7 ?k8 ?k9 ?kB ?c5 ?c2 ?c3 ?c4 ?_; (case k1 => k_asm); (case k2 => k_asm); (case k6 => k_is); (case k7 => k_is); (case k8 => omega); (case k9 => exact BindsTo.of_eq rfl); (case c5 => decide); (case kB => exact locs rfl); (case c2 => exact rfl); (case c3 => exact rfl); (case c4 => exact rfl); k_whole; intro L' h' tk F' N'; (try dsimp only); (try k_fold))))
local macro_rules | `(tactic| walk_at "mine steps") => `(tactic| repeat' ((fail_if_success (with_reducible show wpAny _ _ (pyIter _) _ _ _)); (first | (k_unfold; (try dsimp only)) | (k_end; wrow_close) | walk1 | (dsimp only; walk1))))
local macro_rules | `(tactic| walk_at "mine end") => `(tactic| (repeat (first | k_unfold | (dsimp only) | (dsimp only [qk]))))
local macro_rules | `(tactic| walk_at "call builtin:len") => `(tactic| (k_here; (with_reducible show wpAny _ _ (call (Value.builtin "len") [Value.ref _]) _ _ _); k_dflt (refine' len_base ?k1 ?k2 ?k4 ?k3 ?_; (case k1 => k_asm); (case k2 => assumption); (case k4 => assumption); (case k3 => omega))))
local macro_rules | `(tactic| walk_at "subscriptTail") => `(tactic| (k_here; (with_reducible show wpAny _ _ (subscriptTail _ _ (Value.ref _) (Value.int _ _)) _ _ _); k_dflt (refine' item_rows ?k1 ?k2 ?k3 ?k4 ?k5 ?_ ?k6; (case k1 => k_asm); (case k2 => assumption); (case k3 => assumption); (case k4 => assumption); (case k5 => omega); (case k6 => with_unfolding_all rfl)); intro r9 t91 t92 t93 hr9))
local macro_rules | `(tactic| walk_at "call ref") => `(tactic| ((with_reducible show wpAny _ _ (call (Value.ref 66) _) _ _ _); k_dflt (refine' hls_call ?k1 ?k2 ?k3 ?ka ?kx ?q1 ?q2 ?q3 ?q4 ?q5 ?q6 ?_; (case k1 => exact std_of (by k_asm) (by k_asm) (by k_asm)); (case k2 => omega); (case k3 => omega); (case ka => exact base_list (by k_asm) (by assumption)); (case kx => assumption); (case q1 => omega); (case q2 => omega); (case q3 => omega); (case q4 => omega); (case q5 => omega); (case q6 => omega)); intro a9 n9 u1 u2 u3 h9 tk9 kp9 fr9 ob9; (have F9 := fr_keep (by with_reducible assumption) kp9); (have N9 := news_more (new := [(a9, _)]) (by k_asm) (by k_asm) kp9 (List.forall_mem_cons.mpr ⟨⟨ob9, fr9⟩, List.forall_mem_nil _⟩)); (try dsimp only); (try k_fold)))
local macro_rules | `(tactic| walk_at "call ref") => `(tactic| ((with_reducible show wpAny _ _ (call (Value.ref 73) _) _ _ _); k_dflt (refine' hsv_call ?k1 ?k2 ?k3 ?ka ?kx ?q1 ?q2 ?q3 ?q4 ?q5 ?q6 ?_; (case k1 => exact std_of (by k_asm) (by k_asm) (by k_asm)); (case k2 => omega); (case k3 => omega); (case ka => exact base_list (by k_asm) (by assumption)); (case kx => assumption); (case q1 => omega); (case q2 => omega); (case q3 => omega); (case q4 => omega); (case q5 => omega); (case q6 => omega)); intro a9 n9 u1 u2 u3 h9 tk9 kp9 fr9 ob9; (have F9 := fr_keep (by with_reducible assumption) kp9); (have N9 := news_more (new := [(a9, _)]) (by k_asm) (by k_asm) kp9 (List.forall_mem_cons.mpr ⟨⟨ob9, fr9⟩, List.forall_mem_nil _⟩)); (try dsimp only); (try k_fold)))
local macro_rules | `(tactic| walk_at "subscriptTail") => `(tactic| (k_here; (with_reducible show wpAny _ _ (subscriptTail _ _ (Value.ref _) (Value.int (-1) _)) _ _ _); k_dflt (refine' item_last ?k1 ?k2 ?k5 ?_ ?k6; (case k1 => assumption); (case k2 => k_mem); (case k5 => omega); (case k6 => with_unfolding_all rfl))))
local macro_rules | `(tactic| walk_at "compareOp NotEq ref ref") => `(tactic| (k_here; k_dflt (refine' ne_three ?k1 ?k2 ?k3 ?k4 ?_; (case k1 => assumption); (case k2 => k_mem); (case k3 => k_mem); (case k4 => show un + 3 + 64 < cLine; omega))))
theorem agrees_spec (w : World) {s : Shared} {dp un : Nat} {fr : Option (List Env)} {gd : Option (List Code)} {Q E : Value → Shared → Prop} (S : Std w s.heap) (hdp : dp ≤ 400) (hun : un ≤ 30)
    (N : Nat) (hN : N = 2 ∨ N = 3) (turns step base : Int) (t1 t2 t3 t4 : Tok) (hs0 : 1 ≤ step) (hs : step ≤ 131072) (hb0 : 0 ≤ base) (hb : base < 524288)
    (nl : Addr) (vs : List Value) (stride : Int) (hst : stride ∈ strides) (hnl : s.heap.IsList nl vs.toArray) (hv : RowsAt s.heap vs (namesL N stride))
    (rl r0 r1 r2 : Addr) (x0 x1 x2 g0 g1 g2 : Int) (u0 u1 u2 v0 v1 v2 : Tok) (n0 n1 n2 n3 : Nat) (o : Ord x0 x1 x2) (hg0 : g0 = 1 ∨ g0 = -1) (hg1 : g1 = 1 ∨ g1 = -1) (hg2 : g2 = 1 ∨ g2 = -1)
    (hr : s.heap.get? rl = some (listOf #[.ref r0, .ref r1, .ref r2] n0)) (hr0 : s.heap.get? r0 = some (listOf #[.int x0 u0, .int g0 v0] n1)) (hr1 : s.heap.get? r1 = some (listOf #[.int x1 u1, .int g1 v1] n2)) (hr2 : s.heap.get? r2 = some (listOf #[.int x2 u2, .int g2 v2] n3))
    (o1 : Obj) (sl4 : Array (Option Value)) (hs1 : s.heap.get? sysModules = some o1) (hs4 : s.heap.get? 4 = some ⟨.type "module", some builtinsNs, .plain, sl4⟩) (h75 : s.heap.get? 75 = some tab0) (h37 : s.heap.get? 37 = some tab0)
    (ret : ∀ h' tk', Kept s.heap h' → Q (.bool true) { s with heap := h', toks := tk' }) :
    wpAny (model Challenge.rw_mq0096_01.row.prog w) (ard dp un fr gd) (call (.ref 99) [.int (N : Int) t1, .ref nl, .int turns t2, .int step t3, .int base t4, .ref rl]) Q E s := by
  have S0 := S
  obtain ⟨X, pp, loose, mean, mg, mb, T⟩ := S
  obtain ⟨hlen, hlen2, hx⟩ := names_ok hN hst
  generalize hxs : namesL N stride = xs at *
  have hdp' : dp + 90 < recursionLimit := Nat.lt_of_le_of_lt (Nat.add_le_add_right hdp 90) (by decide)
  have hun' : un + 900 < cLine := Nat.lt_of_le_of_lt (Nat.add_le_add_right hun 900) (by decide)
  revert X
  k_fill
  intro X
  have hvl := rows_len hv
  walk_at "mine enter"
  walk_at "mine steps"
  have hn1 : xs.length < 2 ^ 62 := by omega
  refine loop_rangeM [Str.ofString "j", Str.ofString "turn"] xs.length (Jb 0 (fun i => (xs.map (colOf step base)).take i)) (by assumption) (by assumption) (by assumption) rfl hn1 rfl ⟨[], 0, Rows.nil, (fun _ h => nomatch h), rfl⟩ ?turn ?done
  case done =>
    rintro u news₁ h tk ⟨R, k, hR, hne, rfl⟩ F1 N1
    dsimp only [ad1, List.headD, List.tail, List.take, List.map] at N1 hne
    simp only [List.cons_append, List.nil_append] at N1
    have hR' : Rows R (xs.map (colOf step base)) := by
      have e : (xs.map (colOf step base)).take xs.length = xs.map (colOf step base) := List.take_of_length_le (by simp)
      dsimp only at hR; rw [e] at hR; exact hR
    have n75 : ∀ p ∈ (_, listOf (refsOf R) k) :: R, p.1 ≠ 75 := fun p hp e => by have := (N1 p hp).2.2; rw [e, h75] at this; cases this
    have n37 : ∀ p ∈ (_, listOf (refsOf R) k) :: R, p.1 ≠ 37 := fun p hp e => by have := (N1 p hp).2.2; rw [e, h37] at this; cases this
    have h75' := F1.keep _ _ h75
    have h37' := F1.keep _ _ h37
    have b75 := bare_75 s.heap
    have b37 := bare_37 s.heap
    have l75 : 75 < (bare s.heap).objs.size := by rw [bare_size]; exact Heap.lt_size h75
    have l37 : 37 < (bare s.heap).objs.size := by rw [bare_size]; exact Heap.lt_size h37
    have F2 := fr_bare F1
    have N2 := news_bare N1
    have hr' := bare_at hr (ne_tab hr h75 rfl (by simp)) (ne_tab hr h37 rfl (by simp))
    have hr0' := bare_at hr0 (ne_tab hr0 h75 rfl (by simp)) (ne_tab hr0 h37 rfl (by simp))
    have hr1' := bare_at hr1 (ne_tab hr1 h75 rfl (by simp)) (ne_tab hr1 h37 rfl (by simp))
    have hr2' := bare_at hr2 (ne_tab hr2 h75 rfl (by simp)) (ne_tab hr2 h37 rfl (by simp))
    have hs1' := bare_at hs1 (by decide) (by decide)
    have hs4' := bare_at hs4 (by decide) (by decide)
    have S2 := std_bare S0 h75 h37
    clear F1 N1 X T S0 hr hr0 hr1 hr2 hs1 hs4 h75 h37
    obtain ⟨X, pp, loose, mean, mg, mb, T⟩ := S2
    revert X
    k_fill
    intro X
    generalize h00e : bare s.heap = h00 at *
    (try dsimp only)
    (try k_fold)
    walk_at "mine steps"
    refine lc_call (std_of X T F2) (by omega) (by omega) (F2.keep _ _ hs4') h75' ?_
    intro q h1 tk1 kB1 gr75 nq QR1
    have F3 := fr_keepB F2 kB1 b75 l75
    have N3 := news_keepB N2 kB1 n75
    have h37a := kB1 _ _ h37' (by decide)
    clear F2 N2 kB1 nq h75' h37'
    (try dsimp only)
    (try k_fold)
    walk_at "mine steps"
    refine ctk_call (std_of X T F3) (by omega) (by omega) (F3.keep _ _ hs1') (F3.keep _ _ hs4') h37a ?_
    intro C h2 tk2 kB2 gr37 nC KR2
    replace gr75 : Grown 75 h2 := let ⟨m, e⟩ := gr75; ⟨m, kB2 _ _ e (by decide)⟩
    have F4 := fr_keepB F3 kB2 b37 l37
    have N4 := news_keepB N3 kB2 n37
    have QR2 := QR1.keepB kB2 h37a rfl
    clear F3 N3 kB2 QR1 h37a n75 n37
    (try dsimp only)
    (try k_fold)
    walk_at "mine steps"
    subst hxs
    (show wpAny _ _ (call (.builtin "sorted") [Value.ref _] [(Str.ofString "key", Value.ref C)]) _ _ _)
    refine sort_call (std_of X T F4) (by omega) (by omega) KR2 QR2 o hg0 hg1 hg2 (F4.keep _ _ hr') (F4.keep _ _ hr0') (F4.keep _ _ hr1') (F4.keep _ _ hr2') (N4 _ (.head _)).1 hR' (fun p hp => (N4 p (.tail _ hp)).1) (by rw [List.length_map]; exact hlen2) (by rw [List.length_map]; exact hlen) (small_cols hN hst hs0 hs hb0 hb) (ranks_nodup hN hst o hg0 hg1 hg2 hs0 hs hb0 hb) ?_
    intro Z h3 tk3 us c zs k3 nZ eZ rZ pZ wZ
    have eq := plain hN hst o hg0 hg1 hg2 hs0 hs hb0 hb pZ wZ
    have F5 := fr_keep F4 k3
    have N5 := news_keep N4 k3
    replace gr75 := gr75.keep k3
    replace gr37 := gr37.keep k3
    clear F4 N4 KR2 QR2 k3 nZ pZ wZ
    (try dsimp only)
    (try k_fold)
    walk_at "mine steps"
    refine cube_spec w (std_of X T F5) (by omega) (by omega) N (by omega) (by omega) step base _ _ _ hs0 hs hb0 hb rl r0 r1 r2 x0 x1 x2 g0 g1 g2 _ _ _ _ _ _ (isList_of (F5.keep _ _ hr')) (isList_of (F5.keep _ _ hr0')) (isList_of (F5.keep _ _ hr1')) (isList_of (F5.keep _ _ hr2')) (ord_in o).1 (ord_in o).2.1 (ord_in o).2.2.1 (ord_in o).2.2.2.1 (ord_in o).2.2.2.2.1 (ord_in o).2.2.2.2.2 hg0 hg1 hg2 ?_
    intro Y kY RY h4 tk4 k4 nY RYr RYh eY
    have F6 := fr_keep F5 k4
    have N6 := news_keep N5 k4
    clear F5 N5
    (try dsimp only)
    (try k_fold)
    walk_at "mine steps"
    refine eq_rows (isList_of (k4 _ _ eZ)) (rZ.keep k4) (isList_of eY) ?_ ?_ ?_
    · rw [eq]; exact refs_rowsAt RYr (fun p hp => (RYh p hp).1)
    · show un + 3 + 64 < cLine; omega
    walk_at "mine steps"
    walk_at "mine end"
    unfold Back
    dsimp only
    exact ret _ _ ⟨fun b o e n n' => F6.keep _ _ (bare_of h00e e n n'), gr75.keep k4, gr37.keep k4⟩
  case turn =>
    rintro i t u news₁ h tk I oI hin ⟨R, k, hR, hne, rfl⟩ hoff F1 N1
    dsimp only [ad1, List.headD, List.tail, List.take, List.map] at N1 hoff hne
    simp only [List.cons_append, List.nil_append] at N1 hoff
    (try dsimp only)
    (try k_fold)
    obtain ⟨x, hxi⟩ : ∃ x, xs[i]? = some x := ⟨_, List.getElem?_eq_getElem hin⟩
    have hnx := hx x (List.mem_of_getElem? hxi)
    have hi62 : i < 2 ^ 62 := by omega
    have hm0 := Int.fmod_nonneg_of_pos (turns + (i : Int)) (show (0 : Int) < 7 by decide)
    have hm7 := Int.fmod_lt_of_pos (turns + (i : Int)) (show (0 : Int) < 7 by decide)
    have hDI := neN (hoff _ (.head _))
    have hD3 := fun p hp => hne p hp _ (.head _)
    have hRl : R.length ≤ 1000 := by
      rw [hR.1, List.length_take, List.length_map]; omega
    (try dsimp only at *)
    walk_at "mine steps"
    rename_i a9 n9 u1 u2 u3 h9 tk9 kp9 fr9 ob9 F9 N9
    have G9 := fresh_ne' fr9 (by assumption)
    have ha1 := neN (G9 _ (.head _))
    have ha2 := neN (G9 _ (.tail _ (.head _)))
    have ha3 := fun p hp => G9 p (.tail _ (.tail _ hp))
    clear G9
    (try dsimp only at *)
    replace N9 := show News s.heap _ h9 ((a9, _) :: (I, oI) :: (_, _) :: R) from N9
    clear ob9
    refine append3 F9 N9 (Ne.symm ha2) (Ne.symm hDI) hD3 hRl ?_
    intro h10 F10 N10
    (try dsimp only)
    (try k_fold)
    clear N9 N1
    walk_at "mine steps"
    walk_at "mine end"
    (show TEnd _ _ _ _ _ _ _)
    rename_i b9 m9 w1 w2 w3 h11 tk11 kp11 fr11 ob11 F11 N11
    k_dflt (refine' tend_snoc (x := colOf step base x) (Z := []) F11 (fun p hp => N11 p (.tail _ hp)) ?zI ?zR hR rfl ?zM ?zf ?zo ?zi ?zz)
    case zI => exact hoff
    case zR => exact hne
    case zM => exact offs (by decide) (offs (by decide) off_refl)
    case zf =>
      show (xs.map (colOf step base)).take (i + 1) = _
      rw [List.take_add_one, List.getElem?_map, hxi]; rfl
    case zo => exact ⟨_, _, _, _, rfl⟩
    case zi => exact Ne.symm ha1
    case zz => exact List.forall_mem_cons.mpr ⟨Ne.symm ha2, List.forall_mem_nil _⟩
end Mine
end
section
open PySem PySem.W PyProof.Rows PySem.Calls PySem.Spec
set_option Elab.async false
set_option maxRecDepth 100000
set_option maxHeartbeats 8000000
set_option linter.unusedVariables false
set_option rowWalk.seconds 0
namespace Mine
theorem start_W2 : True := by w_top off; trivial
local macro_rules | `(tactic| walk_at "mine enterC") => `(tactic| (k_dflt (refine' enterC ?k1 ?k2 ?k6 ?k7 ?k8 ?k9 ?kB ?kD ?c2 ?c3 ?c4 ?_; (case k1 => k_asm); (case k2 => k_asm); (case k6 => k_is); (case k7 => k_is); (case k8 => omega); (case k9 => exact BindsTo.of_eq rfl); (case kB => exact rfl); (case kD => decide +kernel); (case c2 => exact rfl); (case c3 => exact rfl); (case c4 => exact rfl); k_whole; intro L' h' tk cells' F' N' Y'; k_cells Y'; (try dsimp only); (try k_fold))))
local macro_rules | `(tactic| walk_at "mine steps") => `(tactic| repeat' ((fail_if_success (with_reducible show wpAny _ _ (pyIter _) _ _ _)); (fail_if_success (with_reducible show LCg.CompSrc _ _ _ _ _ _ _ _ _ _ _ _ _ _)); (fail_if_success (with_reducible show LCg.CompEnd _ _ _ _ _ _ _ _ _ _ _ _ _ _)); (fail_if_success (with_reducible show LCg.CompRest _ _ _ _ _ _ _ _ _ _ _ _ _ _ _ _ _ _ _)); (fail_if_success (with_reducible show wpAny _ _ (subscriptTail _ _ (Value.ref _) (Value.int (Int.fmod _ 6) _)) _ _ _)); (fail_if_success (with_reducible show wpAny _ _ (execs (Stmt.Assign _ (Expr.ListComp _ _ _ _) _ :: _) _) _ _ _)); (first | (k_unfold; (try dsimp only)) | (k_end; wrow_close) | walk1 | (dsimp only; walk1))))
section
variable {prog : Program} {w : World} {A : Around} {E : Value → Shared → Prop} {s : Shared} {value slice : PySem.Expr} {h₀ : Heap} {L l : Addr} {Q : Value → Shared → Prop} {news : List (Addr × Obj)}
theorem item_stride {k : Int} {u a1 a2 a3 a4 a5 a6 a7 a8 : Tok} {n : Nat} (N : News h₀ L s.heap news) (hm : (l, listOf #[.int 1 a1, .int 5 a2, .int 7 a3, .int 11 a4, .int 13 a5, .int 17 a6, .int 19 a7, .int 23 a8] n) ∈ news) (h0 : 0 ≤ k) (h8 : k < 8)
    (h : ∀ st t, st ∈ strides → Q (.int st t) s)
    (hs : subscripted slice false (.ref l) (.int k u) = operate [.ref l, .int k u] (getItem (.ref l) (.int k u)) := by with_unfolding_all rfl) :
    wpAny (model prog w) A (subscriptTail value slice (.ref l) (.int k u)) Q E s := by
  have hl := ledList N hm
  obtain ⟨st, t, hst, e⟩ : ∃ st t, st ∈ strides ∧ (#[Value.int 1 a1, .int 5 a2, .int 7 a3, .int 11 a4, .int 13 a5, .int 17 a6, .int 19 a7, .int 23 a8])[k.toNat]? = some (.int st t) := by
    obtain rfl | rfl | rfl | rfl | rfl | rfl | rfl | rfl : k = 0 ∨ k = 1 ∨ k = 2 ∨ k = 3 ∨ k = 4 ∨ k = 5 ∨ k = 6 ∨ k = 7 := by omega
    · exact ⟨1, _, by decide, rfl⟩
    · exact ⟨5, _, by decide, rfl⟩
    · exact ⟨7, _, by decide, rfl⟩
    · exact ⟨11, _, by decide, rfl⟩
    · exact ⟨13, _, by decide, rfl⟩
    · exact ⟨17, _, by decide, rfl⟩
    · exact ⟨19, _, by decide, rfl⟩
    · exact ⟨23, _, by decide, rfl⟩
  exact tail_any hl.typeIs slot_list_getitem.lookup (wpAny_getItem_list hl h0 (by omega) e (h st t hst)) hs
theorem news_dup {h : Heap} {b : Addr × Obj} (N : News h₀ L h news) (hb : b ∈ news) : News h₀ L h (b :: news) := fun p hp => by
  rcases List.mem_cons.mp hp with rfl | hp
  · exact N _ hb
  · exact N _ hp
theorem item_axes {k : Int} {u : Tok} {b1 b2 b3 b4 b5 b6 : Addr} {a11 a12 a13 a21 a22 a23 a31 a32 a33 a41 a42 a43 a51 a52 a53 a61 a62 a63 : Tok} {n m1 m2 m3 m4 m5 m6 : Nat} (N : News h₀ L s.heap news) (hm : (l, listOf #[.ref b1, .ref b2, .ref b3, .ref b4, .ref b5, .ref b6] n) ∈ news)
    (e1 : (b1, listOf #[.int 0 a11, .int 1 a12, .int 2 a13] m1) ∈ news) (e2 : (b2, listOf #[.int 0 a21, .int 2 a22, .int 1 a23] m2) ∈ news) (e3 : (b3, listOf #[.int 1 a31, .int 0 a32, .int 2 a33] m3) ∈ news)
    (e4 : (b4, listOf #[.int 1 a41, .int 2 a42, .int 0 a43] m4) ∈ news) (e5 : (b5, listOf #[.int 2 a51, .int 0 a52, .int 1 a53] m5) ∈ news) (e6 : (b6, listOf #[.int 2 a61, .int 1 a62, .int 0 a63] m6) ∈ news)
    (h0 : 0 ≤ k) (h6 : k < 6)
    (h : ∀ b x0 x1 x2 t0 t1 t2 m, Ord x0 x1 x2 → (b, listOf #[.int x0 t0, .int x1 t1, .int x2 t2] m) ∈ news → Q (.ref b) s)
    (hs : subscripted slice false (.ref l) (.int k u) = operate [.ref l, .int k u] (getItem (.ref l) (.int k u)) := by with_unfolding_all rfl) :
    wpAny (model prog w) A (subscriptTail value slice (.ref l) (.int k u)) Q E s := by
  have hl := ledList N hm
  obtain ⟨b, x0, x1, x2, t0, t1, t2, m, o, hb, e⟩ : ∃ b x0 x1 x2 t0 t1 t2 m, Ord x0 x1 x2 ∧ (b, listOf #[.int x0 t0, .int x1 t1, .int x2 t2] m) ∈ news ∧ (#[Value.ref b1, .ref b2, .ref b3, .ref b4, .ref b5, .ref b6])[k.toNat]? = some (.ref b) := by
    obtain rfl | rfl | rfl | rfl | rfl | rfl : k = 0 ∨ k = 1 ∨ k = 2 ∨ k = 3 ∨ k = 4 ∨ k = 5 := by omega
    · exact ⟨b1, _, _, _, _, _, _, _, by unfold Ord; decide, e1, rfl⟩
    · exact ⟨b2, _, _, _, _, _, _, _, by unfold Ord; decide, e2, rfl⟩
    · exact ⟨b3, _, _, _, _, _, _, _, by unfold Ord; decide, e3, rfl⟩
    · exact ⟨b4, _, _, _, _, _, _, _, by unfold Ord; decide, e4, rfl⟩
    · exact ⟨b5, _, _, _, _, _, _, _, by unfold Ord; decide, e5, rfl⟩
    · exact ⟨b6, _, _, _, _, _, _, _, by unfold Ord; decide, e6, rfl⟩
  exact tail_any hl.typeIs slot_list_getitem.lookup (wpAny_getItem_list hl h0 (by omega) e (h b x0 x1 x2 t0 t1 t2 m o hb)) hs
end
theorem news4 {h₀ h : Heap} {L : Addr} {b c1 c2 : Addr} {o o1 o2 : Obj} {v1 v2 : Option Value} {x1 x2 x3 x4 x5 x6 x7 a : Addr × Obj} {R : List (Addr × Obj)} (N : News h₀ L h (x1 :: x2 :: x3 :: x4 :: x5 :: x6 :: x7 :: a :: (c1, o1) :: (c2, o2) :: R))
    (hb : (b, o) ∈ x1 :: x2 :: x3 :: x4 :: x5 :: x6 :: x7 :: a :: (c1, o1) :: (c2, o2) :: R) (d1 : o1.data = .cell v1) (d2 : o2.data = .cell v2) (hc : ∀ v, o.data ≠ .cell v) : News h₀ L h ((b, o) :: a :: (c1, o1) :: (c2, o2) :: R) ∧ @Ne Nat b c1 ∧ @Ne Nat b c2 := by
  refine ⟨fun p hp => ?_, fun e => ?_, fun e => ?_⟩
  · rcases List.mem_cons.mp hp with rfl | hp
    · exact N _ hb
    · exact N p (.tail _ (.tail _ (.tail _ (.tail _ (.tail _ (.tail _ (.tail _ hp)))))))
  · have h1 := (N _ hb).1
    have h2 := (N (c1, o1) (by simp)).1
    dsimp only at h1 h2
    rw [show b = c1 from e, h2] at h1
    cases h1; exact hc _ d1
  · have h1 := (N _ hb).1
    have h2 := (N (c2, o2) (by simp)).1
    dsimp only at h1 h2
    rw [show b = c2 from e, h2] at h1
    cases h1; exact hc _ d2
/-- the names' list and its rows go onto the ledger, what is done with goes off it -/
theorem news_names {h₀ h h' : Heap} {L a c1 c2 : Addr} {m : Str → Option Value} {o o1 o2 : Obj} {x y : Addr × Obj} {R : List (Addr × Obj)} (F : Fr h₀ L h m) (N : News h₀ L h [x, y, (c1, o1), (c2, o2)]) (k : Keep h h') (hR : ∀ p ∈ R, h'.get? p.1 = some p.2 ∧ h.get? p.1 = none) (ea : h'.get? a = some o) (na : h.get? a = none) :
    News h₀ L h' ((a, o) :: (c1, o1) :: (c2, o2) :: R) ∧ (∀ p ∈ R, p.1 ≠ c1) ∧ (∀ p ∈ R, p.1 ≠ c2) ∧ @Ne Nat a c1 ∧ @Ne Nat a c2 := by
  have N' := news_more (new := (a, o) :: R) F N k (List.forall_mem_cons.mpr ⟨⟨ea, na⟩, hR⟩)
  have e1 := (N (c1, o1) (by simp)).1
  have e2 := (N (c2, o2) (by simp)).1
  dsimp only at e1 e2
  refine ⟨fun p hp => ?_, fun p hp e => ?_, fun p hp e => ?_, fun e => ?_, fun e => ?_⟩
  · rcases List.mem_cons.mp hp with rfl | hp
    · exact N' _ (by simp)
    · rcases List.mem_cons.mp hp with rfl | hp
      · exact N' _ (by simp)
      · rcases List.mem_cons.mp hp with rfl | hp
        · exact N' _ (by simp)
        · exact N' p (by simp [hp])
  · have := (hR p hp).2; rw [e, e1] at this; cases this
  · have := (hR p hp).2; rw [e, e2] at this; cases this
  · rw [show a = c1 from e, e1] at na; cases na
  · rw [show a = c2 from e, e2] at na; cases na
open PyProof.Rows.LCg in
theorem compEnd_row {h₀ : Heap} {L I C D a : Addr} {m : Str → Option Value} {s₁ : Shared} {oI oC oD o : Obj} {S : List (Addr × Obj) → Prop} {rp : Value → List (Addr × Obj) → Prop} {y : Value} {h' : Heap} {tk : Nat} {rest : List (Addr × Obj)}
    (F : Fr h₀ L h' m) (N : News h₀ L h' ((a, o) :: (I, oI) :: (C, oC) :: (D, oD) :: rest)) (off : Off3 I C D rest) (haI : @Ne Nat a I) (haC : @Ne Nat a C) (haD : @Ne Nat a D) (hS : S ((a, o) :: rest)) (r : rp y ((a, o) :: rest)) :
    CompEnd h₀ L m s₁ I oI C oC D oD S rp y { s₁ with heap := h', toks := tk } :=
  ⟨h', tk, (a, o) :: rest, rfl, F, fun p hp => N p (by
    simp only [List.mem_cons] at hp ⊢
    rcases hp with e | e | e | e | e <;> simp [e]), ⟨⟨haI, haC, haD⟩, off⟩, hS, r⟩
theorem rowsAt_map {α : Type} {h : Heap} {f : α → Value} {g : α → Nm} : ∀ {l : List α}, (∀ j ∈ l, ∃ r t1 t2 t3, f j = .ref r ∧ h.IsList r #[.int (g j).1 t1, .int (g j).2.1 t2, .int (g j).2.2 t3]) → RowsAt h (l.map f) (l.map g)
  | [], _ => trivial
  | j :: l, H => ⟨H j (.head _), rowsAt_map fun k hk => H k (.tail _ hk)⟩
theorem names_rows {h : Heap} {R : List (Addr × Obj)} {N : Nat} {st : Int} (hR : Rows R (nameL N)) (hh : ∀ p ∈ R, h.get? p.1 = some p.2) :
    RowsAt h ((List.range R.length).map fun (j : Nat) => (refsOf R).getD (((j : Int) * st).fmod (R.length : Int)).toNat .none) (namesL N st) := by
  unfold namesL
  rw [← hR.1]
  refine rowsAt_map fun j hj => ?_
  have hpos : (0 : Int) < (R.length : Int) := by
    have := nameL_pos N
    have := hR.1
    omega
  have h0 := Int.fmod_nonneg_of_pos ((j : Int) * st) hpos
  have h1 := Int.fmod_lt_of_pos ((j : Int) * st) hpos
  generalize ((j : Int) * st).fmod (R.length : Int) = z at h0 h1
  have hz : z.toNat < R.length := by omega
  have hy : (nameL N)[z.toNat]? = some ((nameL N).getD z.toNat (0, 0, 0)) := by
    have : z.toNat < (nameL N).length := by rw [← hR.1]; exact hz
    rw [List.getD_eq_getElem?_getD, List.getElem?_eq_getElem this]; rfl
  obtain ⟨t1, t2, t3, k, e⟩ := hR.2 z.toNat _ _ (List.getElem?_eq_getElem hz) hy
  refine ⟨R[z.toNat].1, t1, t2, t3, ?_, ?_⟩
  · have : z.toNat < (refsOf R).size := by simpa [refsOf] using hz
    rw [Array.getD_eq_getD_getElem?, Array.getElem?_eq_getElem this]
    simp [refsOf]
  · exact isList_of ((hh _ (List.getElem_mem hz)).trans (congrArg some e))
theorem sign_of (z : Int) : 1 - 2 * z.fmod 2 = 1 ∨ 1 - 2 * z.fmod 2 = -1 := by
  have h1 := Int.fmod_nonneg_of_pos z (show (0 : Int) < 2 by decide)
  have h2 := Int.fmod_lt_of_pos z (show (0 : Int) < 2 by decide)
  omega
theorem agrees_call (w : World) {s : Shared} {dp un : Nat} {fr : Option (List Env)} {gd : Option (List Code)} {Q E : Value → Shared → Prop} (S : Std w s.heap) (hdp : dp ≤ 400) (hun : un ≤ 30)
    {top : Int} {N : Nat} (hNe : top = (N : Int)) (hN : N = 2 ∨ N = 3) {turns step base : Int} {t1 t2 t3 t4 : Tok} (hs0 : 1 ≤ step) (hs : step ≤ 131072) (hb0 : 0 ≤ base) (hb : base < 524288)
    {nl : Addr} {stride : Int} {kn : Nat} {R : List (Addr × Obj)} (hst : stride ∈ strides) (hnl : s.heap.get? nl = some (listOf ((List.range R.length).map fun (j : Nat) => (refsOf R).getD (((j : Int) * stride).fmod (R.length : Int)).toNat .none).toArray kn)) (hR : Rows R (nameL N)) (hh : ∀ p ∈ R, s.heap.get? p.1 = some p.2)
    {rl r0 r1 r2 : Addr} {x0 x1 x2 z0 z1 z2 : Int} {u0 u1 u2 v0 v1 v2 : Tok} {n0 n1 n2 n3 : Nat} (o : Ord x0 x1 x2)
    (hr : s.heap.get? rl = some (listOf #[.ref r0, .ref r1, .ref r2] n0)) (hr0 : s.heap.get? r0 = some (listOf #[.int x0 u0, .int (1 - 2 * z0.fmod 2) v0] n1)) (hr1 : s.heap.get? r1 = some (listOf #[.int x1 u1, .int (1 - 2 * z1.fmod 2) v1] n2)) (hr2 : s.heap.get? r2 = some (listOf #[.int x2 u2, .int (1 - 2 * z2.fmod 2) v2] n3))
    (o1 : Obj) (sl4 : Array (Option Value)) (hs1 : s.heap.get? sysModules = some o1) (hs4 : s.heap.get? 4 = some ⟨.type "module", some builtinsNs, .plain, sl4⟩) (h75 : s.heap.get? 75 = some tab0) (h37 : s.heap.get? 37 = some tab0)
    (ret : ∀ h' tk', Kept s.heap h' → Q (.bool true) { s with heap := h', toks := tk' }) :
    wpAny (model Challenge.rw_mq0096_01.row.prog w) (ard dp un fr gd) (call (.ref 99) [.int top t1, .ref nl, .int turns t2, .int step t3, .int base t4, .ref rl]) Q E s := by
  subst hNe
  exact agrees_spec w S hdp hun N hN turns step base t1 t2 t3 t4 hs0 hs hb0 hb nl _ stride hst (isList_of hnl) (names_rows hR hh) rl r0 r1 r2 x0 x1 x2 _ _ _ u0 u1 u2 v0 v1 v2 n0 n1 n2 n3 o (sign_of z0) (sign_of z1) (sign_of z2) hr hr0 hr1 hr2 o1 sl4 hs1 hs4 h75 h37 ret
theorem names_call (w : World) {s : Shared} {dp un : Nat} {fr : Option (List Env)} {gd : Option (List Code)} {Q E : Value → Shared → Prop} (S : Std w s.heap) (hdp : dp + 40 < recursionLimit) (hun : un + 400 < cLine)
    {top : Int} {N : Nat} {stride : Int} {t1 t2 : Tok} (e : top = (N : Int)) (hN : Bd N)
    (ret : ∀ a k R h' tk', Keep s.heap h' → s.heap.get? a = none → Rows R (nameL N) → (∀ p ∈ R, h'.get? p.1 = some p.2 ∧ s.heap.get? p.1 = none) →
      h'.get? a = some (listOf ((List.range R.length).map fun (j : Nat) => (refsOf R).getD (((j : Int) * stride).fmod (R.length : Int)).toNat .none).toArray k) → Q (.ref a) { s with heap := h', toks := tk' }) :
    wpAny (model Challenge.rw_mq0096_01.row.prog w) (ard dp un fr gd) (call (.ref 54) [.int top t1, .int stride t2]) Q E s := by
  subst e
  exact names_spec w S hdp hun N stride t1 t2 hN ret
local macro_rules | `(tactic| walk_at "subscriptTail") => `(tactic| (k_here; (with_reducible show wpAny _ _ (subscriptTail _ _ (Value.ref _) (Value.int (Int.fmod _ 8) _)) _ _ _); k_dflt (refine' item_stride ?k1 ?k2 ?k3 ?k4 ?_ ?k6; (case k1 => k_asm); (case k2 => k_mem); (case k3 => exact Int.fmod_nonneg_of_pos _ (by omega)); (case k4 => exact Int.fmod_lt_of_pos _ (by omega)); (case k6 => with_unfolding_all rfl)); intro st9 tt9 hst9))
local macro_rules | `(tactic| walk_at "storeName") => `(tactic| (k_here; k_dflt (refine' storeX_C ?F ?N ?c ?U ?d ?_ ?a ?b; (case a => rfl); (case b => rfl); (case F => k_asm); (case N => k_asm); (case c => rfl); (case U => k_updF); (case d => k_asm); k_whole); intro h' o' F' N' d'; (try dsimp only [List.cons_append, List.nil_append] at N'); (try k_sweep)))
local macro_rules | `(tactic| k_all) => `(tactic| with_reducible assumption)
theorem law_spec (w : World) {s : Shared} {dp un : Nat} {fr : Option (List Env)} {gd : Option (List Code)} {Q E : Value → Shared → Prop} (S : Std w s.heap) (hdp : dp ≤ 390) (hun : un ≤ 20)
    (l : Addr) (vs : List Value) (ns : List Int) (hl : s.heap.IsList l vs.toArray) (hi : IntsAre vs ns) (hlen : ns.length ≤ 63)
    (o1 : Obj) (sl4 : Array (Option Value)) (hs1 : s.heap.get? sysModules = some o1) (hs4 : s.heap.get? 4 = some ⟨.type "module", some builtinsNs, .plain, sl4⟩) (h75 : s.heap.get? 75 = some tab0) (h37 : s.heap.get? 37 = some tab0)
    (ret : ∀ h' tk', Kept s.heap h' → Q (.bool true) { s with heap := h', toks := tk' }) :
    wpAny (model Challenge.rw_mq0096_01.row.prog w) (ard dp un fr gd) (call (.ref 104) [.ref l]) Q E s := by
  have S0 := S
  obtain ⟨X, pp, loose, mean, mg, mb, T⟩ := S
  have hdp' : dp + 90 < recursionLimit := Nat.lt_of_le_of_lt (Nat.add_le_add_right hdp 90) (by decide)
  have hun' : un + 900 < cLine := Nat.lt_of_le_of_lt (Nat.add_le_add_right hun 900) (by decide)
  revert X
  k_fill
  intro X
  walk_at "mine enterC"
  walk_at "mine steps"
  refine draws_spec w (std_of (by k_asm) (by k_asm) (by k_asm)) (by omega) (by omega) l vs ns (hl.at fun o e => Fr.keep (by assumption) _ _ e) hi hlen ?_
  intro a0 k0 d e f u t1 t2 t3 t4 h1 tk1 kp1 fr1 ob1
  have G1 := fresh_ne' fr1 (by k_asm)
  have e1 := neN (G1 _ (.head _))
  have e2 := neN (G1 _ (.tail _ (.head _)))
  (try dsimp only at e1 e2)
  clear G1
  have F9 := fr_keep (by with_reducible assumption) kp1
  have N9 := news_more (new := [(a0, _)]) (by k_asm) (by k_asm) kp1 (List.forall_mem_cons.mpr ⟨⟨ob1, fr1⟩, List.forall_mem_nil _⟩)
  dsimp only [List.cons_append, List.nil_append] at N9
  (try dsimp only)
  (try k_fold)
  walk_at "mine steps"
  have hd2a := Int.fmod_nonneg_of_pos d (show (0 : Int) < 2 by decide)
  have hd2b := Int.fmod_lt_of_pos d (show (0 : Int) < 2 by decide)
  obtain ⟨N, hNe, hN⟩ : ∃ N : Nat, 2 + d.fmod 2 = (N : Int) ∧ (N = 2 ∨ N = 3) := ⟨(2 + d.fmod 2).toNat, by omega, by omega⟩
  refine names_call w (std_of (by k_asm) (by k_asm) (by k_asm)) (by omega) (by omega) hNe (by unfold Bd; omega) ?_
  intro an kn R h2 tk2 kp2 fr2 hR hRh ob2
  obtain ⟨N2, rc1, rc2, g3, g4⟩ := news_names (by k_asm) (by k_asm) kp2 hRh ob2 fr2
  have F2 := fr_keep (by with_reducible assumption) kp2
  (try dsimp only)
  (try k_fold)
  walk_at "mine steps"
  k_dflt (refine' item_axes ?k1 ?k2 ?e1 ?e2 ?e3 ?e4 ?e5 ?e6 ?k3 ?k4 ?_ ?k6; (case k1 => k_asm); (case k2 => k_mem); (case e1 => k_mem); (case e2 => k_mem); (case e3 => k_mem); (case e4 => k_mem); (case e5 => k_mem); (case e6 => k_mem); (case k3 => exact Int.fmod_nonneg_of_pos _ (by omega)); (case k4 => exact Int.fmod_lt_of_pos _ (by omega)); (case k6 => with_unfolding_all rfl))
  intro b9 x0 x1 x2 y0 y1 y2 m9 o9 hb9
  rename News _ _ _ _ => NN
  obtain ⟨NB, nb1, nb2⟩ := news4 NN hb9 (by assumption) (by assumption) (by intro v; simp)
  clear NN hb9
  walk_at "mine steps"
  walk1
  walk1
  k_dflt (refine LCg.Assign_ListComp_U (F₀ := by k_asm) (by rfl) (by with_unfolding_all rfl) (by with_unfolding_all rfl) (by decide) (by rfl) (by decide) (by rfl) (by rfl) (by rfl) ?_)
  walk_at "mine steps"
  refine LCg.CompSrc.range (n := 3) (by rfl) (by k_asm) (by k_asm) (by assumption) (by decide +kernel) (by decide +kernel) (by decide) ?_
  intro g'
  refine LCg.CompRest.succ ?_
  rintro v I0 oI0 C0 oC0 D0 m0 h30 tk30 E0 ⟨tt0, rfl⟩ hC0 hx0 F30 N30 off0 ne0
  replace hx0 : m0 (Str.ofString "k") = some (.int 0 tt0) := hx0
  walk_at "mine steps"
  k_dflt (refine compEnd_row (by k_asm) (by k_asm) off0 (by k_ne) (by k_ne) (by k_ne) trivial ?_)
  refine LCg.CompRest.succ ?_
  rintro v I1 oI1 C1 oC1 D1 m1 h31 tk31 E1 ⟨tt1, rfl⟩ hC1 hx1 F31 N31 off1 ne1
  replace hx1 : m1 (Str.ofString "k") = some (.int 1 tt1) := hx1
  walk_at "mine steps"
  k_dflt (refine compEnd_row (by k_asm) (by k_asm) off1 (by k_ne) (by k_ne) (by k_ne) trivial ?_)
  refine LCg.CompRest.succ ?_
  rintro v I2 oI2 C2 oC2 D2 m2 h32 tk32 E2 ⟨tt2, rfl⟩ hC2 hx2 F32 N32 off2 ne2
  replace hx2 : m2 (Str.ofString "k") = some (.int 2 tt2) := hx2
  walk_at "mine steps"
  k_dflt (refine compEnd_row (by k_asm) (by k_asm) off2 (by k_ne) (by k_ne) (by k_ne) trivial ?_)
  refine LCg.CompRest.zero ?_
  walk_at "mine steps"
  rename News _ _ _ _ => NN
  rename Fr _ _ _ _ => FF
  have k := FF.keep
  have me := Int.fmod_nonneg_of_pos e (show (0 : Int) < 131072 by decide)
  have me' := Int.fmod_lt_of_pos e (show (0 : Int) < 131072 by decide)
  have mf := Int.fmod_nonneg_of_pos f (show (0 : Int) < 524288 by decide)
  have mf' := Int.fmod_lt_of_pos f (show (0 : Int) < 524288 by decide)
  refine agrees_call w (std_of X T FF) (by omega) (by omega) hNe hN (by omega) (by omega) mf mf' (by assumption) (News.get NN (.tail _ (.tail _ (.tail _ (.tail _ (.tail _ (.head _))))))) hR (fun p hp => News.get NN (.tail _ (.tail _ (.tail _ (.tail _ (.tail _ (.tail _ (.tail _ (.tail _ hp)))))))))
    o9 (News.get NN (.head _)) (News.get NN (.tail _ (.tail _ (.tail _ (.head _))))) (News.get NN (.tail _ (.tail _ (.head _)))) (News.get NN (.tail _ (.head _))) o1 sl4 (k _ _ hs1) (k _ _ hs4) (k _ _ h75) (k _ _ h37) ?_
  intro h9 tk9 K9
  (try dsimp only)
  walk_at "mine steps"
  (repeat (first | k_unfold | (dsimp only) | (dsimp only [qk])))
  unfold Back
  dsimp only
  exact ret _ _ ⟨fun b o e n n' => K9.1 _ _ (k _ _ e) n n', K9.2⟩
end Mine
end
section
open PySem PySem.W PyProof.Rows PySem.Calls
set_option Elab.async false
set_option maxRecDepth 100000
set_option maxHeartbeats 8000000
namespace Mine
theorem in_of_all {K : Frag} {h : Heap} (H : ∀ p ∈ K, h.get? p.1 = some p.2) : K.In h := fun a o e => H (a, o) (mem_of_lookupK e)
theorem asIs {h h' : Heap} {b c : Addr} {oc : Obj} {vs : Array Value} (hc : h.get? c = some oc) (hcl : oc.cls = .type "code") (hd : oc.data = .fields vs) (hv : vs[11]? = some (.ref b)) (hb : h.get? b = some tab0) (g : Grown b h') : asItWas h h' b tab0 :=
  .inr (.inl ⟨⟨c, oc, vs, hc, hcl, hd, hv⟩, rfl, #[], let ⟨m, e⟩ := g; ⟨m, rfl, by rw [e]; simp [tab0]⟩⟩)
theorem oldK_of {h h' : Heap} (K : Kept h h') (h75 : h.get? 75 = some tab0) (h37 : h.get? 37 = some tab0) (a75 : asItWas h h' 75 tab0) (a37 : asItWas h h' 37 tab0) : OldK h h' := by
  refine ⟨fun b o e => ?_, fun b o e => ?_⟩
  · by_cases n : b = 75
    · subst n; rw [h75] at e; cases e; exact a75
    · by_cases n' : b = 37
      · subst n'; rw [h37] at e; cases e; exact a37
      · exact .inl (K.1 b o e n n')
  · by_cases n : b = 75
    · subst n; obtain ⟨m, e⟩ := K.2.1; exact ⟨_, e⟩
    · by_cases n' : b = 37
      · subst n'; obtain ⟨m, e⟩ := K.2.2; exact ⟨_, e⟩
      · exact ⟨o, K.1 b o e n n'⟩
end Mine
end
open PySem PySem.W PyProof.Rows PySem.Calls
set_option Elab.async false
set_option maxRecDepth 100000 in
set_option maxHeartbeats 8000000 in
theorem PySem.Challenge.cw_mq0096_01_holds : PySem.Challenge.rw_mq0096_01.Holds := by
  w_on; o_law; x_head; (case hw => w_witness2)
  k_fill
  intro w s₀ s₁ mg mb G Y fa o pm cd doc dV kV ho hd hcd hD hmg hg args vals as hpre hlay hrd hwl hlo
  have KX := kIn_of Y
  refine Ground.open G ?_
  intro T B D TE TW
  wrow_args hpre hlay hrd hwl hlo
  x_fa T KX hmg
  rename Heap.IsList _ _ _ => hL
  rename IntsAre _ _ => hI
  have hlen := hI
  have X : (Mine.hd.heap_39 w.params).In s₁.heap := by
    refine Mine.in_of_all ?_
    unfold Mine.hd.heap_39
    repeat (refine List.forall_mem_cons.mpr ⟨KX _ _ (by kernel_rfl), ?_⟩)
    exact List.forall_mem_nil _
  have h75 : s₁.heap.get? 75 = some Mine.tab0 := KX _ _ rfl
  have h37 : s₁.heap.get? 37 = some Mine.tab0 := KX _ _ rfl
  refine Mine.law_spec w (fr := some []) (gd := some []) (dp := 301) (un := 4) ⟨X, _, _, _, _, _, T⟩ (by decide) (by decide) _ _ _ hL hI (by omega) _ _ (KX 1 _ rfl) (KX 4 _ rfl) h75 h37 ?_
  intro h' tk' K
  refine ⟨.inl ⟨_, _, [], rfl, fun _ => rfl, ReadsW.bool true, ?post, fun _ => ⟨List.nodup_nil, fun _ hm => (nomatch hm)⟩⟩, Mine.oldK_of K h75 h37 (Mine.asIs (KX 79 _ rfl) rfl rfl rfl h75 K.2.1) (Mine.asIs (KX 41 _ rfl) rfl rfl rfl h37 K.2.2), rfl, .of_eq hg⟩
  case post => first | rfl | wrow_post

import PyProof.Rows.All
import Wide.All
import OpenK.AllK
import Wide.FinOn
import PySem.Challenge.RW_rs0100_01
set_option Elab.async false
set_option genSizeOf false
set_option genInjectivity false
set_option compiler.extract_closed false
/-! part Hd -/
section
open PySem PySem.W PyProof.Rows
namespace Mine
noncomputable def hCut (l : List Stmt) : List Stmt := (l.drop 1).take 5 ++ ((l.drop 12).take 6 ++ l.drop 19)
noncomputable def hView : Program := { PySem.Challenge.rw_rs0100_01.row.toRowW.1 with main := { PySem.Challenge.rw_rs0100_01.row.toRowW.1.main with body := hCut PySem.Challenge.rw_rs0100_01.row.toRowW.1.main.body } }
noncomputable def hLoose : List PySem.Str := ["insort_right", "bisect_right", "insort_left", "bisect_left", "ONE_THIRD", "ONE_SIXTH", "TWO_THIRD"].map PySem.Str.ofString
noncomputable def hLv : List (PySem.Str × WData) := [(PySem.Str.ofString "ONE_THIRD", WData.float 4599676419421066581), (PySem.Str.ofString "ONE_SIXTH", WData.float 4595172819793696085), (PySem.Str.ofString "TWO_THIRD", WData.float 4604180019048437077)]
local macro_rules | `(tactic| o_head $H) => `(tactic| (
    refine holds_open (q := Mine.hView) (loose := Mine.hLoose) (Xt := fun s => xlAt Mine.hView Mine.hLv s && recOk (RowW.records PySem.Challenge.rw_rs0100_01.row.toRowW) s) (XP := XL Mine.hView Mine.hLv) (Yf := Hook.obs $H) (Ya := Hook.val $H) (YP := Hook.says $H) (N := 1382) ?hl (Hook.of $H) (Hook.keeps $H) (fun s e => xl_of s (Bool.and_eq_true_iff.mp e).1) XL.keeps (by rfl) (by rfl) (by rfl) (fun s e => recFacts_of (Bool.and_eq_true_iff.mp e).2) (by rfl) (by first | assumption | decide +kernel) (by decide +kernel) ⟨rfl, rfl, rfl, rfl, rfl, by decide +kernel⟩ ?hw ?hc
    (case hl => (intro w; kernel_rfl))))
set_option maxRecDepth 100000 in
set_option maxHeartbeats 8000000 in
open_top hd for PySem.Challenge.rw_rs0100_01
end Mine
end
/-! part Pre -/
section
open PySem PySem.W PyProof.Rows
set_option autoImplicit false
namespace Mine
noncomputable section
noncomputable abbrev tupO (its : List Value) : Obj := { cls := .type "tuple", data := .seq its.toArray }
noncomputable abbrev lisO (its : List Value) (n : Nat) : Obj := { cls := .type "list", data := .seq its.toArray n }
theorem in_deep {Γ : Ctx} {A A' : Around} (h : Γ.In A) (hh : A.handled = A'.handled) (hf : A.frames = A'.frames) (hg : A.guards = A'.guards) (hd : A.depth ≤ A'.depth) (hu : A.units ≤ A'.units) : Γ.In A' :=
  ⟨h.1.trans hh, Nat.le_trans h.2.1 hd, fun l hl => h.2.2.1 l (hf.trans hl), fun g hg' => h.2.2.2.1 g (hg.trans hg'), Nat.le_trans h.2.2.2.2 hu⟩
theorem wp_deep {α : Type} {M : Model} {A : Around} {t : Sem α} {Q : α → Shared → Prop} {E : Value → Shared → Prop} {s : Shared} {l : List Env} {d u : Nat}
    (hh : A.handled = none) (hA : A.frames = some l) (hd : A.depth ≤ d) (hu : A.units ≤ u) (h : wpAny M ⟨none, d, some l, A.guards, u⟩ t Q E s) : wpAny M A t Q E s :=
  fun Γ p hΓ => h Γ p (in_deep hΓ hh hA rfl hd hu)
theorem news_sub {h₀ h : Heap} {L : Addr} {big small : List (Addr × Obj)} (N : News h₀ L h big) (hs : ∀ p ∈ small, p ∈ big) : News h₀ L h small := fun p hp => N p (hs p hp)
theorem of_allLt {d : Addr} : ∀ {l : List (Addr × Obj)}, AllLt d l → ∀ p ∈ l, p.1 < d
  | [], _ => fun _ h => nomatch h
  | _ :: _, ⟨h1, h2⟩ => fun p hp => by
    rcases List.mem_cons.mp hp with rfl | hp
    · exact h1
    · exact of_allLt h2 p hp
/-- a place where the walk is to halt -/
structure Stop (p : Prop) : Prop where
  out : p
structure Cx (w : World) (A : Around) (d : Nat) (base : Heap) (env : Env) (outer : List Env) (h₀ : Heap) (L : Addr) : Prop where
  handled : A.handled = none
  frames : A.frames = some (env :: outer)
  fr : env.frame = some L
  kind : env.scope.kind = .function
  below : ∃ A₀, Below A₀ base outer h₀
  kin : (Mine.hd.heap_39 w.params).In h₀
  top : ∃ p loose mean mg mb, Top p loose mean mg mb h₀
  depth : A.depth ≤ d
  units : A.units ≤ d
theorem eps_all {V : Type} {ne : Nonempty V} {P : V → Prop} (h : P (@Classical.epsilon V ne fun v => ¬ P v)) (v : V) : P v :=
  Classical.byContradiction fun hv => (@Classical.epsilon_spec V (fun v => ¬ P v) ⟨v, hv⟩) h
end
end Mine
end
/-! part V1 -/
section
open PySem PySem.W PyProof.Rows
set_option autoImplicit false
namespace Mine
noncomputable section
noncomputable abbrev oneF : UInt64 := 4607182418800017408
noncomputable abbrev sixF : UInt64 := 4618441417868443648
noncomputable abbrev halfF : UInt64 := 4602678819172646912
noncomputable abbrev oneThird : UInt64 := 4599676419421066581
noncomputable abbrev oneSixth : UInt64 := 4595172819793696085
noncomputable abbrev twoThird : UInt64 := 4604180019048437077
@[irreducible] def vF (m1 m2 hue : UInt64) : UInt64 :=
  if (Float64.cmp (Float64.divmod hue oneF).2 oneSixth == some .lt) = true then Float64.add m1 (Float64.mul (Float64.mul (Float64.sub m2 m1) (Float64.divmod hue oneF).2) sixF)
  else if (Float64.cmp (Float64.divmod hue oneF).2 halfF == some .lt) = true then m2
  else if (Float64.cmp (Float64.divmod hue oneF).2 twoThird == some .lt) = true then Float64.add m1 (Float64.mul (Float64.mul (Float64.sub m2 m1) (Float64.sub twoThird (Float64.divmod hue oneF).2)) sixF)
  else m1
local macro_rules | `(tactic| walk_at "binaryOp Mod float float") => `(tactic| (refine AutoFloatOps.mod_1 (by decide +kernel) ?_; (try dsimp only [Made.post])))
variable {w : World} {A : Around} {s : Shared} {base h₀ : Heap} {outer : List Env} {env : Env} {L : Addr} {m : Str → Option Value} {news : List (Addr × Obj)} {Q : Value → Shared → Prop} {E : Value → Shared → Prop}
set_option maxRecDepth 100000 in
set_option maxHeartbeats 8000000 in
theorem v_spec {m1 m2 hue : UInt64} {t1 t2 t3 : Tok}
   (C : Cx w A 480 base env outer h₀ L) (F : Fr h₀ L s.heap m) (N : News h₀ L s.heap news)
   (h : ∀ r tk h' tk', r = vF m1 m2 hue → Fr h₀ L h' m → News h₀ L h' news → Q (.float r tk) { s with heap := h', toks := tk' }) :
   wpAny (model PySem.Challenge.rw_rs0100_01.prog w) A (call (.ref 92) [.float m1 t1, .float m2 t2, .float hue t3]) Q E s := by
  obtain ⟨hh, hA, hf, hke, ⟨A₀, B⟩, X, ⟨p, loose, mean, mg, mb, T⟩, hd, hu⟩ := C
  refine wp_deep hh hA hd hu ?_
  revert X; k_fill; intro X
  refine wpAny_call ?_
  refine code_def (binds := [(Str.ofString "m1", .float m1 t1), (Str.ofString "m2", .float m2 t2), (Str.ofString "hue", .float hue t3)]) B F X N T rfl hf hke (by k_is) (by k_is) (by show (480:Nat) < recursionLimit; decide) (BindsTo.of_eq rfl) (locs rfl) ?_ rfl rfl rfl (by decide)
  intro g' L' h' FG' F' N' B' X' T'
  dsimp only
  k_fold
  k_steps
  all_goals (refine h _ _ _ _ ?_ (by assumption) (by assumption); clear B F N T X; simp only [vF, *]; simp)
end
end Mine
end
/-! part V2 -/
section
open PySem PySem.W PyProof.Rows
set_option autoImplicit false
namespace Mine
noncomputable section
noncomputable abbrev twoF : UInt64 := 4611686018427387904
noncomputable abbrev fourF : UInt64 := 4616189618054758400
@[irreducible] def m2F (l s : UInt64) : UInt64 :=
  if (Float64.cmp l halfF == some .lt || Float64.cmp l halfF == some .eq) = true then Float64.mul l (Float64.add oneF s) else Float64.sub (Float64.add l s) (Float64.mul l s)
@[irreducible] def m1F (l s : UInt64) : UInt64 := Float64.sub (Float64.mul twoF l) (m2F l s)
@[irreducible] def redF (h l s : UInt64) : UInt64 := vF (m1F l s) (m2F l s) (Float64.add h oneThird)
@[irreducible] def greenF (h l s : UInt64) : UInt64 := vF (m1F l s) (m2F l s) h
@[irreducible] def blueF (h l s : UInt64) : UInt64 := vF (m1F l s) (m2F l s) (Float64.sub h oneThird)
local macro_rules | `(tactic| walk_at "call ref") => `(tactic| (k_here; (with_reducible show wpAny _ _ (call (Value.ref 92) _) _ _ _); (refine v_spec ⟨rfl, rfl, rfl, rfl, ⟨_, by k_asm⟩, by k_asm, ⟨_, _, _, _, _, by k_asm⟩, Nat.le_of_ble_eq_true rfl, Nat.le_of_ble_eq_true rfl⟩ (by k_asm) (by k_asm) ?_); intro r' tk' h' tk2' e' F' N'; (try k_sweep); (try dsimp only)))
variable {w : World} {A : Around} {s : Shared} {base h₀ : Heap} {outer : List Env} {env : Env} {L : Addr} {m : Str → Option Value} {news : List (Addr × Obj)} {Q : Value → Shared → Prop} {E : Value → Shared → Prop}
set_option maxRecDepth 100000 in
set_option maxHeartbeats 8000000 in
theorem hls_spec {hue li sa : UInt64} {t1 t2 t3 : Tok}
   (C : Cx w A 470 base env outer h₀ L) (F : Fr h₀ L s.heap m) (N : News h₀ L s.heap news)
   (hs : (Float64.cmp sa 0 == some .eq) = false)
   (h : ∀ a r1 r2 r3 t1 t2 t3 h' tk', r1 = redF hue li sa → r2 = greenF hue li sa → r3 = blueF hue li sa → (∀ p ∈ news, p.1 < a) → Fr h₀ L h' m → News h₀ L h' ((a, tupO [.float r1 t1, .float r2 t2, .float r3 t3]) :: news) → Q (.ref a) { s with heap := h', toks := tk' }) :
   wpAny (model PySem.Challenge.rw_rs0100_01.prog w) A (call (.ref 85) [.float hue t1, .float li t2, .float sa t3]) Q E s := by
  obtain ⟨hh, hA, hf, hke, ⟨A₀, B⟩, X, ⟨p, loose, mean, mg, mb, T⟩, hd, hu⟩ := C
  refine wp_deep hh hA hd hu ?_
  revert X; k_fill; intro X
  refine wpAny_call ?_
  refine code_def (binds := [(Str.ofString "h", .float _ t1), (Str.ofString "l", .float li t2), (Str.ofString "s", .float sa t3)]) B F X N T rfl hf hke (by k_is) (by k_is) (by show (470:Nat) < recursionLimit; decide) (BindsTo.of_eq rfl) (locs rfl) ?_ rfl rfl rfl (by decide)
  intro g' L' h' FG' F' N' B' X' T'
  dsimp only
  k_fold
  k_steps
  all_goals (refine h _ _ _ _ _ _ _ _ _ ?_ ?_ ?_ (by assumption) (by assumption) (by assumption))
  all_goals (clear B F N T X; simp only [redF, greenF, blueF, m1F, m2F]; simp [*])
end
end Mine
end
/-! part M3 -/
section
open PySem PySem.W PyProof.Rows PySem.Flt
set_option autoImplicit false
namespace Mine
noncomputable section
noncomputable def fltB (a b : UInt64) : Bool := Float64.cmp a b == some .lt
@[irreducible] def max3F (a b c : UInt64) : UInt64 := if fltB a b = true then (if fltB b c = true then c else b) else (if fltB a c = true then c else a)
@[irreducible] def min3F (a b c : UInt64) : UInt64 := if fltB b a = true then (if fltB c b = true then c else b) else (if fltB c a = true then c else a)
theorem max3_spec {prog : Program} {w : World} {A : Around} {E : Value → Shared → Prop} {s : Shared} {Q : Value → Shared → Prop} {a b c : UInt64} {t u x : Tok} {h₀ : Heap} {L : Addr} {m : Str → Option Value} {news : List (Addr × Obj)}
    (hh : A.handled = none) (F : Fr h₀ L s.heap m) (N : News h₀ L s.heap news)
    (h : ∀ r h' tk v, r = max3F a b c → Fr h₀ L h' m → News h₀ L h' news → Q (.float r v) { s with heap := h', toks := tk }) :
    wpAny (model prog w) A (call (.builtin "max") [.float a t, .float b u, .float c x]) Q E s := by
  have hT : (s.heap.push { cls := .type "tuple", data := .seq #[.float a t, .float b u, .float c x] }).IsTuple s.heap.objs.size #[.float a t, .float b u, .float c x] := ⟨_, Heap.get?_push_size _ rfl, rfl, 0, rfl⟩
  refine call_max_three (wpAny_pyIter_tuple hT ?_)
  have hsz : (s.heap.push { cls := .type "tuple", data := .seq #[.float a t, .float b u, .float c x] }).objs.size = s.heap.objs.size + 1 := Heap.size_push ..
  refine ⟨_, [_, s.heap.objs.size], [_], _, _, _, _, rfl, Walks.tuple (A := A.in1) hh _ s.heap.objs.size (by rw [hsz]; exact Nat.ne_of_lt (Nat.lt_succ_self _)) #[.float a t, .float b u, .float c x],
    ⟨⟨_, Heap.get?_push_size _ rfl, rfl, rfl⟩, hT.push _⟩, fun d hd => ?_, by simp, cmpOf_gt #[.float a t, .float b u, .float c x] (by simp [NumV.float]), fun v h' tk hP hk => ?_⟩
  · show d < ((s.heap.push _).push _).objs.size
    rw [Heap.size_push, hsz]
    simp only [List.mem_cons, List.not_mem_nil, or_false] at hd
    rcases hd with rfl | rfl
    · rw [hsz]; exact Nat.lt_succ_self _
    · exact Nat.lt_succ_of_lt (Nat.lt_succ_self _)
  · have hold : ∀ d o, s.heap.get? d = some o → h'.get? d = some o := fun d o e => by
      refine hk d o (fun hm => ?_) (Heap.get?_push_of_some _ (Heap.get?_push_of_some _ e))
      have e1 := List.mem_singleton.mp hm
      have := Heap.lt_size e; rw [e1, hsz] at this; exact absurd (Nat.lt_of_succ_lt this) (Nat.lt_irrefl _)
    have hv : ∃ v', v = .float (max3F a b c) v' := by
      unfold max3F
      have e1 : fltB a b = ltV (.float a t) (.float b u) := rfl
      have e2 : fltB b c = ltV (.float b u) (.float c x) := rfl
      have e3 : fltB a c = ltV (.float a t) (.float c x) := rfl
      cases h1 : fltB a b <;> cases h2 : fltB b c <;> cases h3 : fltB a c <;> rw [e1] at h1 <;> rw [e2] at h2 <;> rw [e3] at h3 <;> simp [argBest, h1, h2, h3] at hP <;> simp [← hP]
    obtain ⟨v', rfl⟩ := hv
    exact h _ h' tk v' rfl (F.grownK hold) (N.grown hold)
theorem min3_spec {prog : Program} {w : World} {A : Around} {E : Value → Shared → Prop} {s : Shared} {Q : Value → Shared → Prop} {a b c : UInt64} {t u x : Tok} {h₀ : Heap} {L : Addr} {m : Str → Option Value} {news : List (Addr × Obj)}
    (hh : A.handled = none) (F : Fr h₀ L s.heap m) (N : News h₀ L s.heap news)
    (h : ∀ r h' tk v, r = min3F a b c → Fr h₀ L h' m → News h₀ L h' news → Q (.float r v) { s with heap := h', toks := tk }) :
    wpAny (model prog w) A (call (.builtin "min") [.float a t, .float b u, .float c x]) Q E s := by
  have hT : (s.heap.push { cls := .type "tuple", data := .seq #[.float a t, .float b u, .float c x] }).IsTuple s.heap.objs.size #[.float a t, .float b u, .float c x] := ⟨_, Heap.get?_push_size _ rfl, rfl, 0, rfl⟩
  refine call_min_three (wpAny_pyIter_tuple hT ?_)
  have hsz : (s.heap.push { cls := .type "tuple", data := .seq #[.float a t, .float b u, .float c x] }).objs.size = s.heap.objs.size + 1 := Heap.size_push ..
  refine ⟨_, [_, s.heap.objs.size], [_], _, _, _, _, rfl, Walks.tuple (A := A.in1) hh _ s.heap.objs.size (by rw [hsz]; exact Nat.ne_of_lt (Nat.lt_succ_self _)) #[.float a t, .float b u, .float c x],
    ⟨⟨_, Heap.get?_push_size _ rfl, rfl, rfl⟩, hT.push _⟩, fun d hd => ?_, by simp, cmpOf_lt #[.float a t, .float b u, .float c x] (by simp [NumV.float]), fun v h' tk hP hk => ?_⟩
  · show d < ((s.heap.push _).push _).objs.size
    rw [Heap.size_push, hsz]
    simp only [List.mem_cons, List.not_mem_nil, or_false] at hd
    rcases hd with rfl | rfl
    · rw [hsz]; exact Nat.lt_succ_self _
    · exact Nat.lt_succ_of_lt (Nat.lt_succ_self _)
  · have hold : ∀ d o, s.heap.get? d = some o → h'.get? d = some o := fun d o e => by
      refine hk d o (fun hm => ?_) (Heap.get?_push_of_some _ (Heap.get?_push_of_some _ e))
      have e1 := List.mem_singleton.mp hm
      have := Heap.lt_size e; rw [e1, hsz] at this; exact absurd (Nat.lt_of_succ_lt this) (Nat.lt_irrefl _)
    have hv : ∃ v', v = .float (min3F a b c) v' := by
      unfold min3F
      have e1 : fltB b a = ltV (.float b u) (.float a t) := rfl
      have e2 : fltB c b = ltV (.float c x) (.float b u) := rfl
      have e3 : fltB c a = ltV (.float c x) (.float a t) := rfl
      cases h1 : fltB b a <;> cases h2 : fltB c b <;> cases h3 : fltB c a <;> rw [e1] at h1 <;> rw [e2] at h2 <;> rw [e3] at h3 <;> simp [argBest, h1, h2, h3] at hP <;> simp [← hP]
    obtain ⟨v', rfl⟩ := hv
    exact h _ h' tk v' rfl (F.grownK hold) (N.grown hold)
end
end Mine
end
/-! part V3 -/
section
open PySem PySem.W PyProof.Rows
set_option autoImplicit false
namespace Mine
noncomputable section
local macro_rules | `(tactic| walk_at "binaryOp Mod float float") => `(tactic| (refine AutoFloatOps.mod_1 (by decide +kernel) ?_; (try dsimp only [Made.post])))
local macro_rules | `(tactic| walk_at "binaryOp Div float float") => `(tactic| (refine AutoFloatOps.truediv_1 (by first | assumption | decide +kernel) ?_; (try dsimp only [Made.post])))
theorem exec_gen {α : Type} {M : Model} {A : Around} {s : Shared} {t : Sem α} {Q : α → Shared → Prop} {E : Value → Shared → Prop} (hp : 0 < s.toks) (h : ∀ tk, 0 < tk → wpAny M A t Q E { s with toks := tk }) : wpAny M A t Q E s := h s.toks hp
local macro_rules | `(tactic| walk_at "execs cons") => `(tactic| (k_here; (with_reducible refine exec_gen (Nat.succ_pos _) ?_); intro tk' hpos'; (try dsimp only)))
local macro_rules | `(tactic| walk_at "call builtin:max") => `(tactic| (k_here; refine max3_spec rfl (by k_asm) (by k_asm) ?_; intro r' h' tk' v' e' F' N'; subst e'; (try k_sweep); (try dsimp only)))
local macro_rules | `(tactic| walk_at "call builtin:min") => `(tactic| (k_here; refine min3_spec rfl (by k_asm) (by k_asm) ?_; intro r' h' tk' v' e' F' N'; subst e'; (try k_sweep); (try dsimp only)))
variable {w : World} {A : Around} {s : Shared} {base h₀ : Heap} {outer : List Env} {env : Env} {L : Addr} {m : Str → Option Value} {news : List (Addr × Obj)} {Q : Value → Shared → Prop} {E : Value → Shared → Prop}
@[irreducible] def lightF (mx mn : UInt64) : UInt64 := Float64.div (Float64.add mx mn) twoF
@[irreducible] def leHalf (l : UInt64) : Bool := Float64.cmp l halfF == some .lt || Float64.cmp l halfF == some .eq
@[irreducible] def shareF (mx mn : UInt64) : UInt64 :=
  if leHalf (lightF mx mn) = true then Float64.div (Float64.sub mx mn) (Float64.add mx mn) else Float64.div (Float64.sub mx mn) (Float64.sub (Float64.sub twoF mx) mn)
@[irreducible] def hueF (r g b mx mn : UInt64) : UInt64 :=
  let rc := Float64.div (Float64.sub mx r) (Float64.sub mx mn)
  let gc := Float64.div (Float64.sub mx g) (Float64.sub mx mn)
  let bc := Float64.div (Float64.sub mx b) (Float64.sub mx mn)
  (Float64.divmod (Float64.div (if (Float64.cmp r mx == some .eq) = true then Float64.sub bc gc else if (Float64.cmp g mx == some .eq) = true then Float64.sub (Float64.add twoF rc) bc else Float64.sub (Float64.add fourF gc) rc) sixF) oneF).2
set_option maxRecDepth 100000 in
set_option maxHeartbeats 8000000 in
theorem rgb_spec {r g b : UInt64} {t1 t2 t3 : Tok}
   (C : Cx w A 470 base env outer h₀ L) (F : Fr h₀ L s.heap m) (N : News h₀ L s.heap news)
   (hne : (Float64.cmp (min3F r g b) (max3F r g b) == some .eq) = false)
   (hr : ¬ Float64.isZero (Float64.sub (max3F r g b) (min3F r g b)) = true)
   (hs1 : ¬ Float64.isZero (Float64.add (max3F r g b) (min3F r g b)) = true)
   (hs2 : ¬ Float64.isZero (Float64.sub (Float64.sub twoF (max3F r g b)) (min3F r g b)) = true)
   (h : ∀ a r1 r2 r3 t1 t2 t3 h' tk', r1 = hueF r g b (max3F r g b) (min3F r g b) → r2 = lightF (max3F r g b) (min3F r g b) → r3 = shareF (max3F r g b) (min3F r g b) → t2 ≠ 0 → t3 ≠ 0 → (∀ p ∈ news, p.1 < a) → Fr h₀ L h' m → News h₀ L h' ((a, tupO [.float r1 t1, .float r2 t2, .float r3 t3]) :: news) → Q (.ref a) { s with heap := h', toks := tk' }) :
   wpAny (model PySem.Challenge.rw_rs0100_01.prog w) A (call (.ref 78) [.float r t1, .float g t2, .float b t3]) Q E s := by
  obtain ⟨hh, hA, hf, hke, ⟨A₀, B⟩, X, ⟨p, loose, mean, mg, mb, T⟩, hd, hu⟩ := C
  refine wp_deep hh hA hd hu ?_
  revert X; k_fill; intro X
  refine wpAny_call ?_
  refine code_def (binds := [(Str.ofString "r", .float r t1), (Str.ofString "g", .float g t2), (Str.ofString "b", .float b t3)]) B F X N T rfl hf hke (by k_is) (by k_is) (by show (470:Nat) < recursionLimit; decide) (BindsTo.of_eq rfl) (locs rfl) ?_ rfl rfl rfl (by decide)
  intro g' L' h' FG' F' N' B' X' T'
  dsimp only
  k_fold
  k_steps
  all_goals (refine h _ _ _ _ _ _ _ _ _ ?_ ?_ ?_ ?z2 ?z3 (by assumption) (by assumption) (by assumption); (case z2 => first | exact Nat.succ_ne_zero _ | exact Nat.ne_of_gt (by assumption)); (case z3 => first | exact Nat.succ_ne_zero _ | exact Nat.ne_of_gt (by assumption)))
  all_goals (clear B F N T X; simp only [hueF, lightF, shareF, leHalf] <;> simp [*])
end
end Mine
end
/-! part F1 -/
section
open PySem PySem.W PyProof.Rows
set_option autoImplicit false
namespace Mine
noncomputable section
@[irreducible] def lightN (n : Nat) : UInt64 := Float64.ofFrac false (1 + 2 * (n % 4)) 8
@[irreducible] def shareN (n : Nat) : UInt64 := Float64.ofFrac false (1 + n / 4) 4
@[irreducible] def hueN (s : Nat) : Nat := (2 * s + 1) * 2 ^ 35
@[irreducible] def hueArg (s t : Nat) : UInt64 := Float64.add (Float64.ofFrac false (hueN s) (2 ^ 40)) (Float64.ofInt ((t : Int) - 2))
@[irreducible] def bigF : UInt64 := Float64.ofInt (2 ^ 40)
/-- a double worked out before it is handed on -/
noncomputable def force (x : UInt64) (k : UInt64 → Bool) : Bool :=
  match x.toNat with
  | 0 => k 0
  | n + 1 => k (UInt64.ofNat (n + 1))
theorem force_eq (x : UInt64) (k : UInt64 → Bool) : force x k = k x := by
  unfold force
  split
  · rename_i h
    have : x = 0 := by
      rw [← UInt64.toNat_inj]; exact h
    rw [this]
  · rename_i n h
    have : UInt64.ofNat (n + 1) = x := by
      have h' : x.toNat = n + 1 := h
      rw [← h']; exact UInt64.ofNat_toNat
    rw [this]
noncomputable def toldOk (s : Nat) (r g b mx mn l sa : UInt64) : Prop :=
  (Float64.cmp sa 0 == some .eq) = false ∧ (Float64.cmp mn mx == some .eq) = false ∧ (Float64.isZero (Float64.sub mx mn)) = false ∧ (Float64.isZero (Float64.add mx mn)) = false ∧
  (Float64.isZero (Float64.sub (Float64.sub twoF mx) mn)) = false ∧ lightF mx mn = l ∧ shareF mx mn = sa ∧ Float64.isFinite (Float64.mul (hueF r g b mx mn) bigF) = true ∧
  Flt.toInt Float64.nearestOf (Float64.mul (hueF r g b mx mn) bigF) = (hueN s : Int)
noncomputable def hueK (r g b mx mn : UInt64) (k : UInt64 → Bool) : Bool :=
  force (Float64.sub mx mn) fun d =>
  force (Float64.div (Float64.sub mx r) d) fun rc =>
  force (Float64.div (Float64.sub mx g) d) fun gc =>
  force (Float64.div (Float64.sub mx b) d) fun bc =>
  force (Float64.div (if (Float64.cmp r mx == some .eq) = true then Float64.sub bc gc else if (Float64.cmp g mx == some .eq) = true then Float64.sub (Float64.add twoF rc) bc else Float64.sub (Float64.add fourF gc) rc) sixF) fun x =>
  force ((Float64.divmod x oneF).2) k
theorem hueK_eq (r g b mx mn : UInt64) (k : UInt64 → Bool) : hueK r g b mx mn k = k (hueF r g b mx mn) := by
  simp only [hueK, force_eq, hueF]
inductive Ch where
  | mid (c : UInt64) | top | bot
  deriving DecidableEq
structure Key where
  r : Ch
  g : Ch
  b : Ch
  deriving DecidableEq
noncomputable def Ch.val (m1 m2 : UInt64) : Ch → UInt64
  | .mid c => Float64.add m1 (Float64.mul (Float64.mul (Float64.sub m2 m1) c) sixF)
  | .top => m2
  | .bot => m1
noncomputable def chOf (hue : UInt64) : Ch :=
  if (Float64.cmp (Float64.divmod hue oneF).2 oneSixth == some .lt) = true then .mid (Float64.divmod hue oneF).2
  else if (Float64.cmp (Float64.divmod hue oneF).2 halfF == some .lt) = true then .top
  else if (Float64.cmp (Float64.divmod hue oneF).2 twoThird == some .lt) = true then .mid (Float64.sub twoThird (Float64.divmod hue oneF).2)
  else .bot
theorem vF_ch (m1 m2 hue : UInt64) : vF m1 m2 hue = (chOf hue).val m1 m2 := by
  unfold vF chOf
  (repeat' split) <;> rfl
noncomputable def chIs (hue : UInt64) (c : Ch) : Bool :=
  force (Float64.divmod hue oneF).2 fun f =>
  if (Float64.cmp f oneSixth == some .lt) = true then (match c with | .mid x => f == x | _ => false)
  else if (Float64.cmp f halfF == some .lt) = true then (match c with | .top => true | _ => false)
  else if (Float64.cmp f twoThird == some .lt) = true then (match c with | .mid x => Float64.sub twoThird f == x | _ => false)
  else (match c with | .bot => true | _ => false)
theorem chIs_ok {hue : UInt64} {c : Ch} (h : chIs hue c = true) : chOf hue = c := by
  simp only [chIs, force_eq] at h
  unfold chOf
  (repeat' split at h) <;> simp_all
noncomputable def keys : Nat → List Key
  | 0 => [⟨.top, .mid 4584664420663164928, .bot⟩]
  | 1 => [⟨.top, .mid 4591419820104220672, .bot⟩]
  | 2 => [⟨.top, .mid 4594797519824748544, .bot⟩]
  | 3 => [⟨.mid 4592921019980010840, .top, .bot⟩, ⟨.mid 4592921019980010824, .top, .bot⟩]
  | 4 => [⟨.mid 4587666820414745264, .top, .bot⟩, ⟨.mid 4587666820414745232, .top, .bot⟩]
  | 5 => [⟨.bot, .top, .mid 4577158421284214144⟩, ⟨.bot, .top, .mid 4577158421284214112⟩, ⟨.bot, .top, .mid 4577158421284214016⟩]
  | 6 => [⟨.bot, .top, .mid 4589918620228430512⟩, ⟨.bot, .top, .mid 4589918620228430508⟩, ⟨.bot, .top, .mid 4589918620228430496⟩]
  | 7 => [⟨.bot, .top, .mid 4594046919886853464⟩, ⟨.bot, .top, .mid 4594046919886853462⟩, ⟨.bot, .top, .mid 4594046919886853456⟩]
  | 8 => [⟨.bot, .mid 4594046919886853460, .top⟩]
  | 9 => [⟨.bot, .mid 4589918620228430504, .top⟩]
  | 10 => [⟨.bot, .mid 4577158421284214080, .top⟩]
  | 11 => [⟨.mid 4587666820414745248, .bot, .top⟩, ⟨.mid 4587666820414745256, .bot, .top⟩, ⟨.mid 4587666820414745280, .bot, .top⟩]
  | 12 => [⟨.mid 4592921019980010832, .bot, .top⟩, ⟨.mid 4592921019980010836, .bot, .top⟩, ⟨.mid 4592921019980010848, .bot, .top⟩]
  | 13 => [⟨.top, .bot, .mid 4594797519824748540⟩, ⟨.top, .bot, .mid 4594797519824748548⟩]
  | 14 => [⟨.top, .bot, .mid 4591419820104220664⟩, ⟨.top, .bot, .mid 4591419820104220680⟩]
  | 15 => [⟨.top, .bot, .mid 4584664420663164896⟩, ⟨.top, .bot, .mid 4584664420663164944⟩]
  | _ => []
noncomputable def keyIn (s t : Nat) : Bool := force (hueArg s t) fun h => (keys s).any fun k => chIs (Float64.add h oneThird) k.r && chIs h k.g && chIs (Float64.sub h oneThird) k.b
set_option maxRecDepth 100000 in
set_option maxHeartbeats 4000000 in
theorem keys_all : (List.range 16).all (fun s => (List.range 5).all fun t => keyIn s t) = true := by decide +kernel
noncomputable def chkK (s : Nat) (k : Key) (l sa m1 m2 : UInt64) : Bool :=
  force (k.r.val m1 m2) fun r =>
  force (k.g.val m1 m2) fun g =>
  force (k.b.val m1 m2) fun b =>
  force (max3F r g b) fun mx =>
  force (min3F r g b) fun mn =>
  !(Float64.cmp sa 0 == some .eq) && !(Float64.cmp mn mx == some .eq) && !(Float64.isZero (Float64.sub mx mn)) && !(Float64.isZero (Float64.add mx mn)) &&
  !(Float64.isZero (Float64.sub (Float64.sub twoF mx) mn)) && (force (lightF mx mn) fun li => (li == l) && (force (if leHalf li = true then Float64.div (Float64.sub mx mn) (Float64.add mx mn) else Float64.div (Float64.sub mx mn) (Float64.sub (Float64.sub twoF mx) mn)) fun sh => sh == sa)) &&
  (hueK r g b mx mn fun hu => force (Float64.mul hu bigF) fun x => Float64.isFinite x && (Flt.toInt Float64.nearestOf x == (hueN s : Int)))
noncomputable def chk (s : Nat) (k : Key) (n : Nat) : Bool :=
  force (lightN n) fun l => force (shareN n) fun sa => force (m2F l sa) fun m2 => force (Float64.sub (Float64.mul twoF l) m2) fun m1 => chkK s k l sa m1 m2
theorem chk_ok {s t n : Nat} (hs : s < 16) (ht : t < 5) (h : (keys s).all (fun k => chk s k n) = true) :
    let hu := hueArg s t
    toldOk s (redF hu (lightN n) (shareN n)) (greenF hu (lightN n) (shareN n)) (blueF hu (lightN n) (shareN n))
      (max3F (redF hu (lightN n) (shareN n)) (greenF hu (lightN n) (shareN n)) (blueF hu (lightN n) (shareN n)))
      (min3F (redF hu (lightN n) (shareN n)) (greenF hu (lightN n) (shareN n)) (blueF hu (lightN n) (shareN n))) (lightN n) (shareN n) := by
  intro hu
  have hk := keys_all
  rw [List.all_eq_true] at hk
  have hk := hk s (List.mem_range.mpr hs)
  rw [List.all_eq_true] at hk
  have hk := hk t (List.mem_range.mpr ht)
  simp only [keyIn, force_eq] at hk
  obtain ⟨k, hk1, hk2⟩ := List.any_eq_true.mp hk
  simp only [Bool.and_eq_true] at hk2
  obtain ⟨⟨a1, a2⟩, a3⟩ := hk2
  have h := List.all_eq_true.mp h k hk1
  have e1 : redF hu (lightN n) (shareN n) = k.r.val (m1F (lightN n) (shareN n)) (m2F (lightN n) (shareN n)) := by unfold redF; rw [vF_ch, chIs_ok a1]
  have e2 : greenF hu (lightN n) (shareN n) = k.g.val (m1F (lightN n) (shareN n)) (m2F (lightN n) (shareN n)) := by unfold greenF; rw [vF_ch, chIs_ok a2]
  have e3 : blueF hu (lightN n) (shareN n) = k.b.val (m1F (lightN n) (shareN n)) (m2F (lightN n) (shareN n)) := by unfold blueF; rw [vF_ch, chIs_ok a3]
  have hm1 : m1F (lightN n) (shareN n) = Float64.sub (Float64.mul twoF (lightN n)) (m2F (lightN n) (shareN n)) := by unfold m1F; rfl
  rw [e1, e2, e3, hm1]
  simp only [chk, chkK, force_eq, hueK_eq, Bool.and_eq_true, Bool.not_eq_true', beq_iff_eq] at h
  obtain ⟨⟨⟨⟨⟨⟨h1, h2⟩, h3⟩, h4⟩, h5⟩, h6, h7⟩, h8, h9⟩ := h
  exact ⟨h1, h2, h3, h4, h5, h6, by unfold shareF; exact h7, h8, h9⟩
theorem chk_0 : (List.range 16).all (fun n => (keys 0).all fun k => chk 0 k n) = true := by decide +kernel
theorem chk_1 : (List.range 16).all (fun n => (keys 1).all fun k => chk 1 k n) = true := by decide +kernel
theorem chk_2 : (List.range 16).all (fun n => (keys 2).all fun k => chk 2 k n) = true := by decide +kernel
theorem chk_3 : (List.range 16).all (fun n => (keys 3).all fun k => chk 3 k n) = true := by decide +kernel
theorem chk_4 : (List.range 16).all (fun n => (keys 4).all fun k => chk 4 k n) = true := by decide +kernel
theorem chk_5 : (List.range 16).all (fun n => (keys 5).all fun k => chk 5 k n) = true := by decide +kernel
theorem chk_6 : (List.range 16).all (fun n => (keys 6).all fun k => chk 6 k n) = true := by decide +kernel
theorem chk_7 : (List.range 16).all (fun n => (keys 7).all fun k => chk 7 k n) = true := by decide +kernel
theorem chk_8 : (List.range 16).all (fun n => (keys 8).all fun k => chk 8 k n) = true := by decide +kernel
theorem chk_9 : (List.range 16).all (fun n => (keys 9).all fun k => chk 9 k n) = true := by decide +kernel
theorem chk_10 : (List.range 16).all (fun n => (keys 10).all fun k => chk 10 k n) = true := by decide +kernel
theorem chk_11 : (List.range 16).all (fun n => (keys 11).all fun k => chk 11 k n) = true := by decide +kernel
theorem chk_12 : (List.range 16).all (fun n => (keys 12).all fun k => chk 12 k n) = true := by decide +kernel
theorem chk_13 : (List.range 16).all (fun n => (keys 13).all fun k => chk 13 k n) = true := by decide +kernel
theorem chk_14 : (List.range 16).all (fun n => (keys 14).all fun k => chk 14 k n) = true := by decide +kernel
theorem chk_15 : (List.range 16).all (fun n => (keys 15).all fun k => chk 15 k n) = true := by decide +kernel
theorem chk_all {s n : Nat} (hs : s < 16) (hn : n < 16) : (keys s).all (fun k => chk s k n) = true := by
  have h : (List.range 16).all (fun n => (keys s).all fun k => chk s k n) = true := by
    match s, hs with
    | 0, _ => exact chk_0
    | 1, _ => exact chk_1
    | 2, _ => exact chk_2
    | 3, _ => exact chk_3
    | 4, _ => exact chk_4
    | 5, _ => exact chk_5
    | 6, _ => exact chk_6
    | 7, _ => exact chk_7
    | 8, _ => exact chk_8
    | 9, _ => exact chk_9
    | 10, _ => exact chk_10
    | 11, _ => exact chk_11
    | 12, _ => exact chk_12
    | 13, _ => exact chk_13
    | 14, _ => exact chk_14
    | 15, _ => exact chk_15
    | k + 16, hk => exact absurd hk (by (first | lia | omega))
  exact List.all_eq_true.mp h n (List.mem_range.mpr hn)
theorem told_ok {s t n : Nat} (hs : s < 16) (ht : t < 5) (hn : n < 16) :
    toldOk s (redF (hueArg s t) (lightN n) (shareN n)) (greenF (hueArg s t) (lightN n) (shareN n)) (blueF (hueArg s t) (lightN n) (shareN n))
      (max3F (redF (hueArg s t) (lightN n) (shareN n)) (greenF (hueArg s t) (lightN n) (shareN n)) (blueF (hueArg s t) (lightN n) (shareN n)))
      (min3F (redF (hueArg s t) (lightN n) (shareN n)) (greenF (hueArg s t) (lightN n) (shareN n)) (blueF (hueArg s t) (lightN n) (shareN n))) (lightN n) (shareN n) := chk_ok hs ht (chk_all hs hn)
end
end Mine
end
/-! part V4 -/
section
open PySem PySem.W PyProof.Rows
set_option autoImplicit false
namespace Mine
noncomputable section
variable {w : World} {A : Around} {s : Shared} {base h₀ : Heap} {outer : List Env} {env : Env} {L : Addr} {m : Str → Option Value} {news : List (Addr × Obj)} {Q : Value → Shared → Prop} {E : Value → Shared → Prop}
theorem news_drop3 {h : Heap} {x a b c : Addr × Obj} {r : List (Addr × Obj)} (N : News h₀ L h (x :: a :: b :: c :: r)) : News h₀ L h (x :: r) := news_sub N fun p hp => by
  rcases List.mem_cons.mp hp with rfl | hp
  · exact .head _
  · exact .tail _ (.tail _ (.tail _ (.tail _ hp)))
theorem div_pos {prog : Program} {a b : Int} {t u : Tok} (ha : 0 ≤ a) (hb : 0 < b) (hlt : a < 2 ^ 100) (h : ∀ x, x = Float64.ofFrac false a.toNat b.toNat → Q (.float x s.toks) { s with toks := s.toks + 1 }) :
    wpAny (model prog w) A (binaryOp .Div (.int a t) (.int b u)) Q E s := by
  have e1 : decide (a < 0) = false := by simpa using ha
  have e2 : decide (b < 0) = false := by simpa using Int.le_of_lt hb
  have e3 : (decide (a < 0) != decide (b < 0)) = false := by rw [e1, e2]; rfl
  have e4 : a.natAbs = a.toNat := by (first | assumption | lia | omega)
  have e5 : b.natAbs = b.toNat := by (first | assumption | lia | omega)
  refine AutoIntOps.truediv_2 (by simp; (first | assumption | lia | omega)) ?_ ?_
  · refine Flt.quot_fits (by (first | assumption | lia | omega)) ?_
    have : a.natAbs < 2 ^ 100 := by omega
    exact Nat.lt_trans this (by decide +kernel)
  · rw [e3, e4, e5]; exact h _ rfl
theorem light_is {x : UInt64} {number : Nat} (e : x = Float64.ofFrac false (1 + 2 * (number : Int).fmod 4).toNat (Int.toNat 8)) : x = lightN number := by
  have hm : Int.fmod (number : Int) 4 = ((number % 4 : Nat) : Int) := by rw [Int.fmod_eq_emod_of_nonneg _ (by decide)]; rfl
  rw [e, hm]; unfold lightN
  have : (1 + 2 * ((number % 4 : Nat) : Int)).toNat = 1 + 2 * (number % 4) := by (first | assumption | lia | omega)
  rw [this]; rfl
theorem share_is {x : UInt64} {number : Nat} (e : x = Float64.ofFrac false (1 + (number : Int).fdiv 4).toNat (Int.toNat 4)) : x = shareN number := by
  have hm : Int.fdiv (number : Int) 4 = ((number / 4 : Nat) : Int) := by rw [Int.fdiv_eq_ediv_of_nonneg _ (by decide)]; rfl
  rw [e, hm]; unfold shareN
  have : (1 + ((number / 4 : Nat) : Int)).toNat = 1 + number / 4 := by (first | assumption | lia | omega)
  rw [this]; rfl
local macro_rules | `(tactic| walk_at "binaryOp Div int int") => `(tactic| (refine div_pos (by omega) (by omega) (by omega) ?_; intro x' e'; (try dsimp only)))
set_option maxRecDepth 100000 in
set_option maxHeartbeats 8000000 in
theorem due_spec {spot number : Nat} {t1 t2 : Tok}
   (C : Cx w A 470 base env outer h₀ L) (F : Fr h₀ L s.heap m) (N : News h₀ L s.heap news)
   (hs : spot < 16) (hn : number < 16)
   (h : ∀ a i x1 x2 t1 t2 t3 h' tk', i = ((hueN spot : Nat) : Int) → x1 = lightN number → x2 = shareN number → t2 ≠ 0 → t3 ≠ 0 → (∀ p ∈ news, p.1 < a) → Fr h₀ L h' m → News h₀ L h' ((a, lisO [.int i t1, .float x1 t2, .float x2 t3] 0) :: news) → Q (.ref a) { s with heap := h', toks := tk' }) :
   wpAny (model PySem.Challenge.rw_rs0100_01.prog w) A (call (.ref 99) [.int (spot : Nat) t1, .int (number : Nat) t2]) Q E s := by
  obtain ⟨hh, hA, hf, hke, ⟨A₀, B⟩, X, ⟨p, loose, mean, mg, mb, T⟩, hd, hu⟩ := C
  refine wp_deep hh hA hd hu ?_
  revert X; k_fill; intro X
  refine wpAny_call ?_
  have hm : Int.fmod (number : Int) 4 = ((number % 4 : Nat) : Int) := by rw [Int.fmod_eq_emod_of_nonneg _ (by decide)]; rfl
  have hq : Int.fdiv (number : Int) 4 = ((number / 4 : Nat) : Int) := by rw [Int.fdiv_eq_ediv_of_nonneg _ (by decide)]; rfl
  refine code_def (binds := [(Str.ofString "spot", .int spot t1), (Str.ofString "number", .int number t2)]) B F X N T rfl hf hke (by k_is) (by k_is) (by show (470:Nat) < recursionLimit; decide) (BindsTo.of_eq rfl) (locs rfl) ?_ rfl rfl rfl (by decide)
  intro g' L' h' FG' F' N' B' X' T'
  dsimp only
  k_fold
  k_steps
  refine h _ _ _ _ _ _ _ _ _ ?_ ?_ ?_ (Nat.succ_ne_zero _) (Nat.succ_ne_zero _) (by assumption) (by assumption) (by assumption)
  · show (2 * (spot : Int) + 1) * 2 ^ 35 = _
    unfold hueN; rw [Int.natCast_mul, Int.natCast_add, Int.natCast_mul]; rfl
  · exact light_is (by assumption)
  · exact share_is (by assumption)
local macro_rules | `(tactic| walk_at "call ref") => `(tactic| (k_here; (with_reducible show wpAny _ _ (call (Value.ref 99) _) _ _ _); (refine due_spec ⟨rfl, rfl, rfl, rfl, ⟨_, by k_asm⟩, by k_asm, ⟨_, _, _, _, _, by k_asm⟩, Nat.le_of_ble_eq_true rfl, Nat.le_of_ble_eq_true rfl⟩ (by k_asm) (by k_asm) (by assumption) (by assumption) ?_); intro a' i' x1' x2' t1' t2' t3' h' tk2' e1' e2' e3' z2' z3' l1 F' N'; subst e1' e2' e3'; (try k_lt l1); (try k_sweep); (try dsimp only)))
theorem div_hue {prog : Program} {spot : Nat} {t u : Tok} (hs : spot < 16) (h : Q (.float (Float64.ofFrac false (hueN spot) (2 ^ 40)) s.toks) { s with toks := s.toks + 1 }) :
    wpAny (model prog w) A (binaryOp .Div (.int ((hueN spot : Nat) : Int) t) (.int (2 ^ Int.toNat 40) u)) Q E s := by
  have hb : hueN spot < 2 ^ 40 := by unfold hueN; omega
  have hb' : ((hueN spot : Nat) : Int) < 2 ^ 40 := by exact_mod_cast hb
  refine div_pos (by omega) (by decide) (Int.lt_trans hb' (by decide)) ?_
  intro x e
  have e2 : Int.toNat (2 ^ Int.toNat 40) = 2 ^ 40 := by decide
  rw [e2, Int.toNat_natCast] at e
  rw [e]; exact h
theorem add_turn {prog : Program} {spot turn : Nat} {t u : Tok} (ht : turn < 5) (h : Q (.float (hueArg spot turn) s.toks) { s with toks := s.toks + 1 }) :
    wpAny (model prog w) A (binaryOp .Add (.float (Float64.ofFrac false (hueN spot) (2 ^ 40)) t) (.int ((turn : Int) - 2) u)) Q E s := by
  refine AutoFloatOps.add_fi_1 ?_ ?_
  · have : ∀ k : Nat, k < 5 → ¬ Float64.isInf (Float64.ofInt ((k : Int) - 2)) = true := by decide +kernel
    exact this turn ht
  · unfold hueArg at h; exact h
@[irreducible] def HueTold (spot : Nat) (x : UInt64) : Prop := Float64.isFinite (Float64.mul x bigF) = true ∧ Flt.toInt Float64.nearestOf (Float64.mul x bigF) = ((hueN spot : Nat) : Int)
theorem mul_big {prog : Program} {x : UInt64} {t u : Tok} (h : Q (.float (Float64.mul x bigF) s.toks) { s with toks := s.toks + 1 }) :
    wpAny (model prog w) A (binaryOp .Mult (.float x t) (.int (2 ^ Int.toNat 40) u)) Q E s := by
  refine AutoFloatOps.mul_fi_1 (by decide +kernel) ?_
  have e : Float64.ofInt (2 ^ Int.toNat 40) = bigF := by unfold bigF; rfl
  rw [e]; exact h
theorem round_hue {prog : Program} {x : UInt64} {t : Tok} {spot : Nat} (hA : A.handled = none) (hx : HueTold spot x) (h : Q (.int ((hueN spot : Nat) : Int) s.toks) { s with toks := s.toks + 1 }) :
    wpAny (model prog w) A (call (.builtin "round") [.float (Float64.mul x bigF) t]) Q E s := by
  unfold HueTold at hx
  obtain ⟨hf, hi⟩ := hx
  exact Flt.call_round_float hA (fun c => absurd c (by rw [Flt.not_nan_of_finite hf]; exact Bool.false_ne_true)) (fun c => absurd c (by rw [Flt.not_inf_of_finite hf]; exact Bool.false_ne_true)) (fun _ => hi ▸ h)
theorem share_ne {n : Nat} (h : n < 16) : (Float64.cmp (shareN n) 0 == some .eq) = false := by
  have : ∀ n, n < 16 → (Float64.cmp (shareN n) 0 == some .eq) = false := by decide +kernel
  exact this n h
theorem no_of {b : Bool} (h : b = false) : ¬ b = true := by rw [h]; exact Bool.false_ne_true
theorem rgb_told {spot turn number : Nat} {t1 t2 t3 : Tok} (hs : spot < 16) (ht : turn < 5) (hn : number < 16)
   (C : Cx w A 470 base env outer h₀ L) (F : Fr h₀ L s.heap m) (N : News h₀ L s.heap news)
   (h : ∀ a x t1 t2 t3 h' tk', HueTold spot x → t2 ≠ 0 → t3 ≠ 0 → (∀ p ∈ news, p.1 < a) → Fr h₀ L h' m → News h₀ L h' ((a, tupO [.float x t1, .float (lightN number) t2, .float (shareN number) t3]) :: news) → Q (.ref a) { s with heap := h', toks := tk' }) :
   wpAny (model PySem.Challenge.rw_rs0100_01.prog w) A (call (.ref 78) [.float (redF (hueArg spot turn) (lightN number) (shareN number)) t1, .float (greenF (hueArg spot turn) (lightN number) (shareN number)) t2, .float (blueF (hueArg spot turn) (lightN number) (shareN number)) t3]) Q E s := by
  obtain ⟨q1, q2, q3, q4, q5, q6, q7, q8, q9⟩ := told_ok hs ht hn
  refine rgb_spec C F N q2 (no_of q3) (no_of q4) (no_of q5) ?_
  intro a r1 r2 r3 t1 t2 t3 h' tk' e1 e2 e3 z2 z3 l1 F' N'
  rw [q6] at e2; rw [q7] at e3
  subst e2 e3
  exact h a r1 t1 t2 t3 h' tk' (by unfold HueTold; rw [e1]; exact ⟨q8, q9⟩) z2 z3 l1 F' N'
local macro_rules | `(tactic| walk_at "binaryOp Div int int") => `(tactic| (refine div_hue (by assumption) ?_; (try dsimp only)))
local macro_rules | `(tactic| walk_at "binaryOp Add float int") => `(tactic| (refine add_turn (by assumption) ?_; (try dsimp only)))
local macro_rules | `(tactic| walk_at "binaryOp Mult float int") => `(tactic| (refine mul_big ?_; (try dsimp only)))
local macro_rules | `(tactic| walk_at "call builtin:round") => `(tactic| (refine round_hue rfl (by assumption) ?_; (try dsimp only)))
local macro_rules | `(tactic| walk_at "call ref") => `(tactic| (k_here; (with_reducible show wpAny _ _ (call (Value.ref 85) _) _ _ _); (refine hls_spec ⟨rfl, rfl, rfl, rfl, ⟨_, by k_asm⟩, by k_asm, ⟨_, _, _, _, _, by k_asm⟩, Nat.le_of_ble_eq_true rfl, Nat.le_of_ble_eq_true rfl⟩ (by k_asm) (by k_asm) (share_ne (by assumption)) ?_); intro a' r1' r2' r3' t1' t2' t3' h' tk2' e1' e2' e3' l1 F' N'; subst e1' e2' e3'; (try k_lt l1); (try k_sweep); (try dsimp only)))
local macro_rules | `(tactic| walk_at "call ref") => `(tactic| (k_here; (with_reducible show wpAny _ _ (call (Value.ref 78) _) _ _ _); (refine rgb_told (by assumption) (by assumption) (by assumption) ⟨rfl, rfl, rfl, rfl, ⟨_, by k_asm⟩, by k_asm, ⟨_, _, _, _, _, by k_asm⟩, Nat.le_of_ble_eq_true rfl, Nat.le_of_ble_eq_true rfl⟩ (by k_asm) (by k_asm) ?_); intro a' x' t1' t2' t3' h' tk2' e1' z2' z3' l1 F' N'; (try k_lt l1); (try k_sweep); (try dsimp only)))
set_option maxRecDepth 100000 in
set_option maxHeartbeats 8000000 in
theorem told_spec {spot turn number : Nat} {t1 t2 t3 : Tok}
   (C : Cx w A 460 base env outer h₀ L) (F : Fr h₀ L s.heap m) (N : News h₀ L s.heap news)
   (hs : spot < 16) (ht : turn < 5) (hn : number < 16)
   (h : ∀ a i x1 x2 t1 t2 t3 h' tk', i = ((hueN spot : Nat) : Int) → x1 = lightN number → x2 = shareN number → t2 ≠ 0 → t3 ≠ 0 → (∀ p ∈ news, p.1 < a) → Fr h₀ L h' m → News h₀ L h' ((a, lisO [.int i t1, .float x1 t2, .float x2 t3] 0) :: news) → Q (.ref a) { s with heap := h', toks := tk' }) :
   wpAny (model PySem.Challenge.rw_rs0100_01.prog w) A (call (.ref 106) [.int (spot : Nat) t1, .int ((turn : Nat) - 2) t2, .int (number : Nat) t3]) Q E s := by
  obtain ⟨hh, hA, hf, hke, ⟨A₀, B⟩, X, ⟨p, loose, mean, mg, mb, T⟩, hd, hu⟩ := C
  refine wp_deep hh hA hd hu ?_
  revert X; k_fill; intro X
  refine wpAny_call ?_
  refine code_def (binds := [(Str.ofString "spot", .int spot t1), (Str.ofString "turn", .int (turn - 2) t2), (Str.ofString "number", .int number t3)]) B F X N T rfl hf hke (by k_is) (by k_is) (by show (460:Nat) < recursionLimit; decide) (BindsTo.of_eq rfl) (locs rfl) ?_ rfl rfl rfl (by decide)
  intro g' L' h' FG' F' N' B' X' T'
  dsimp only
  k_fold
  k_steps
  rename_i l1 _ kN _ _
  exact h _ _ _ _ _ _ _ _ _ rfl rfl rfl (by assumption) (by assumption) (of_allLt l1.2.2.2) (by assumption) (news_drop3 kN)
end
end Mine
end
/-! part B1 -/
section
open PySem PySem.W PyProof.Rows
set_option autoImplicit false
namespace Mine
noncomputable section
variable {w : World} {A : Around} {s : Shared} {base h₀ : Heap} {outer : List Env} {env : Env} {L : Addr} {m : Str → Option Value} {news : List (Addr × Obj)} {Q : Value → Shared → Prop} {E : Value → Shared → Prop}
theorem list_at {h : Heap} {a : Addr} {vs : List Value} {n : Nat} (N : News h₀ L h news) (hm : (a, lisO vs n) ∈ news) : h.IsList a vs.toArray := ⟨_, (N _ hm).1, rfl, n, rfl⟩
theorem item_at {prog : Program} {value slice : PySem.Expr} {a : Addr} {vs : List Value} {n : Nat} {k : Int} {u : Tok} {x : Value} (N : News h₀ L s.heap news) (hm : (a, lisO vs n) ∈ news)
    (h0 : 0 ≤ k) (hfit : k < 2 ^ 63) (hx : vs[k.toNat]? = some x) (h : Q x s)
    (hs : subscripted slice false (.ref a) (.int k u) = operate [.ref a, .int k u] (getItem (.ref a) (.int k u)) := by with_unfolding_all rfl) (hg : ∀ r, letTemporaryGo value (.ref a) r = pure () := by intro _; with_unfolding_all rfl) :
    wpAny (model prog w) A (subscriptTail value slice (.ref a) (.int k u)) Q E s := item_listL (list_at N hm) h0 hfit hx h hs hg
section
local macro_rules | `(tactic| walk_at "subscriptTail") => `(tactic| (refine item_at (by k_asm) (by assumption) (by decide) (by decide) rfl ?_))
set_option maxRecDepth 100000 in
set_option maxHeartbeats 4000000 in
theorem hue_spec {r : Addr} {i : Int} {t : Tok} {rest : List Value} {n : Nat}
   (C : Cx w A 480 base env outer h₀ L) (F : Fr h₀ L s.heap m) (N : News h₀ L s.heap news)
   (hm : (r, lisO (.int i t :: rest) n) ∈ news)
   (h : ∀ h' tk', Fr h₀ L h' m → News h₀ L h' news → Q (.int i t) { s with heap := h', toks := tk' }) :
   wpAny (model PySem.Challenge.rw_rs0100_01.prog w) A (call (.ref 113) [.ref r]) Q E s := by
  obtain ⟨hh, hA, hf, hke, ⟨A₀, B⟩, X, ⟨p, loose, mean, mg, mb, T⟩, hd, hu⟩ := C
  refine wp_deep hh hA hd hu ?_
  revert X; k_fill; intro X
  refine wpAny_call ?_
  refine code_def (binds := [(Str.ofString "side", .ref r)]) B F X N T rfl hf hke (by k_is) (by k_is) (by show (480:Nat) < recursionLimit; decide) (BindsTo.of_eq rfl) (locs rfl) ?_ rfl rfl rfl (by decide)
  intro g' L' h' FG' F' N' B' X' T'
  dsimp only
  k_fold
  k_steps
  exact h _ _ (by assumption) (by assumption)
end
/-- the sides' hues, item by item -/
inductive Sides (news : List (Addr × Obj)) : List Value → List Int → Prop where
  | nil : Sides news [] []
  | cons {r : Addr} {i : Int} {t : Tok} {rest : List Value} {n : Nat} {vs : List Value} {is : List Int} : (r, lisO (.int i t :: rest) n) ∈ news → Sides news vs is → Sides news (.ref r :: vs) (i :: is)
theorem Sides.length {vs : List Value} {is : List Int} (h : Sides news vs is) : vs.length = is.length := by
  induction h with
  | nil => rfl
  | cons _ _ ih => simp [ih]
theorem Sides.get {vs : List Value} {is : List Int} (h : Sides news vs is) : ∀ k : Nat, k < is.length → ∃ r t rest n, vs[k]? = some (.ref r) ∧ (r, lisO (.int (is[k]?.getD 0) t :: rest) n) ∈ news := by
  induction h with
  | nil => intro k hk; cases hk
  | cons hm _ ih =>
    intro k hk
    cases k with
    | zero => exact ⟨_, _, _, _, rfl, hm⟩
    | succ k => obtain ⟨r, t, rest, n, h1, h2⟩ := ih k (by simpa using hk); exact ⟨r, t, rest, n, by simpa using h1, by simpa using h2⟩
/-- where bisect_right must land -/
noncomputable def RightAt (is : List Int) (x : Int) (p : Nat) : Prop := p ≤ is.length ∧ (∀ k, k < p → is[k]?.getD 0 ≤ x) ∧ (∀ k, p ≤ k → k < is.length → x < is[k]?.getD 0)
noncomputable def LeftAt (is : List Int) (x : Int) (p : Nat) : Prop := p ≤ is.length ∧ (∀ k, k < p → is[k]?.getD 0 < x) ∧ (∀ k, p ≤ k → k < is.length → x ≤ is[k]?.getD 0)
noncomputable def Sorted (is : List Int) : Prop := ∀ i j : Nat, i ≤ j → j < is.length → is[i]?.getD 0 ≤ is[j]?.getD 0
theorem side_at {prog : Program} {value slice : PySem.Expr} {a : Addr} {vs : List Value} {is : List Int} {n : Nat} {k : Int} {u : Tok} (N : News h₀ L s.heap news) (hm : (a, lisO vs n) ∈ news) (hv : Sides news vs is)
    (h0 : 0 ≤ k) (h1 : k < is.length) (hl : is.length < 1000) (h : ∀ r t rest n, (r, lisO (.int (is[k.toNat]?.getD 0) t :: rest) n) ∈ news → Q (.ref r) s)
    (hs : subscripted slice false (.ref a) (.int k u) = operate [.ref a, .int k u] (getItem (.ref a) (.int k u)) := by with_unfolding_all rfl) (hg : ∀ r, letTemporaryGo value (.ref a) r = pure () := by intro _; with_unfolding_all rfl) :
    wpAny (model prog w) A (subscriptTail value slice (.ref a) (.int k u)) Q E s := by
  obtain ⟨r, t, rest, n', h2, h3⟩ := hv.get k.toNat (by (first | assumption | lia | omega))
  exact item_at N hm h0 (Int.lt_trans h1 (by omega)) h2 (h r t rest n' h3) hs hg
theorem mid_spec {prog : Program} {lo hi : Int} {t u : Tok} (h0 : 0 ≤ lo) (h1 : lo < hi) (hb : hi < 2 ^ 60) (h : ∀ mid, lo ≤ mid → mid < hi → Q (.int mid s.toks) { s with toks := s.toks + 1 }) :
    wpAny (model prog w) A (binaryOp .FloorDiv (.int (lo + hi) t) (.int 2 u)) Q E s := by
  refine floordiv_int (by decide) ?_ (Or.inl (PyProof.noPylong_small (by (first | assumption | lia | omega))))
  have e : (lo + hi).fdiv 2 = (lo + hi) / 2 := Int.fdiv_eq_ediv_of_nonneg _ (by decide)
  rw [e]
  exact h _ (by (first | assumption | lia | omega)) (by (first | assumption | lia | omega))
theorem len_at {prog : Program} {a : Addr} {vs : List Value} {is : List Int} {n : Nat} (N : News h₀ L s.heap news) (hm : (a, lisO vs n) ∈ news) (hv : Sides news vs is) (hl : is.length < 1000)
    (h : Q (.int (is.length : Nat) (s.toks + 1)) { s with toks := s.toks + 1 + 1 }) : wpAny (model prog w) A (call (.builtin "len") [.ref a]) Q E s := by
  have e : vs.toArray.size = is.length := by simp [hv.length]
  refine len_list (list_at N hm) (by rw [e]; (first | assumption | lia | omega)) (by rw [e]; exact h)
theorem right_hi {is : List Int} {x lo hi mid : Int} (hso : Sorted is) (p0 : 0 ≤ lo) (p2 : hi ≤ is.length) (q1 : lo ≤ mid) (q2 : mid < hi) (hx : x < is[mid.toNat]?.getD 0) : ∀ k : Nat, mid ≤ (k : Int) → k < is.length → x < is[k]?.getD 0 :=
  fun k h1 h2 => Int.lt_of_lt_of_le hx (hso _ _ (by (first | assumption | lia | omega)) h2)
theorem right_lo {is : List Int} {x lo hi mid : Int} (hso : Sorted is) (p0 : 0 ≤ lo) (p2 : hi ≤ is.length) (q1 : lo ≤ mid) (q2 : mid < hi) (hx : ¬ x < is[mid.toNat]?.getD 0) : ∀ k : Nat, (k : Int) < mid + 1 → is[k]?.getD 0 ≤ x :=
  fun k h1 => Int.le_trans (hso _ mid.toNat (by (first | assumption | lia | omega)) (by (first | assumption | lia | omega))) (by (first | assumption | lia | omega))
local macro_rules | `(tactic| walk_at "exec While Compare cons nil") => `(tactic| (k_here; refine Stop.out ?_))
local macro_rules | `(tactic| walk_at "KswEnd") => `(tactic| (refine Stop.out ?_))
local macro_rules | `(tactic| walk_at "call builtin:len") => `(tactic| (refine len_at (by k_asm) (by assumption) (by assumption) (by assumption) ?_; (try dsimp only)))
local macro_rules | `(tactic| walk_at "binaryOp FloorDiv int int") => `(tactic| (refine mid_spec (by assumption) (by assumption) (by (first | assumption | lia | omega)) ?_; intro mid' q1' q2'; (try dsimp only)))
local macro_rules | `(tactic| walk_at "subscriptTail") => `(tactic| (refine side_at (by k_asm) (by assumption) (by assumption) (by (first | assumption | lia | omega)) (by (first | assumption | lia | omega)) (by assumption) ?_; intro r' t' rest' n' hm'; (try dsimp only)))
local macro_rules | `(tactic| walk_at "call ref") => `(tactic| (k_here; (with_reducible show wpAny _ _ (call (Value.ref 113) _) _ _ _); (refine hue_spec ⟨rfl, rfl, rfl, rfl, ⟨_, by k_asm⟩, by k_asm, ⟨_, _, _, _, _, by k_asm⟩, Nat.le_of_ble_eq_true rfl, Nat.le_of_ble_eq_true rfl⟩ (by k_asm) (by k_asm) (by assumption) ?_); intro h' tk2' F' N'; (try k_sweep); (try dsimp only)))
set_option maxRecDepth 100000 in
set_option maxHeartbeats 4000000 in
theorem br_key_spec {a : Addr} {vs : List Value} {is : List Int} {n : Nat} {x : Int} {t1 t2 : Tok}
   (C : Cx w A 470 base env outer h₀ L) (F : Fr h₀ L s.heap m) (N : News h₀ L s.heap news)
   (hm : (a, lisO vs n) ∈ news) (hv : Sides news vs is) (hlen : is.length < 1000) (hso : Sorted is)
   (h : ∀ p tk h' tk', RightAt is x p → Fr h₀ L h' m → News h₀ L h' news → Q (.int (p : Nat) tk) { s with heap := h', toks := tk' }) :
   wpAny (model PySem.Challenge.rw_rs0100_01.prog w) A (call (.ref 53) [.ref a, .int x t1, .int 0 t2, .none] [(Str.ofString "key", .ref 113)]) Q E s := by
  obtain ⟨hh, hA, hf, hke, ⟨A₀, B⟩, X, ⟨p, loose, mean, mg, mb, T⟩, hd, hu⟩ := C
  refine wp_deep hh hA hd hu ?_
  revert X; k_fill; intro X
  refine wpAny_call ?_
  refine code_def (binds := [(Str.ofString "a", .ref a), (Str.ofString "x", .int x t1), (Str.ofString "lo", .int 0 t2), (Str.ofString "hi", .none), (Str.ofString "key", .ref 113)]) B F X N T rfl hf hke (by k_is) (by k_is) (by show (470:Nat) < recursionLimit; decide) (by first | exact BindsTo.of_eq rfl | exact binds_K (by k_in) rfl (by k_is) rfl rfl rfl) (locs rfl) ?_ rfl rfl rfl (by decide)
  intro g' L' h' FG' F' N' B' X' T'
  dsimp only
  k_fold
  k_steps
  refine ⟨?_⟩
  rename_i F2 N2
  refine ksw_while (σ := Int × Tok × Int × Tok) (fun _ => news) (fun c => [(Str.ofString "lo", .int c.1 c.2.1), (Str.ofString "hi", .int c.2.2.1 c.2.2.2)]) (fun _ => True) [Str.ofString "mid"]
    (fun c => 0 ≤ c.1 ∧ c.1 ≤ c.2.2.1 ∧ c.2.2.1 ≤ (is.length : Int) ∧ (∀ k : Nat, (k : Int) < c.1 → is[k]?.getD 0 ≤ x) ∧ (∀ k : Nat, c.2.2.1 ≤ (k : Int) → k < is.length → x < is[k]?.getD 0)) (fun c => (c.2.2.1 - c.1).toNat)
    (0, t2, (is.length : Int), _) F2 N2 trivial (by kst_all) ⟨by (first | assumption | lia | omega), by dsimp only; (first | assumption | lia | omega), by dsimp only; (first | assumption | lia | omega), fun k hk => absurd hk (by dsimp only; (first | assumption | lia | omega)), fun k h1 h2 => absurd h1 (by dsimp only; (first | assumption | lia | omega))⟩ ?_
  rintro ⟨lo, tlo, hi, thi⟩ u h1 tk1 _ ⟨p0, p1, p2, p3, p4⟩ F3 N3
  dsimp only [kstB] at p0 p1 p2 p3 p4 F3 N3 ⊢
  k_fold
  k_steps
  · refine ⟨ksw_end (lo, tlo, _, _) (by assumption) (by assumption) (fun _ h => h) trivial (by kst_all) (by ksw_same) ⟨p0, ?_, ?_, p3, right_hi hso p0 p2 (by assumption) (by assumption) (by assumption)⟩ ?_⟩ <;> (dsimp only; (first | assumption | lia | omega))
  · refine ⟨ksw_end (_, _, hi, thi) (by assumption) (by assumption) (fun _ h => h) trivial (by kst_all) (by ksw_same) ⟨?_, ?_, p2, right_lo hso p0 p2 (by assumption) (by assumption) (by assumption), p4⟩ ?_⟩ <;> (dsimp only; (first | assumption | lia | omega))
  · have e : lo = ((lo.toNat : Nat) : Int) := by (first | assumption | lia | omega)
    rw [e]
    exact h lo.toNat _ _ _ ⟨by (first | assumption | lia | omega), fun k hk => p3 k (by (first | assumption | lia | omega)), fun k h1 h2 => p4 k (by (first | assumption | lia | omega)) h2⟩ (by assumption) (by assumption)
end
end Mine
end
/-! part B2 -/
section
open PySem PySem.W PyProof.Rows
set_option autoImplicit false
namespace Mine
noncomputable section
variable {w : World} {A : Around} {s : Shared} {base h₀ : Heap} {outer : List Env} {env : Env} {L : Addr} {m : Str → Option Value} {news : List (Addr × Obj)} {Q : Value → Shared → Prop} {E : Value → Shared → Prop}
theorem left_lo {is : List Int} {x lo hi mid : Int} (hso : Sorted is) (p0 : 0 ≤ lo) (p2 : hi ≤ is.length) (q1 : lo ≤ mid) (q2 : mid < hi) (hx : is[mid.toNat]?.getD 0 < x) : ∀ k : Nat, (k : Int) < mid + 1 → is[k]?.getD 0 < x :=
  fun k h1 => Int.lt_of_le_of_lt (hso _ mid.toNat (by (first | assumption | lia | omega)) (by (first | assumption | lia | omega))) hx
theorem left_hi {is : List Int} {x lo hi mid : Int} (hso : Sorted is) (p0 : 0 ≤ lo) (p2 : hi ≤ is.length) (q1 : lo ≤ mid) (q2 : mid < hi) (hx : ¬ is[mid.toNat]?.getD 0 < x) : ∀ k : Nat, mid ≤ (k : Int) → k < is.length → x ≤ is[k]?.getD 0 :=
  fun k h1 h2 => Int.le_trans (by (first | assumption | lia | omega)) (hso mid.toNat k (by (first | assumption | lia | omega)) h2)
local macro_rules | `(tactic| walk_at "exec While Compare cons nil") => `(tactic| (k_here; refine Stop.out ?_))
local macro_rules | `(tactic| walk_at "KswEnd") => `(tactic| (refine Stop.out ?_))
local macro_rules | `(tactic| walk_at "call builtin:len") => `(tactic| (refine len_at (by k_asm) (by assumption) (by assumption) (by assumption) ?_; (try dsimp only)))
local macro_rules | `(tactic| walk_at "binaryOp FloorDiv int int") => `(tactic| (refine mid_spec (by assumption) (by assumption) (by (first | assumption | lia | omega)) ?_; intro mid' q1' q2'; (try dsimp only)))
local macro_rules | `(tactic| walk_at "subscriptTail") => `(tactic| (refine side_at (by k_asm) (by assumption) (by assumption) (by (first | assumption | lia | omega)) (by (first | assumption | lia | omega)) (by assumption) ?_; intro r' t' rest' n' hm'; (try dsimp only)))
local macro_rules | `(tactic| walk_at "call ref") => `(tactic| (k_here; (with_reducible show wpAny _ _ (call (Value.ref 113) _) _ _ _); (refine hue_spec ⟨rfl, rfl, rfl, rfl, ⟨_, by k_asm⟩, by k_asm, ⟨_, _, _, _, _, by k_asm⟩, Nat.le_of_ble_eq_true rfl, Nat.le_of_ble_eq_true rfl⟩ (by k_asm) (by k_asm) (by assumption) ?_); intro h' tk2' F' N'; (try k_sweep); (try dsimp only)))
set_option maxRecDepth 100000 in
set_option maxHeartbeats 4000000 in
theorem bl_key_spec {a : Addr} {vs : List Value} {is : List Int} {n : Nat} {x : Int} {t1 t2 : Tok}
   (C : Cx w A 470 base env outer h₀ L) (F : Fr h₀ L s.heap m) (N : News h₀ L s.heap news)
   (hm : (a, lisO vs n) ∈ news) (hv : Sides news vs is) (hlen : is.length < 1000) (hso : Sorted is)
   (h : ∀ p tk h' tk', LeftAt is x p → Fr h₀ L h' m → News h₀ L h' news → Q (.int (p : Nat) tk) { s with heap := h', toks := tk' }) :
   wpAny (model PySem.Challenge.rw_rs0100_01.prog w) A (call (.ref 71) [.ref a, .int x t1, .int 0 t2, .none] [(Str.ofString "key", .ref 113)]) Q E s := by
  obtain ⟨hh, hA, hf, hke, ⟨A₀, B⟩, X, ⟨p, loose, mean, mg, mb, T⟩, hd, hu⟩ := C
  refine wp_deep hh hA hd hu ?_
  revert X; k_fill; intro X
  refine wpAny_call ?_
  refine code_def (binds := [(Str.ofString "a", .ref a), (Str.ofString "x", .int x t1), (Str.ofString "lo", .int 0 t2), (Str.ofString "hi", .none), (Str.ofString "key", .ref 113)]) B F X N T rfl hf hke (by k_is) (by k_is) (by show (470:Nat) < recursionLimit; decide) (by first | exact BindsTo.of_eq rfl | exact binds_K (by k_in) rfl (by k_is) rfl rfl rfl) (locs rfl) ?_ rfl rfl rfl (by decide)
  intro g' L' h' FG' F' N' B' X' T'
  dsimp only
  k_fold
  k_steps
  refine ⟨?_⟩
  rename_i F2 N2
  refine ksw_while (σ := Int × Tok × Int × Tok) (fun _ => news) (fun c => [(Str.ofString "lo", .int c.1 c.2.1), (Str.ofString "hi", .int c.2.2.1 c.2.2.2)]) (fun _ => True) [Str.ofString "mid"]
    (fun c => 0 ≤ c.1 ∧ c.1 ≤ c.2.2.1 ∧ c.2.2.1 ≤ (is.length : Int) ∧ (∀ k : Nat, (k : Int) < c.1 → is[k]?.getD 0 < x) ∧ (∀ k : Nat, c.2.2.1 ≤ (k : Int) → k < is.length → x ≤ is[k]?.getD 0)) (fun c => (c.2.2.1 - c.1).toNat)
    (0, t2, (is.length : Int), _) F2 N2 trivial (by kst_all) ⟨by (first | assumption | lia | omega), by dsimp only; (first | assumption | lia | omega), by dsimp only; (first | assumption | lia | omega), fun k hk => absurd hk (by dsimp only; (first | assumption | lia | omega)), fun k h1 h2 => absurd h1 (by dsimp only; (first | assumption | lia | omega))⟩ ?_
  rintro ⟨lo, tlo, hi, thi⟩ u h1 tk1 _ ⟨p0, p1, p2, p3, p4⟩ F3 N3
  dsimp only [kstB] at p0 p1 p2 p3 p4 F3 N3 ⊢
  k_fold
  k_steps
  · refine ⟨ksw_end (_, _, hi, thi) (by assumption) (by assumption) (fun _ h => h) trivial (by kst_all) (by ksw_same) ⟨?_, ?_, p2, left_lo hso p0 p2 (by assumption) (by assumption) (by assumption), p4⟩ ?_⟩ <;> (dsimp only; (first | assumption | lia | omega))
  · refine ⟨ksw_end (lo, tlo, _, _) (by assumption) (by assumption) (fun _ h => h) trivial (by kst_all) (by ksw_same) ⟨p0, ?_, ?_, p3, left_hi hso p0 p2 (by assumption) (by assumption) (by assumption)⟩ ?_⟩ <;> (dsimp only; (first | assumption | lia | omega))
  · have e : lo = ((lo.toNat : Nat) : Int) := by (first | assumption | lia | omega)
    rw [e]
    exact h lo.toNat _ _ _ ⟨by (first | assumption | lia | omega), fun k hk => p3 k (by (first | assumption | lia | omega)), fun k h1 h2 => p4 k (by (first | assumption | lia | omega)) h2⟩ (by assumption) (by assumption)
end
end Mine
end
/-! part B3 -/
section
open PySem PySem.W PyProof.Rows
set_option autoImplicit false
namespace Mine
noncomputable section
variable {w : World} {A : Around} {s : Shared} {base h₀ : Heap} {outer : List Env} {env : Env} {L : Addr} {m : Str → Option Value} {news : List (Addr × Obj)} {Q : Value → Shared → Prop} {E : Value → Shared → Prop}
theorem int_at {prog : Program} {value slice : PySem.Expr} {a : Addr} {vs : List Value} {is : List Int} {n : Nat} {k : Int} {u : Tok} (N : News h₀ L s.heap news) (hm : (a, lisO vs n) ∈ news) (hv : IntsAre vs is)
    (h0 : 0 ≤ k) (h1 : k < is.length) (hl : is.length < 1000) (h : ∀ t, Q (.int (is[k.toNat]?.getD 0) t) s)
    (hs : subscripted slice false (.ref a) (.int k u) = operate [.ref a, .int k u] (getItem (.ref a) (.int k u)) := by with_unfolding_all rfl) (hg : ∀ r, letTemporaryGo value (.ref a) r = pure () := by intro _; with_unfolding_all rfl) :
    wpAny (model prog w) A (subscriptTail value slice (.ref a) (.int k u)) Q E s := by
  obtain ⟨t, h2⟩ := hv.get k.toNat (is[k.toNat]?.getD 0) (by simp [show k.toNat < is.length by (first | assumption | lia | omega)])
  exact item_at N hm h0 (Int.lt_trans h1 (by omega)) h2 (h t) hs hg
theorem len_ints {prog : Program} {a : Addr} {vs : List Value} {is : List Int} {n : Nat} (N : News h₀ L s.heap news) (hm : (a, lisO vs n) ∈ news) (hv : IntsAre vs is) (hl : is.length < 1000)
    (h : Q (.int (is.length : Nat) (s.toks + 1)) { s with toks := s.toks + 1 + 1 }) : wpAny (model prog w) A (call (.builtin "len") [.ref a]) Q E s := by
  have e : vs.toArray.size = is.length := by simp [hv.length]
  refine len_list (list_at N hm) (by rw [e]; (first | assumption | lia | omega)) (by rw [e]; exact h)
local macro_rules | `(tactic| walk_at "exec While Compare cons nil") => `(tactic| (k_here; refine Stop.out ?_))
local macro_rules | `(tactic| walk_at "KswEnd") => `(tactic| (refine Stop.out ?_))
local macro_rules | `(tactic| walk_at "call builtin:len") => `(tactic| (refine len_ints (by k_asm) (by assumption) (by assumption) (by assumption) ?_; (try dsimp only)))
local macro_rules | `(tactic| walk_at "binaryOp FloorDiv int int") => `(tactic| (refine mid_spec (by assumption) (by assumption) (by (first | assumption | lia | omega)) ?_; intro mid' q1' q2'; (try dsimp only)))
local macro_rules | `(tactic| walk_at "subscriptTail") => `(tactic| (refine int_at (by k_asm) (by assumption) (by assumption) (by (first | assumption | lia | omega)) (by (first | assumption | lia | omega)) (by assumption) ?_; intro t'; (try dsimp only)))
set_option maxRecDepth 100000 in
set_option maxHeartbeats 4000000 in
theorem br_plain_spec {a : Addr} {vs : List Value} {is : List Int} {n : Nat} {x : Int} {t1 : Tok}
   (C : Cx w A 470 base env outer h₀ L) (F : Fr h₀ L s.heap m) (N : News h₀ L s.heap news)
   (hm : (a, lisO vs n) ∈ news) (hv : IntsAre vs is) (hlen : is.length < 1000) (hso : Sorted is)
   (h : ∀ p tk h' tk', RightAt is x p → Fr h₀ L h' m → News h₀ L h' news → Q (.int (p : Nat) tk) { s with heap := h', toks := tk' }) :
   wpAny (model PySem.Challenge.rw_rs0100_01.prog w) A (call (.ref 53) [.ref a, .int x t1]) Q E s := by
  obtain ⟨hh, hA, hf, hke, ⟨A₀, B⟩, X, ⟨p, loose, mean, mg, mb, T⟩, hd, hu⟩ := C
  refine wp_deep hh hA hd hu ?_
  revert X; k_fill; intro X
  refine wpAny_call ?_
  refine code_def (binds := [(Str.ofString "a", .ref a), (Str.ofString "x", .int x t1), (Str.ofString "lo", .int 0 229), (Str.ofString "hi", .none), (Str.ofString "key", .none)]) B F X N T rfl hf hke (by k_is) (by k_is) (by show (470:Nat) < recursionLimit; decide) (kp_binds (by k_in) (fun _ => rfl)) (locs rfl) ?_ rfl rfl rfl (by decide)
  intro g' L' h' FG' F' N' B' X' T'
  dsimp only
  k_fold
  k_steps
  refine ⟨?_⟩
  rename_i F2 N2
  refine ksw_while (σ := Int × Tok × Int × Tok) (fun _ => news) (fun c => [(Str.ofString "lo", .int c.1 c.2.1), (Str.ofString "hi", .int c.2.2.1 c.2.2.2)]) (fun _ => True) [Str.ofString "mid"]
    (fun c => 0 ≤ c.1 ∧ c.1 ≤ c.2.2.1 ∧ c.2.2.1 ≤ (is.length : Int) ∧ (∀ k : Nat, (k : Int) < c.1 → is[k]?.getD 0 ≤ x) ∧ (∀ k : Nat, c.2.2.1 ≤ (k : Int) → k < is.length → x < is[k]?.getD 0)) (fun c => (c.2.2.1 - c.1).toNat)
    (0, _, (is.length : Int), _) F2 N2 trivial (by kst_all) ⟨by (first | assumption | lia | omega), by dsimp only; (first | assumption | lia | omega), by dsimp only; (first | assumption | lia | omega), fun k hk => absurd hk (by dsimp only; (first | assumption | lia | omega)), fun k h1 h2 => absurd h1 (by dsimp only; (first | assumption | lia | omega))⟩ ?_
  rintro ⟨lo, tlo, hi, thi⟩ u h1 tk1 _ ⟨p0, p1, p2, p3, p4⟩ F3 N3
  dsimp only [kstB] at p0 p1 p2 p3 p4 F3 N3 ⊢
  k_fold
  k_steps
  · refine ⟨ksw_end (lo, tlo, _, _) (by assumption) (by assumption) (fun _ h => h) trivial (by kst_all) (by ksw_same) ⟨p0, ?_, ?_, p3, right_hi hso p0 p2 (by assumption) (by assumption) (by assumption)⟩ ?_⟩ <;> (dsimp only; (first | assumption | lia | omega))
  · refine ⟨ksw_end (_, _, hi, thi) (by assumption) (by assumption) (fun _ h => h) trivial (by kst_all) (by ksw_same) ⟨?_, ?_, p2, right_lo hso p0 p2 (by assumption) (by assumption) (by assumption), p4⟩ ?_⟩ <;> (dsimp only; (first | assumption | lia | omega))
  · have e : lo = ((lo.toNat : Nat) : Int) := by (first | assumption | lia | omega)
    rw [e]
    exact h lo.toNat _ _ _ ⟨by (first | assumption | lia | omega), fun k hk => p3 k (by (first | assumption | lia | omega)), fun k h1 h2 => p4 k (by (first | assumption | lia | omega)) h2⟩ (by assumption) (by assumption)
set_option maxRecDepth 100000 in
set_option maxHeartbeats 4000000 in
theorem bl_plain_spec {a : Addr} {vs : List Value} {is : List Int} {n : Nat} {x : Int} {t1 : Tok}
   (C : Cx w A 470 base env outer h₀ L) (F : Fr h₀ L s.heap m) (N : News h₀ L s.heap news)
   (hm : (a, lisO vs n) ∈ news) (hv : IntsAre vs is) (hlen : is.length < 1000) (hso : Sorted is)
   (h : ∀ p tk h' tk', LeftAt is x p → Fr h₀ L h' m → News h₀ L h' news → Q (.int (p : Nat) tk) { s with heap := h', toks := tk' }) :
   wpAny (model PySem.Challenge.rw_rs0100_01.prog w) A (call (.ref 71) [.ref a, .int x t1]) Q E s := by
  obtain ⟨hh, hA, hf, hke, ⟨A₀, B⟩, X, ⟨p, loose, mean, mg, mb, T⟩, hd, hu⟩ := C
  refine wp_deep hh hA hd hu ?_
  revert X; k_fill; intro X
  refine wpAny_call ?_
  refine code_def (binds := [(Str.ofString "a", .ref a), (Str.ofString "x", .int x t1), (Str.ofString "lo", .int 0 256), (Str.ofString "hi", .none), (Str.ofString "key", .none)]) B F X N T rfl hf hke (by k_is) (by k_is) (by show (470:Nat) < recursionLimit; decide) (kp_binds (by k_in) (fun _ => rfl)) (locs rfl) ?_ rfl rfl rfl (by decide)
  intro g' L' h' FG' F' N' B' X' T'
  dsimp only
  k_fold
  k_steps
  refine ⟨?_⟩
  rename_i F2 N2
  refine ksw_while (σ := Int × Tok × Int × Tok) (fun _ => news) (fun c => [(Str.ofString "lo", .int c.1 c.2.1), (Str.ofString "hi", .int c.2.2.1 c.2.2.2)]) (fun _ => True) [Str.ofString "mid"]
    (fun c => 0 ≤ c.1 ∧ c.1 ≤ c.2.2.1 ∧ c.2.2.1 ≤ (is.length : Int) ∧ (∀ k : Nat, (k : Int) < c.1 → is[k]?.getD 0 < x) ∧ (∀ k : Nat, c.2.2.1 ≤ (k : Int) → k < is.length → x ≤ is[k]?.getD 0)) (fun c => (c.2.2.1 - c.1).toNat)
    (0, _, (is.length : Int), _) F2 N2 trivial (by kst_all) ⟨by (first | assumption | lia | omega), by dsimp only; (first | assumption | lia | omega), by dsimp only; (first | assumption | lia | omega), fun k hk => absurd hk (by dsimp only; (first | assumption | lia | omega)), fun k h1 h2 => absurd h1 (by dsimp only; (first | assumption | lia | omega))⟩ ?_
  rintro ⟨lo, tlo, hi, thi⟩ u h1 tk1 _ ⟨p0, p1, p2, p3, p4⟩ F3 N3
  dsimp only [kstB] at p0 p1 p2 p3 p4 F3 N3 ⊢
  k_fold
  k_steps
  · refine ⟨ksw_end (_, _, hi, thi) (by assumption) (by assumption) (fun _ h => h) trivial (by kst_all) (by ksw_same) ⟨?_, ?_, p2, left_lo hso p0 p2 (by assumption) (by assumption) (by assumption), p4⟩ ?_⟩ <;> (dsimp only; (first | assumption | lia | omega))
  · refine ⟨ksw_end (lo, tlo, _, _) (by assumption) (by assumption) (fun _ h => h) trivial (by kst_all) (by ksw_same) ⟨p0, ?_, ?_, p3, left_hi hso p0 p2 (by assumption) (by assumption) (by assumption)⟩ ?_⟩ <;> (dsimp only; (first | assumption | lia | omega))
  · have e : lo = ((lo.toNat : Nat) : Int) := by (first | assumption | lia | omega)
    rw [e]
    exact h lo.toNat _ _ _ ⟨by (first | assumption | lia | omega), fun k hk => p3 k (by (first | assumption | lia | omega)), fun k h1 h2 => p4 k (by (first | assumption | lia | omega)) h2⟩ (by assumption) (by assumption)
end
end Mine
end
/-! part I1 -/
section
open PySem PySem.W PyProof.Rows
set_option autoImplicit false
namespace Mine
noncomputable section
variable {w : World} {A : Around} {s : Shared} {base h₀ : Heap} {outer : List Env} {env : Env} {L : Addr} {m : Str → Option Value} {news rest : List (Addr × Obj)} {Q : Value → Shared → Prop} {E : Value → Shared → Prop}
theorem Sides.mono {n1 n2 : List (Addr × Obj)} {vs : List Value} {is : List Int} (h : Sides n1 vs is) (hs : ∀ p ∈ n1, p ∈ n2) : Sides n2 vs is := by
  induction h with
  | nil => exact .nil
  | cons hm _ ih => exact .cons (hs _ hm) ih
theorem insert_at {prog : Program} {a : Addr} {vs : List Value} {n : Nat} {p : Nat} {u : Tok} {y : Value} (F : Fr h₀ L s.heap m) (N : News h₀ L s.heap ((a, lisO vs n) :: rest)) (hne : ∀ q ∈ rest, q.1 ≠ a) (hp : p ≤ vs.length) (hl : vs.length < 1000)
    (h : ∀ h', Fr h₀ L h' m → News h₀ L h' ((a, lisO (vs.take p ++ y :: vs.drop p) (n + 1)) :: rest) → Q .none { s with heap := h' }) :
    wpAny (model prog w) A (call (.builtin "list.insert") [.ref a, .int (p : Nat) u, y]) Q E s := by
  have e : kl_ins (vs.toArray).toList (p : Nat) y = vs.take p ++ y :: vs.drop p := by
    unfold kl_ins
    have : ¬ ((p : Nat) : Int) < 0 := by omega
    simp only [if_neg this, Int.toNat_natCast, Nat.min_eq_left hp]
  refine kl_insert F N ?_ e (Upd.head hne) (by show vs.length ≤ sizeLine; rw [show sizeLine = 16777216 from rfl]; omega) h
  · have h1 : ((p : Nat) : Int) < 1000 := by omega
    unfold Builtin.List.listFitsIndex
    simp
    omega
theorem rightAt_le {rest' : List (Addr × Obj)} {vs : List Value} {is : List Int} {x : Int} {p : Nat} (hv : Sides rest' vs is) (h : RightAt is x p) : p ≤ vs.length := by rw [hv.length]; exact And.left h
theorem leftAt_le {rest' : List (Addr × Obj)} {vs : List Value} {is : List Int} {x : Int} {p : Nat} (hv : Sides rest' vs is) (h : LeftAt is x p) : p ≤ vs.length := by rw [hv.length]; exact And.left h
local macro_rules | `(tactic| walk_at "call builtin:list.insert") => `(tactic| (k_dflt (refine insert_at (by k_asm) (by k_asm) (by assumption) (by assumption) (by assumption) ?_); (intro h' F' N'); (try dsimp only)))
local macro_rules | `(tactic| walk_at "call ref") => `(tactic| (k_here; (with_reducible show wpAny _ _ (call (Value.ref 113) _) _ _ _); (refine hue_spec ⟨rfl, rfl, rfl, rfl, ⟨_, by k_asm⟩, by k_asm, ⟨_, _, _, _, _, by k_asm⟩, Nat.le_of_ble_eq_true rfl, Nat.le_of_ble_eq_true rfl⟩ (by k_asm) (by k_asm) (by assumption) ?_); intro h' tk2' F' N'; (try k_sweep); (try dsimp only)))
local macro_rules | `(tactic| walk_at "call ref") => `(tactic| (k_here; (with_reducible show wpAny _ _ (call (Value.ref 53) _ _) _ _ _); k_dflt (refine br_key_spec ⟨rfl, rfl, rfl, rfl, ⟨_, by k_asm⟩, by k_asm, ⟨_, _, _, _, _, by k_asm⟩, Nat.le_of_ble_eq_true rfl, Nat.le_of_ble_eq_true rfl⟩ (by k_asm) (by k_asm) (by assumption) (by assumption) (by assumption) (by assumption) ?_); intro p' tk' h' tk2' hp' F' N'; (have hp2' := rightAt_le (by assumption) hp'); (try k_sweep); (try dsimp only)))
set_option maxRecDepth 100000 in
set_option maxHeartbeats 2000000 in
theorem ir_spec {a r : Addr} {vs its : List Value} {is : List Int} {n k : Nat} {i : Int} {t : Tok}
   (C : Cx w A 460 base env outer h₀ L) (F : Fr h₀ L s.heap m) (N : News h₀ L s.heap ((a, lisO vs n) :: rest)) (hne : ∀ q ∈ rest, q.1 ≠ a)
   (hm : (r, lisO (.int i t :: its) k) ∈ rest) (hv : Sides rest vs is) (hlen : is.length < 1000) (hso : Sorted is)
   (h : ∀ p h' tk', RightAt is i p → Fr h₀ L h' m → News h₀ L h' ((a, lisO (vs.take p ++ .ref r :: vs.drop p) (n + 1)) :: rest) → Q .none { s with heap := h', toks := tk' }) :
   wpAny (model PySem.Challenge.rw_rs0100_01.prog w) A (call (.ref 44) [.ref a, .ref r] [(Str.ofString "key", .ref 113)]) Q E s := by
  obtain ⟨hh, hA, hf, hke, ⟨A₀, B⟩, X, ⟨p, loose, mean, mg, mb, T⟩, hd, hu⟩ := C
  refine wp_deep hh hA hd hu ?_
  revert X; k_fill; intro X
  refine wpAny_call ?_
  have hlv : vs.length < 1000 := by rw [hv.length]; exact hlen
  rw [← hv.length] at hlen
  have hv2 : Sides ((a, lisO vs n) :: rest) vs is := hv.mono fun q hq => .tail _ hq
  have hma : (a, lisO vs n) ∈ (a, lisO vs n) :: rest := .head _
  have hmr : (r, lisO (.int i t :: its) k) ∈ (a, lisO vs n) :: rest := .tail _ hm
  have hlen2 : is.length < 1000 := by rw [← hv.length]; exact hlen
  refine code_def (binds := _) B F X N T rfl hf hke (by k_is) (by k_is) (by show (460:Nat) < recursionLimit; decide) (kp_binds (by k_in) (fun _ => rfl)) (locs rfl) ?_ rfl rfl rfl (by decide)
  intro g' L' h' FG' F' N' B' X' T'
  dsimp only
  k_fold
  k_steps
  exact h _ _ _ (by assumption) (by assumption) (by assumption)
local macro_rules | `(tactic| walk_at "call ref") => `(tactic| (k_here; (with_reducible show wpAny _ _ (call (Value.ref 71) _ _) _ _ _); k_dflt (refine bl_key_spec ⟨rfl, rfl, rfl, rfl, ⟨_, by k_asm⟩, by k_asm, ⟨_, _, _, _, _, by k_asm⟩, Nat.le_of_ble_eq_true rfl, Nat.le_of_ble_eq_true rfl⟩ (by k_asm) (by k_asm) (by assumption) (by assumption) (by assumption) (by assumption) ?_); intro p' tk' h' tk2' hp' F' N'; (have hp2' := leftAt_le (by assumption) hp'); (try k_sweep); (try dsimp only)))
set_option maxRecDepth 100000 in
set_option maxHeartbeats 2000000 in
theorem il_spec {a r : Addr} {vs its : List Value} {is : List Int} {n k : Nat} {i : Int} {t : Tok}
   (C : Cx w A 460 base env outer h₀ L) (F : Fr h₀ L s.heap m) (N : News h₀ L s.heap ((a, lisO vs n) :: rest)) (hne : ∀ q ∈ rest, q.1 ≠ a)
   (hm : (r, lisO (.int i t :: its) k) ∈ rest) (hv : Sides rest vs is) (hlen : is.length < 1000) (hso : Sorted is)
   (h : ∀ p h' tk', LeftAt is i p → Fr h₀ L h' m → News h₀ L h' ((a, lisO (vs.take p ++ .ref r :: vs.drop p) (n + 1)) :: rest) → Q .none { s with heap := h', toks := tk' }) :
   wpAny (model PySem.Challenge.rw_rs0100_01.prog w) A (call (.ref 62) [.ref a, .ref r] [(Str.ofString "key", .ref 113)]) Q E s := by
  obtain ⟨hh, hA, hf, hke, ⟨A₀, B⟩, X, ⟨p, loose, mean, mg, mb, T⟩, hd, hu⟩ := C
  refine wp_deep hh hA hd hu ?_
  revert X; k_fill; intro X
  refine wpAny_call ?_
  have hlv : vs.length < 1000 := by rw [hv.length]; exact hlen
  rw [← hv.length] at hlen
  have hv2 : Sides ((a, lisO vs n) :: rest) vs is := hv.mono fun q hq => .tail _ hq
  have hma : (a, lisO vs n) ∈ (a, lisO vs n) :: rest := .head _
  have hmr : (r, lisO (.int i t :: its) k) ∈ (a, lisO vs n) :: rest := .tail _ hm
  have hlen2 : is.length < 1000 := by rw [← hv.length]; exact hlen
  refine code_def (binds := _) B F X N T rfl hf hke (by k_is) (by k_is) (by show (460:Nat) < recursionLimit; decide) (kp_binds (by k_in) (fun _ => rfl)) (locs rfl) ?_ rfl rfl rfl (by decide)
  intro g' L' h' FG' F' N' B' X' T'
  dsimp only
  k_fold
  k_steps
  exact h _ _ _ (by assumption) (by assumption) (by assumption)
end
end Mine
end
/-! part G1 -/
section
open PySem PySem.W PyProof.Rows
set_option autoImplicit false
namespace Mine
noncomputable section
variable {prog : Program} {w : World} {A : Around} {s : Shared} {base h₀ : Heap} {outer : List Env} {env : Env} {L : Addr} {m : Str → Option Value} {news rest : List (Addr × Obj)} {E : Value → Shared → Prop}
noncomputable abbrev Kept (h h' : Heap) : Prop := ∀ b o, h.get? b = some o → h'.get? b = some o
/-- what a loop or a comprehension runs over -/
inductive Src (h : Heap) : Value → Nat → (Nat → Value → Prop) → Prop where
  | list {l : Addr} {vs : List Value} : h.IsList l vs.toArray → Src h (.ref l) vs.length (fun i v => vs[i]? = some v)
  | tuple {l : Addr} {vs : List Value} : h.IsTuple l vs.toArray → Src h (.ref l) vs.length (fun i v => vs[i]? = some v)
  | range {r : Addr} {n : Nat} {t u v : Tok} : IsRange h r 0 (n : Int) 1 t u v → n < 1000 → Src h (.ref r) n (fun i v => i < n ∧ ∃ t, v = .int (i : Nat) t)
theorem Src.iter {xv : Value} {n : Nat} {P : Nat → Value → Prop} {Q : Value → Shared → Prop} (S : Src s.heap xv n P) (hh : A.handled = none)
    (h : ∀ (o : Obj) (fp : List Addr) (St : Nat → Heap → Prop), o.isFreed = false → Walks prog w A s.heap.objs.size fp [s.heap.objs.size] n P St → St 0 (s.heap.push o) → (∀ b ∈ fp, b ≠ s.heap.objs.size → b < s.heap.objs.size) →
      (∀ b ∈ fp, b = s.heap.objs.size ∨ xv = .ref b) → (∀ i h, St i h → ∃ o, h.get? s.heap.objs.size = some o) → Q (.ref s.heap.objs.size) { s with heap := s.heap.push o }) :
    wpAny (model prog w) A (pyIter xv) Q E s := by
  cases S with
  | list hl =>
    rename_i l vs
    obtain ⟨ol, hol, _⟩ := id hl
    have hlt : l < s.heap.objs.size := Heap.lt_size hol
    refine wpAny_pyIter_list hl ?_
    have W := Walks.list (prog := prog) (w := w) hh s.heap.objs.size l (Nat.ne_of_lt hlt) vs.toArray
    have e : vs.toArray.size = vs.length := by simp
    have eP : (fun i v => vs.toArray[i]? = some v) = fun (i : Nat) (v : Value) => vs[i]? = some v := by funext i v; simp
    rw [e, eP] at W
    refine h _ _ _ rfl W ⟨⟨_, Heap.get?_push_size _ rfl, rfl, rfl⟩, hl.at fun o e => Heap.get?_push_of_some _ e⟩ ?_ ?_ (fun i h st => let ⟨o, ho, _⟩ := st.1; ⟨o, ho⟩)
    · intro b hb hne
      simp only [List.mem_cons, List.not_mem_nil, or_false] at hb
      rcases hb with rfl | rfl
      · exact absurd rfl hne
      · exact hlt
    · intro b hb
      simp only [List.mem_cons, List.not_mem_nil, or_false] at hb
      rcases hb with rfl | rfl
      · exact .inl rfl
      · exact .inr rfl
  | tuple hl =>
    rename_i l vs
    obtain ⟨ol, hol, _⟩ := id hl
    have hlt : l < s.heap.objs.size := Heap.lt_size hol
    refine wpAny_pyIter_tuple hl ?_
    have W := Walks.tuple (prog := prog) (w := w) hh s.heap.objs.size l (Nat.ne_of_lt hlt) vs.toArray
    have e : vs.toArray.size = vs.length := by simp
    have eP : (fun i v => vs.toArray[i]? = some v) = fun (i : Nat) (v : Value) => vs[i]? = some v := by funext i v; simp
    rw [e, eP] at W
    refine h _ _ _ rfl W ⟨⟨_, Heap.get?_push_size _ rfl, rfl, rfl⟩, hl.push _⟩ ?_ ?_ (fun i h st => let ⟨o, ho, _⟩ := st.1; ⟨o, ho⟩)
    · intro b hb hne
      simp only [List.mem_cons, List.not_mem_nil, or_false] at hb
      rcases hb with rfl | rfl
      · exact absurd rfl hne
      · exact hlt
    · intro b hb
      simp only [List.mem_cons, List.not_mem_nil, or_false] at hb
      rcases hb with rfl | rfl
      · exact .inl rfl
      · exact .inr rfl
  | range hr hn =>
    rename_i r t u v
    refine wpAny_pyIter_range hr (small_one (by decide) (by decide) (by (first | lia | omega)) (by (first | lia | omega))) ?_
    have hs : Builtin.Range.rangeSize 0 (n : Int) 1 = (n : Int) := by rw [rangeSize_nat]; (first | lia | omega)
    have W : Walks prog w A s.heap.objs.size [s.heap.objs.size] [s.heap.objs.size] n (fun i v => i < n ∧ ∃ t, v = .int (i : Nat) t)
      (fun i h => IsRangeIter h s.heap.objs.size (0 + (i : Nat) * 1) ((n : Int) - (i : Nat)) 1) := by
      have W := (Walks.range (prog := prog) (w := w) hh s.heap.objs.size 0 1 n).bound
      have eP : (fun (i : Nat) (v : Value) => i < n ∧ ∃ t, v = Value.int (0 + (i : Int) * 1) t) = fun (i : Nat) (v : Value) => i < n ∧ ∃ t, v = Value.int (i : Nat) t := by funext i v; simp
      rw [eP] at W
      exact W
    refine h _ _ _ rfl W (by show IsRangeIter _ _ _ _ _; rw [hs]; simpa using Heap.get?_push_size _ rfl) ?_ ?_ (fun i h st => ⟨_, st⟩)
    · intro b hb hne; exact absurd (List.mem_singleton.mp hb) hne
    · intro b hb; exact .inl (List.mem_singleton.mp hb)
theorem kept_push (h : Heap) (o : Obj) : Kept h (h.push o) := fun _ _ e => Heap.get?_push_of_some _ e
/-- tests and element of a comprehension, quiet -/
structure Calm (prog : Program) (w : World) (A : Around) (env : Env) (scope : Scope) (cl : List (Str × Addr)) (x : Str) (ifs : List PySem.Expr) (elt : PySem.Expr) (P : Nat → Value → Prop) (p : Value → Bool) (F : Value → Value → Prop) (h₁ : Heap) : Prop where
  tests : ∀ C i v (s₃ : Shared) m₃ E', P i v → s₃.heap.Ns C m₃ → m₃ x = some v → Kept h₁ s₃.heap →
    wpAny (model prog w) A (forIn ifs true fun c r => if r = true then do let ok ← isTrue c (compEnvC scope cl C env) (eval c (compEnvC scope cl C env)); pure (ForInStep.yield ok) else pure (ForInStep.yield r))
      (fun ok s₄ => ok = p v ∧ Keeps s₃ s₄) E' s₃
  elt : ∀ C i v (s₃ : Shared) m₃ E', P i v → p v = true → s₃.heap.Ns C m₃ → m₃ x = some v → Kept h₁ s₃.heap →
    wpAny (model prog w) A (eval elt (compEnvC scope cl C env)) (fun y s₄ => F v y ∧ Keeps s₃ s₄) E' s₃
theorem comp_eval {elt iter : PySem.Expr} {x : Str} {px : Pos} {ifs : List PySem.Expr} {scope : Scope} {cl : List (Str × Addr)} {pos : Pos} {Q : Value → Shared → Prop} (p : Value → Bool) (F : Value → Value → Prop)
    (hh : A.handled = none) (hclos : closureFor scope env = pure cl) (hcell : ∀ y ∈ scope.names, y.2 ≠ .cell) (hkind : scope.kind = .function)
    (hnames : ∀ y ∈ scope.names, y.2 = .local → scope.names.lookup y.1 = some .local) (hx : scope.names.lookup x = some .local)
    (h : wpAny (model prog w) A (eval iter env) (fun xv s₁ => Stop (∃ n P, Src s₁.heap xv n P ∧ n < 1000 ∧ Calm prog w A env scope cl x ifs elt P p F s₁.heap ∧
      (∀ D h' tk ys nn (vs : List Value), s₁.heap.get? D = none → h'.get? D = some (lisO ys nn) → vs.length = n → (∀ j v, vs[j]? = some v → P j v) → Paired F (vs.filter p) ys →
        Kept s₁.heap h' → Q (.ref D) { s₁ with heap := h', toks := tk }))) E s)
    (hs : ∀ x, foldedSetIterable iter env x = pure x := by intro _; rfl) :
    wpAny (model prog w) A (eval (.ListComp elt [⟨.Name x px, iter, ifs, 0⟩] scope pos) env) Q E s := by
  refine wpAny_ListComp_free p F hclos hcell hkind hnames hx (wpAny_mono h (fun xv s₁ h₁ => ?_) fun _ _ e => e) hs
  obtain ⟨n, P, S, hn, C, hQ⟩ := h₁.out
  refine S.iter hh ?_
  intro o fp St ho W hst hfp _ _
  have old : ∀ (s₃ : Shared), (∀ b o', b ∉ [s₁.heap.objs.size] → (s₁.heap.push o).get? b = some o' → s₃.heap.get? b = some o') → Kept s₁.heap s₃.heap := fun s₃ hk b o' e => hk b o' (fun hm => Nat.lt_irrefl _ ((List.mem_singleton.mp hm) ▸ Heap.lt_size e)) (Heap.get?_push_of_some _ e)
  refine ⟨_, fp, _, n, P, St, rfl, W, Nat.le_trans (Nat.le_of_lt hn) (by decide), hst, fun b hb => ?_, ⟨?_, ?_⟩, ?_⟩
  · show b < (s₁.heap.push o).objs.size
    rw [Heap.size_push]
    by_cases e : b = s₁.heap.objs.size
    · rw [e]; exact Nat.lt_succ_self _
    · exact Nat.lt_succ_of_lt (hfp b hb e)
  · intro C' i v s₃ m₃ E' _ hP hN hm hk _
    exact C.tests C' i v s₃ m₃ E' hP hN hm (old s₃ hk)
  · intro C' i v s₃ m₃ E' _ hP hp hN hm hk _
    exact C.elt C' i v s₃ m₃ E' hP hp hN hm (old s₃ hk)
  · intro D h' tk ys vs hD _ hpl hlen hP hF hk
    obtain ⟨nn, hpl⟩ := hpl
    refine hQ D h' tk ys.toList nn vs ?_ (by simpa using hpl) hlen hP hF (fun b o' e => hk b o' (fun hm => Nat.lt_irrefl _ ((List.mem_singleton.mp hm) ▸ Heap.lt_size e)) (Heap.get?_push_of_some _ e))
    cases q : s₁.heap.get? D with
    | none => rfl
    | some o' => rw [show (s₁.heap.push o).get? D = some o' from Heap.get?_push_of_some _ q] at hD; cases hD
theorem comp_assign {elt iter : PySem.Expr} {x y : Str} {px py : Pos} {ifs : List PySem.Expr} {scope : Scope} {cl : List (Str × Addr)} {pos spos : Pos} {Q : Flow → Shared → Prop} (p : Value → Bool) (F : Value → Value → Prop)
    (hh : A.handled = none)
    (hsw : swapsWith (.ListComp elt [⟨.Name x px, iter, ifs, 0⟩] scope pos) (some (.Name y py)) spos.line env = pure true)
    (hclos : closureFor scope env = pure cl) (hcell : ∀ y ∈ scope.names, y.2 ≠ .cell) (hkind : scope.kind = .function)
    (hnames : ∀ y ∈ scope.names, y.2 = .local → scope.names.lookup y.1 = some .local) (hx : scope.names.lookup x = some .local)
    (hy : env.kindOf y = some .local) (hp : (env.scope.kind == .class || (env.scope.kind == .module && env.locals != env.globals)) = false)
    (h : wpAny (model prog w) A (eval iter env) (fun xv s₁ => Stop (∃ n P m, Src s₁.heap xv n P ∧ n < 1000 ∧ s₁.heap.Ns env.locals m ∧ Calm prog w A env scope cl x ifs elt P p F s₁.heap ∧
      (∀ D h' tk ys nn (vs : List Value), s₁.heap.get? D = none → h'.get? D = some (lisO ys nn) → vs.length = n → (∀ j v, vs[j]? = some v → P j v) → Paired F (vs.filter p) ys →
        h'.Ns env.locals (fun z => if z = y then some (.ref D) else m z) → (∀ b o, b ≠ env.locals → s₁.heap.get? b = some o → h'.get? b = some o) → Q .next { s₁ with heap := h', toks := tk }))) E s)
    (hs : ∀ x, foldedSetIterable iter env x = pure x := by intro _; rfl) :
    wpAny (model prog w) A (exec (.Assign [.Name y py] (.ListComp elt [⟨.Name x px, iter, ifs, 0⟩] scope pos) spos) env) Q E s := by
  refine wpAny_Assign_ListComp_free p F hsw hclos hcell hkind hnames hx hy hp (wpAny_mono h (fun xv s₁ h₁ => ?_) fun _ _ e => e) hs
  obtain ⟨n, P, m, S, hn, hns, C, hQ⟩ := h₁.out
  refine S.iter hh ?_
  intro o fp St ho W hst hfp _ _
  have old : ∀ (s₃ : Shared), (∀ b o', b ∉ [s₁.heap.objs.size] → (s₁.heap.push o).get? b = some o' → s₃.heap.get? b = some o') → Kept s₁.heap s₃.heap := fun s₃ hk b o' e => hk b o' (fun hm => Nat.lt_irrefl _ ((List.mem_singleton.mp hm) ▸ Heap.lt_size e)) (Heap.get?_push_of_some _ e)
  refine ⟨_, fp, _, n, P, St, m, rfl, W, Nat.le_trans (Nat.le_of_lt hn) (by decide), hst, fun b hb => ?_, ?_, hns.keeps (kept_push _ _), ⟨?_, ?_⟩, ?_⟩
  · show b < (s₁.heap.push o).objs.size
    rw [Heap.size_push]
    by_cases e : b = s₁.heap.objs.size
    · rw [e]; exact Nat.lt_succ_self _
    · exact Nat.lt_succ_of_lt (hfp b hb e)
  · intro hm
    have := hns.lt
    rw [List.mem_singleton.mp hm] at this
    exact Nat.lt_irrefl _ this
  · intro C' i v s₃ m₃ E' _ hP hN hm hk _
    exact C.tests C' i v s₃ m₃ E' hP hN hm (old s₃ hk)
  · intro C' i v s₃ m₃ E' _ hP hp hN hm hk _
    exact C.elt C' i v s₃ m₃ E' hP hp hN hm (old s₃ hk)
  · intro D h' tk ys vs hD _ hpl hlen hP hF hN' hk
    obtain ⟨nn, hpl⟩ := hpl
    refine hQ D h' tk ys.toList nn vs ?_ (by simpa using hpl) hlen hP hF hN' (fun b o' hb e => hk b o' hb (fun hm => Nat.lt_irrefl _ ((List.mem_singleton.mp hm) ▸ Heap.lt_size e)) (Heap.get?_push_of_some _ e))
    cases q : s₁.heap.get? D with
    | none => rfl
    | some o' => rw [show (s₁.heap.push o).get? D = some o' from Heap.get?_push_of_some _ q] at hD; cases hD
end
end Mine
end
/-! part G2 -/
section
open PySem PySem.W PyProof.Rows
set_option autoImplicit false
namespace Mine
noncomputable section
variable {prog : Program} {w : World} {A : Around} {s : Shared} {base h₀ : Heap} {outer : List Env} {env : Env} {m : Str → Option Value} {news rest : List (Addr × Obj)} {E : Value → Shared → Prop}
noncomputable def ForEnd {σ : Type} (h₀ : Heap) (L : Addr) (Led : σ → List (Addr × Obj)) (ps : σ → List (Str × Value)) (x : Str) (stored : List Str) (m₀ : Str → Option Value) (P : σ → Prop) (own : List (Addr × Obj)) (I : Addr) (s₁ s₂ : Shared) : Prop :=
  ∃ (c : σ) (h' : Heap) (tk : Nat) (m' : Str → Option Value) (news' : List (Addr × Obj)), s₂ = { s₁ with heap := h', toks := tk } ∧ Fr h₀ L h' m' ∧ News h₀ L h' news' ∧ (∀ p ∈ own, p ∈ news') ∧ (∀ p ∈ Led c, p ∈ news') ∧ (∀ p ∈ Led c, p.1 ≠ I) ∧
    (∀ p ∈ ps c, m' p.1 = some p.2) ∧ (∀ z, z ≠ x → (∀ p ∈ ps c, z ≠ p.1) → stored.contains z = false → m' z = m₀ z) ∧ P c
noncomputable def ForPost {σ : Type} (h₀ : Heap) (L : Addr) (Led : σ → List (Addr × Obj)) (ps : σ → List (Str × Value)) (x : Str) (stored : List Str) (m₀ : Str → Option Value) (P : σ → Prop) (own : List (Addr × Obj)) (I : Addr) (s₁ : Shared) (Q : Flow → Shared → Prop) (f : Flow) (s₂ : Shared) : Prop :=
  match f with
  | .ret v => Q (.ret v) s₂
  | .brk => Q .next s₂
  | _ => ForEnd h₀ L Led ps x stored m₀ P own I s₁ s₂
theorem for_end {σ : Type} {L : Addr} {Led : σ → List (Addr × Obj)} {ps : σ → List (Str × Value)} {x : Str} {stored : List Str} {m₀ : Str → Option Value} {P : σ → Prop} {own : List (Addr × Obj)} {I : Addr} {s₁ : Shared} {h' : Heap} {tk : Nat} {m' : Str → Option Value} {news' : List (Addr × Obj)} (c : σ)
    (F : Fr h₀ L h' m') (N : News h₀ L h' news') (h1 : ∀ p ∈ own, p ∈ news') (h2 : ∀ p ∈ Led c, p ∈ news') (h3 : ∀ p ∈ Led c, p.1 ≠ I) (h4 : ∀ p ∈ ps c, m' p.1 = some p.2)
    (h5 : ∀ z, z ≠ x → (∀ p ∈ ps c, z ≠ p.1) → stored.contains z = false → m' z = m₀ z) (h6 : P c) : ForEnd h₀ L Led ps x stored m₀ P own I s₁ { s₁ with heap := h', toks := tk } :=
  ⟨c, h', tk, m', news', rfl, F, N, h1, h2, h3, h4, h5, h6⟩
theorem for_st {σ : Type} {x : Str} {body : List Stmt} {xv : Value} {n : Nat} {PV : Nat → Value → Prop} {Q : Flow → Shared → Prop} {m₀ : Str → Option Value} (Led : σ → List (Addr × Obj)) (ps : σ → List (Str × Value)) (stored : List Str) (P : Nat → σ → Prop) (c₀ : σ)
    (S : Src s.heap xv n PV) (hh : A.handled = none) (F : Fr h₀ env.locals s.heap m₀) (N : News h₀ env.locals s.heap (Led c₀)) (hsv : ∀ b, xv = .ref b → b ≠ env.locals) (hk : ∀ p ∈ ps c₀, m₀ p.1 = some p.2) (hp : P 0 c₀)
    (turn : ∀ (i : Nat) (v : Value) (c : σ) (u : Str → Option Value) h tk own, i < n → PV i v → P i c → (∀ p ∈ own, p.1 = s.heap.objs.size ∨ xv = .ref p.1) → (∃ o, (s.heap.objs.size, o) ∈ own) →
      Fr h₀ env.locals h (fun y => if y = x then some v else kstB (fun z => if stored.contains z then u z else m₀ z) (ps c) y) → News h₀ env.locals h (Led c ++ own) →
      wpAny (model prog w) A (execs body env) (ForPost h₀ env.locals Led ps x stored m₀ (P (i + 1)) own s.heap.objs.size { s with heap := h, toks := tk } Q) E { s with heap := h, toks := tk })
    (done : ∀ (c : σ) (u : Str → Option Value) h tk, P n c → Fr h₀ env.locals h (fun y => if y = x then u y else kstB (fun z => if stored.contains z then u z else m₀ z) (ps c) y) → News h₀ env.locals h (Led c) → Q .next { s with heap := h, toks := tk }) :
    wpAny (model prog w) A (pyIter xv) (fun it s₂ => LoopAtV prog w A h₀ env x body Q E it s₂) E s := by
  refine S.iter hh ?_
  intro o fp St ho W hst hfp hfx hthere
  let J : Nat → (Str → Option Value) → List (Addr × Obj) → Prop := fun i m nx => ∃ c : σ, nx = Led c ∧ (∀ p ∈ ps c, m p.1 = some p.2) ∧ (∀ z, z ≠ x → (∀ p ∈ ps c, z ≠ p.1) → stored.contains z = false → m z = m₀ z) ∧ P i c
  have hIL : env.locals < s.heap.objs.size := F.ns.lt
  refine ⟨_, fp, _, n, PV, St, m₀, Led c₀, J, rfl, W, ?_, ?_, ?_, hst, F.push _, fun p hp => ⟨Heap.get?_push_of_some _ (N p hp).1, (N p hp).2⟩, ⟨c₀, rfl, hk, fun _ _ _ _ => rfl, hp⟩, ?_, ?_⟩
  · intro hm
    rcases hfx _ hm with e | e
    · rw [e] at hIL; exact Nat.lt_irrefl _ hIL
    · exact hsv _ e rfl
  · intro b hb
    rw [List.mem_singleton.mp hb]
    exact next_is_new F
  · intro p hp hI
    exact absurd (Heap.lt_size (N p hp).1) ((List.mem_singleton.mp hI) ▸ Nat.lt_irrefl _)
  · rintro i v m₁ news₁ s₁ own ⟨hh', tk', rfl⟩ hin hP ⟨c, rfl, h1, h2, hPc⟩ hoff hown hownAt hin' hst' F₁ N₁
    have hown' : ∀ p ∈ own, p.1 = s.heap.objs.size ∨ xv = .ref p.1 := fun p hp => hfx _ (hown p hp)
    have N₂ : News h₀ env.locals hh' (Led c ++ own) := fun p hp => N₁ p ((List.mem_append.mp hp).elim (fun h => List.mem_append.mpr (.inr h)) fun h => List.mem_append.mpr (.inl h))
    have hI : ∃ o, (s.heap.objs.size, o) ∈ own := by
      have hmem : s.heap.objs.size ∈ fp := W.sub _ (List.mem_singleton.mpr rfl)
      cases hq : hh'.get? s.heap.objs.size with
      | some o' => exact ⟨o', hin' _ hmem (next_is_new F) _ hq⟩
      | none => obtain ⟨o', ho'⟩ := hthere _ _ hst'; rw [show hh'.get? s.heap.objs.size = some o' from ho'] at hq; cases hq
    refine wpAny_mono (turn i v c m₁ hh' tk' own hin hP hPc hown' hI (kst_fr h1 h2 F₁) N₂) (fun f s₂ q => ?_) fun _ _ e => e
    have fin : ForEnd h₀ env.locals Led ps x stored m₀ (P (i + 1)) own s.heap.objs.size { s with heap := hh', toks := tk' } s₂ → LoopStepU h₀ env.locals [s.heap.objs.size] own (J (i + 1)) { s with heap := hh', toks := tk' } .next s₂ := by
      rintro ⟨c', h', tk, m', news', e, F', N', g1, g2, g3, g4, g5, g6⟩
      refine ⟨rfl, h', tk, m', Led c', e, F', fun p hp => N' p ((List.mem_append.mp hp).elim (g1 p) (g2 p)), fun p hp hm => g3 p hp (List.mem_singleton.mp hm), c', rfl, g4, g5, g6⟩
    cases f with
    | ret v => exact .ret q
    | brk => exact .brk q
    | next => exact .next (fin q)
    | cont => exact .cont (fin q)
  · rintro h' tk m' news' F' N' _ ⟨c, rfl, h1, h2, hPc⟩
    refine done c m' h' tk hPc ?_ N'
    exact kst_frOut h1 h2 F'
end
end Mine
end
/-! part G3 -/
section
open PySem PySem.W PyProof.Rows
set_option autoImplicit false
namespace Mine
noncomputable section
variable {prog : Program} {w : World} {A : Around} {s : Shared} {base h₀ : Heap} {outer : List Env} {env : Env} {m : Str → Option Value} {news rest : List (Addr × Obj)} {E : Value → Shared → Prop}
noncomputable def rangeI (n : Nat) : List Int := (List.range n).map fun i : Nat => (i : Int)
theorem rangeI_length (n : Nat) : (rangeI n).length = n := by simp [rangeI]
theorem rangeI_get (n j : Nat) (h : j < n) : (rangeI n)[j]?.getD 0 = (j : Int) := by simp [rangeI, h]
theorem mem_rangeI {n : Nat} {i : Int} : i ∈ rangeI n ↔ 0 ≤ i ∧ i < n := by
  simp only [rangeI, List.mem_map, List.mem_range]
  constructor
  · rintro ⟨a, h, rfl⟩; (first | lia | omega)
  · rintro ⟨h1, h2⟩; exact ⟨i.toNat, by (first | lia | omega), by (first | lia | omega)⟩
/-- a run of ints -/
inductive SrcI (h : Heap) : Value → List Int → Prop where
  | list {l : Addr} {vs : List Value} {xs : List Int} : h.IsList l vs.toArray → IntsAre vs xs → xs.length < 1000 → SrcI h (.ref l) xs
  | tuple {l : Addr} {vs : List Value} {xs : List Int} : h.IsTuple l vs.toArray → IntsAre vs xs → xs.length < 1000 → SrcI h (.ref l) xs
  | range {r : Addr} {n : Nat} {t u v : Tok} : IsRange h r 0 (n : Int) 1 t u v → n < 1000 → SrcI h (.ref r) (rangeI n)
theorem SrcI.src {h : Heap} {xv : Value} {xs : List Int} (S : SrcI h xv xs) : ∃ P, Src h xv xs.length P ∧ xs.length < 1000 ∧ (∀ j v, P j v → j < xs.length ∧ ∃ t, v = .int (xs[j]?.getD 0) t) := by
  cases S with
  | list hl hv hz =>
    have S := Src.list hl
    rw [hv.length] at S
    refine ⟨_, S, hz, fun j v hv' => ?_⟩
    have hj : j < xs.length := by
      rw [← hv.length]
      exact (List.getElem?_eq_some_iff.mp hv').1
    obtain ⟨t, ht⟩ := hv.get j (xs[j]?.getD 0) (by simp [hj])
    rw [ht] at hv'
    exact ⟨hj, t, (Option.some.inj hv').symm⟩
  | tuple hl hv hz =>
    have S := Src.tuple hl
    rw [hv.length] at S
    refine ⟨_, S, hz, fun j v hv' => ?_⟩
    have hj : j < xs.length := by
      rw [← hv.length]
      exact (List.getElem?_eq_some_iff.mp hv').1
    obtain ⟨t, ht⟩ := hv.get j (xs[j]?.getD 0) (by simp [hj])
    rw [ht] at hv'
    exact ⟨hj, t, (Option.some.inj hv').symm⟩
  | range hr hn =>
    rename_i r n t u v
    have S := Src.range hr hn
    refine ⟨_, by rw [rangeI_length]; exact S, by rw [rangeI_length]; exact hn, fun j v hv' => ?_⟩
    obtain ⟨hj, t, rfl⟩ := hv'
    exact ⟨by rw [rangeI_length]; exact hj, t, by rw [rangeI_get n j hj]⟩
structure CalmI (prog : Program) (w : World) (A : Around) (env : Env) (scope : Scope) (cl : List (Str × Addr)) (x : Str) (ifs : List PySem.Expr) (elt : PySem.Expr) (xs : List Int) (q : Int → Bool) (f : Int → Int) (h₁ : Heap) : Prop where
  tests : ∀ C i t (s₃ : Shared) m₃ E', i ∈ xs → s₃.heap.Ns C m₃ → m₃ x = some (.int i t) → Kept h₁ s₃.heap →
    wpAny (model prog w) A (forIn ifs true fun c r => if r = true then do let ok ← isTrue c (compEnvC scope cl C env) (eval c (compEnvC scope cl C env)); pure (ForInStep.yield ok) else pure (ForInStep.yield r))
      (fun ok s₄ => ok = q i ∧ Keeps s₃ s₄) E' s₃
  elt : ∀ C i t (s₃ : Shared) m₃ E', i ∈ xs → q i = true → s₃.heap.Ns C m₃ → m₃ x = some (.int i t) → Kept h₁ s₃.heap →
    wpAny (model prog w) A (eval elt (compEnvC scope cl C env)) (fun y s₄ => (∃ t', y = .int (f i) t') ∧ Keeps s₃ s₄) E' s₃
noncomputable def pI (q : Int → Bool) : Value → Bool
  | .int i _ => q i
  | _ => false
noncomputable def fI (f : Int → Int) (v y : Value) : Prop := ∃ i t t', v = .int i t ∧ y = .int (f i) t'
theorem CalmI.calm {scope : Scope} {cl : List (Str × Addr)} {x : Str} {ifs : List PySem.Expr} {elt : PySem.Expr} {xs : List Int} {q : Int → Bool} {f : Int → Int} {h₁ : Heap} {P : Nat → Value → Prop}
    (C : CalmI prog w A env scope cl x ifs elt xs q f h₁) (hP : ∀ j v, P j v → j < xs.length ∧ ∃ t, v = .int (xs[j]?.getD 0) t) : Calm prog w A env scope cl x ifs elt P (pI q) (fI f) h₁ where
  tests := fun C' i v s₃ m₃ E' hv hN hm hk => by
    obtain ⟨hj, t, rfl⟩ := hP i v hv
    exact C.tests C' _ t s₃ m₃ E' (by simp [hj]) hN hm hk
  elt := fun C' i v s₃ m₃ E' hv hp hN hm hk => by
    obtain ⟨hj, t, rfl⟩ := hP i v hv
    refine wpAny_mono (C.elt C' _ t s₃ m₃ E' (by simp [hj]) hp hN hm hk) (fun y s₄ h => ?_) fun _ _ e => e
    obtain ⟨⟨t', rfl⟩, k⟩ := h
    exact ⟨⟨_, _, _, rfl, rfl⟩, k⟩
theorem ints_filter {q : Int → Bool} {f : Int → Int} : ∀ {vs : List Value} {xs : List Int} {ys : List Value}, IntsAre vs xs → Paired (fI f) (vs.filter (pI q)) ys → IntsAre ys ((xs.filter q).map f)
  | _, _, _, .nil, .nil => .nil
  | _, _, _, .cons n t (vs := vs) (ns := ns) h, hp => by
    cases hq : q n with
    | false =>
      have e1 : (Value.int n t :: vs).filter (pI q) = vs.filter (pI q) := by simp [pI, hq]
      have e2 : (n :: ns).filter q = ns.filter q := by simp [hq]
      rw [e1] at hp; rw [e2]
      exact ints_filter h hp
    | true =>
      have e1 : (Value.int n t :: vs).filter (pI q) = Value.int n t :: vs.filter (pI q) := by simp [pI, hq]
      have e2 : (n :: ns).filter q = n :: ns.filter q := by simp [hq]
      rw [e1] at hp; rw [e2]
      cases hp with
      | cons h1 h2 =>
        obtain ⟨i, t1, t2, e, rfl⟩ := h1
        cases e
        exact .cons _ _ (ints_filter h h2)
theorem ints_of {vs : List Value} : ∀ {xs : List Int}, vs.length = xs.length → (∀ (j : Nat) (v : Value), vs[j]? = some v → ∃ t, v = Value.int (xs[j]?.getD 0) t) → IntsAre vs xs := by
  induction vs with
  | nil => intro xs h _; cases xs with | nil => exact .nil | cons => cases h
  | cons v vs ih =>
    intro xs h hv
    cases xs with
    | nil => cases h
    | cons i xs =>
      obtain ⟨t, ht⟩ := hv 0 v rfl
      simp at ht
      subst ht
      exact .cons _ _ (ih (by simpa using h) fun j v hj => by simpa using hv (j + 1) v (by simpa using hj))
theorem news_new {L : Addr} {h' h₁ : Heap} {D : Addr} {o : Obj} (F : Fr h₀ L h₁ m) (N : News h₀ L h₁ news) (hD : h₁.get? D = none) (hg : h'.get? D = some o) (hk : ∀ b o, b ≠ L → h₁.get? b = some o → h'.get? b = some o) :
    News h₀ L h' ((D, o) :: news) ∧ (∀ p ∈ news, p.1 ≠ D) := by
  refine ⟨fun q hq => ?_, fun p hp e => ?_⟩
  · rcases List.mem_cons.mp hq with rfl | hq
    · refine ⟨hg, fun e => ?_, ?_⟩
      · obtain ⟨oL, _, _, hL, _⟩ := F.ns
        rw [show D = L from e, hL] at hD; cases hD
      · cases q : h₀.get? D with
        | none => rfl
        | some o' => rw [F.keep D o' q] at hD; cases hD
    · exact ⟨hk _ _ (N q hq).2.1 (N q hq).1, (N q hq).2⟩
  · have := (N p hp).1
    rw [e, hD] at this; cases this
theorem comp_evalI {elt iter : PySem.Expr} {x : Str} {px : Pos} {ifs : List PySem.Expr} {scope : Scope} {cl : List (Str × Addr)} {pos : Pos} {Q : Value → Shared → Prop} (q : Int → Bool) (f : Int → Int)
    (hh : A.handled = none) (hclos : closureFor scope env = pure cl) (hcell : ∀ y ∈ scope.names, y.2 ≠ .cell) (hkind : scope.kind = .function)
    (hnames : ∀ y ∈ scope.names, y.2 = .local → scope.names.lookup y.1 = some .local) (hx : scope.names.lookup x = some .local)
    (h : wpAny (model prog w) A (eval iter env) (fun xv s₁ => Stop (∃ xs h₀ L m news, Fr h₀ L s₁.heap m ∧ News h₀ L s₁.heap news ∧ SrcI s₁.heap xv xs ∧ CalmI prog w A env scope cl x ifs elt xs q f s₁.heap ∧
      (∀ D h' tk ys nn, (∀ p ∈ news, p.1 ≠ D) → IntsAre ys ((xs.filter q).map f) → Fr h₀ L h' m → News h₀ L h' ((D, lisO ys nn) :: news) → Kept s₁.heap h' → Q (.ref D) { s₁ with heap := h', toks := tk }))) E s)
    (hs : ∀ x, foldedSetIterable iter env x = pure x := by intro _; rfl) :
    wpAny (model prog w) A (eval (.ListComp elt [⟨.Name x px, iter, ifs, 0⟩] scope pos) env) Q E s := by
  refine comp_eval (pI q) (fI f) hh hclos hcell hkind hnames hx (wpAny_mono h (fun xv s₁ h₁ => ?_) fun _ _ e => e) hs
  obtain ⟨xs, h₀, L, m, news, F, N, S, C, hQ⟩ := h₁.out
  obtain ⟨P, S', hz, hP⟩ := S.src
  refine ⟨⟨xs.length, P, S', hz, C.calm hP, ?_⟩⟩
  intro D h' tk ys nn vs hD hg hlen hv hF hk
  obtain ⟨N', hne⟩ := news_new F N hD hg fun b o _ e => hk b o e
  exact hQ D h' tk ys nn hne (ints_filter (ints_of hlen fun j v hj => (hP j v (hv j v hj)).2) hF) (F.grownK hk) N' hk
theorem comp_assignI {elt iter : PySem.Expr} {x y : Str} {px py : Pos} {ifs : List PySem.Expr} {scope : Scope} {cl : List (Str × Addr)} {pos spos : Pos} {Q : Flow → Shared → Prop} (q : Int → Bool) (f : Int → Int)
    (hh : A.handled = none)
    (hsw : swapsWith (.ListComp elt [⟨.Name x px, iter, ifs, 0⟩] scope pos) (some (.Name y py)) spos.line env = pure true)
    (hclos : closureFor scope env = pure cl) (hcell : ∀ y ∈ scope.names, y.2 ≠ .cell) (hkind : scope.kind = .function)
    (hnames : ∀ y ∈ scope.names, y.2 = .local → scope.names.lookup y.1 = some .local) (hx : scope.names.lookup x = some .local)
    (hy : env.kindOf y = some .local) (hp : (env.scope.kind == .class || (env.scope.kind == .module && env.locals != env.globals)) = false)
    (h : wpAny (model prog w) A (eval iter env) (fun xv s₁ => Stop (∃ xs h₀ m news, Fr h₀ env.locals s₁.heap m ∧ News h₀ env.locals s₁.heap news ∧ SrcI s₁.heap xv xs ∧ CalmI prog w A env scope cl x ifs elt xs q f s₁.heap ∧
      (∀ D h' tk ys nn, (∀ p ∈ news, p.1 ≠ D) → IntsAre ys ((xs.filter q).map f) → Fr h₀ env.locals h' (fun z => if z = y then some (.ref D) else m z) → News h₀ env.locals h' ((D, lisO ys nn) :: news) →
        Q .next { s₁ with heap := h', toks := tk }))) E s)
    (hs : ∀ x, foldedSetIterable iter env x = pure x := by intro _; rfl) :
    wpAny (model prog w) A (exec (.Assign [.Name y py] (.ListComp elt [⟨.Name x px, iter, ifs, 0⟩] scope pos) spos) env) Q E s := by
  refine comp_assign (pI q) (fI f) hh hsw hclos hcell hkind hnames hx hy hp (wpAny_mono h (fun xv s₁ h₁ => ?_) fun _ _ e => e) hs
  obtain ⟨xs, h₀, m, news, F, N, S, C, hQ⟩ := h₁.out
  obtain ⟨P, S', hz, hP⟩ := S.src
  refine ⟨⟨xs.length, P, m, S', hz, F.ns, C.calm hP, ?_⟩⟩
  intro D h' tk ys nn vs hD hg hlen hv hF hN hk
  obtain ⟨N', hne⟩ := news_new F N hD hg hk
  exact hQ D h' tk ys nn hne (ints_filter (ints_of hlen fun j v hj => (hP j v (hv j v hj)).2) hF)
    ⟨hN, fun b o e => hk b o (fun q => absurd (Heap.lt_size e) (q ▸ Nat.not_lt.mpr F.above)) (F.keep b o e), F.above⟩ N'
end
end Mine
end
/-! part S1 -/
section
open PySem PySem.W PyProof.Rows
set_option autoImplicit false
namespace Mine
noncomputable section
variable {prog : Program} {w : World} {A : Around} {s : Shared} {h₀ : Heap} {L : Addr} {m : Str → Option Value} {news : List (Addr × Obj)} {E : Value → Shared → Prop}
theorem collect_tup {l : Addr} {vs : List Value} {Q : List Value → Shared → Prop} (hl : s.heap.IsTuple l vs.toArray)
    (h : Q vs { s with heap := (s.heap.push (seqObj "list" #[] 0)).update s.heap.objs.size (Obj.mapSeq (· ++ vs.toArray)) }) (hsz : vs.length ≤ sizeLine) :
    wpAny (model prog w) A (collect (.ref l)) Q E s := by
  obtain ⟨o, ho, hc, n, hd⟩ := id hl
  unfold collect
  refine wpAny_bind (wpAny_runValue (codeAny_builtin entry_proto_collect' ?_))
  show wpAny _ _ (do again (.builtin "list.__iadd__" ⟨[← newList [], .ref l], []⟩)) _ _ s
  refine wpAny_bind (wpAny_newList (wpAny_pure ⟨Code.quiet_builtin _ (by decide +kernel), codeAny_builtin entry_list_iadd' ?_⟩))
  show wpAny _ _ (Builtin.List.listExtendWith (.ref s.heap.objs.size) (.ref l) (.ref s.heap.objs.size)) _ _ { s with heap := s.heap.push (seqObj "list" #[] 0) }
  unfold Builtin.List.listExtendWith
  have ho' : (s.heap.push (seqObj "list" #[] 0)).get? l = some o := Heap.get?_push_of_some _ ho
  refine wpAny_bind (wpAny_typeOf (T := "tuple") ⟨o, ho', hc⟩ ?_)
  have ht : (Value.type "tuple" == Value.type "tuple") = true := by rfl
  rw [if_pos (by rw [ht]; simp)]
  refine wpAny_bind (listItems_at ho' hd ?_)
  refine wpAny_bind (listItems_at (xs := #[]) (n := 0) (Heap.get?_push_size _ rfl) rfl ?_)
  rw [if_neg (by simp)]
  refine wpAny_bind (listUpdate_at (xs := #[]) (n := 0) (Heap.get?_push_size _ rfl) rfl ?_ (Nat.zero_le _) (by show (#[] ++ vs.toArray).size ≤ sizeLine + 1; simp only [Array.size_append, List.size_toArray, List.length_nil]; (first | lia | omega)))
  refine wpAny_pure ?_
  show wpAny (model prog w) A (do
      let o ← load s.heap.objs.size
      match o.data with
      | .seq xs _ => pure xs.toList
      | _ => unsupported "internal:collect") Q E { s with heap := (s.heap.push (seqObj "list" #[] 0)).update s.heap.objs.size (Obj.mapSeq (· ++ vs.toArray)) }
  refine wpAny_bind (wpAny_load (get?_update_seq (Heap.get?_push_size _ rfl) _) ?_)
  show wpAny _ _ (pure ((#[] : Array Value) ++ vs.toArray).toList) Q E _
  rw [show ((#[] : Array Value) ++ vs.toArray).toList = vs by simp]
  exact wpAny_pure h
theorem sorted_tup {l : Addr} {vs : List Value} {ns : List Int} {Q : Value → Shared → Prop} (hl : s.heap.IsTuple l vs.toArray) (hI : IntsAre vs ns) (h64 : vs.length < 64)
    (h : ∀ (out : Array Value) (ns' : List Int), IntsAre out.toList ns' → ns'.Perm ns → ns'.Pairwise (· ≤ ·) → Q (.ref (s.heap.objs.size + 1)) { s with heap := sortedAll s.heap vs out }) :
    wpAny (model prog w) A (call (.builtin "sorted") [.ref l]) Q E s := by
  refine Calls.call_function_entry kind_sorted plain_sorted entry_sorted (args_sorted1 _) ?_
  unfold Builtin.«sorted»
  refine wpAny_bind (m := checkCount "sorted" 1 1 _) (wpAny_pure ?_)
  refine wpAny_bind (collect_tup hl ?_ (by rw [show sizeLine = 16777216 from rfl]; (first | lia | omega)))
  refine wpAny_bind (wpAny_newList ?_)
  have hsz : ((s.heap.push (seqObj "list" #[] 0)).update s.heap.objs.size (Obj.mapSeq (· ++ vs.toArray))).objs.size = s.heap.objs.size + 1 := by
    rw [Heap.size_update, size_push']
  have hoL : (((s.heap.push (seqObj "list" #[] 0)).update s.heap.objs.size (Obj.mapSeq (· ++ vs.toArray))).push (seqObj "list" vs.toArray 0)).get? (s.heap.objs.size + 1) = some (seqObj "list" vs.toArray 0) := by
    rw [← hsz]; exact Heap.get?_push_size _ rfl
  show wpAny _ _ _ _ _ { s with heap := ((s.heap.push (seqObj "list" #[] 0)).update s.heap.objs.size (Obj.mapSeq (· ++ vs.toArray))).push (seqObj "list" vs.toArray 0) }
  rw [hsz]
  refine wpAny_bind (wpAny_holding (wpAny_call_entry slot_list_sort ⟨_, hoL, rfl⟩ entry_list_sort (list_sort_tree hoL hI h64 fun out ns' a1 a2 a3 => ⟨_, rfl, ?_⟩) (args_list_sort _)))
  exact wpAny_pure ⟨_, rfl, h out ns' a1 a2 a3⟩
theorem two_sorted {i j : Int} {ns : List Int} (hp : ns.Perm [i, j]) (hs : ns.Pairwise (· ≤ ·)) : ns = [min i j, max i j] := by
  have hl := hp.length_eq
  match ns, hl with
  | [a, b], _ =>
    have hab : a ≤ b := by simpa using hs
    have h1 : a ∈ [i, j] := hp.subset (by simp)
    have h2 : b ∈ [i, j] := hp.subset (by simp)
    have h3 : i ∈ [a, b] := hp.symm.subset (by simp)
    have h4 : j ∈ [a, b] := hp.symm.subset (by simp)
    simp only [List.mem_cons, List.not_mem_nil, or_false] at h1 h2 h3 h4
    simp only [List.cons.injEq, and_true]
    (first | lia | omega)
theorem sorted_pair {r : Addr} {i j : Int} {t u : Tok} {Q : Value → Shared → Prop} {big : List (Addr × Obj)} (F : Fr h₀ L s.heap m) (N : News h₀ L s.heap big) (hm : (r, tupO [.int i t, .int j u]) ∈ big)
    (h : ∀ a t1 t2 e h', (∀ p ∈ big, p.1 < a) → Fr h₀ L h' m → News h₀ L h' ((a, lisO [.int (min i j) t1, .int (max i j) t2] e) :: big) → Q (.ref a) { s with heap := h' }) :
    wpAny (model prog w) A (call (.builtin "sorted") [.ref r]) Q E s := by
  have hT : s.heap.IsTuple r ([.int i t, .int j u] : List Value).toArray := ⟨_, (N _ hm).1, rfl, 0, rfl⟩
  refine sorted_tup hT (.cons i t (.cons j u .nil)) (by show 2 < 64; decide) fun out ns' a1 a2 a3 => ?_
  obtain ⟨e, he⟩ := sortedAll_at s.heap [.int i t, .int j u] out
  have hns := two_sorted a2 a3
  subst hns
  obtain ⟨t1, t2, ho⟩ : ∃ t1 t2, out = ([.int (min i j) t1, .int (max i j) t2] : List Value).toArray := by
    generalize hl : out.toList = l at a1
    cases a1 with
    | cons _ t1 a1 => cases a1 with
      | cons _ t2 a1 => cases a1; exact ⟨t1, t2, by rw [← hl]⟩
  subst ho
  exact h _ t1 t2 e _ (fun p hp => Nat.lt_succ_of_lt (Heap.lt_size (N p hp).1)) (F.kept fun _ _ => sortedAll_old) (N.kept_cons F (fun _ _ => sortedAll_old) (Nat.le_succ _) he)
end
end Mine
end
/-! part CX -/
section
open PySem PySem.W PyProof.Rows
set_option autoImplicit false
namespace Mine
noncomputable section
variable {w : World} {A : Around} {s : Shared} {base h₀ : Heap} {outer : List Env} {env : Env} {L : Addr} {m : Str → Option Value} {news rest : List (Addr × Obj)} {Q : Value → Shared → Prop} {E : Value → Shared → Prop}
/-- the pairs of a list, item by item -/
inductive Pairs (news : List (Addr × Obj)) : List Value → List (Int × Int) → Prop where
  | nil : Pairs news [] []
  | cons {r : Addr} {i j : Int} {t u : Tok} {vs : List Value} {ps : List (Int × Int)} : (r, tupO [.int i t, .int j u]) ∈ news → Pairs news vs ps → Pairs news (.ref r :: vs) ((i, j) :: ps)
theorem Pairs.length {vs : List Value} {ps : List (Int × Int)} (h : Pairs news vs ps) : vs.length = ps.length := by
  induction h with
  | nil => rfl
  | cons _ _ ih => simp [ih]
theorem Pairs.get {vs : List Value} {ps : List (Int × Int)} (h : Pairs news vs ps) : ∀ k : Nat, k < ps.length → ∃ r t u, vs[k]? = some (.ref r) ∧ (r, tupO [.int (ps[k]?.getD (0, 0)).1 t, .int (ps[k]?.getD (0, 0)).2 u]) ∈ news := by
  induction h with
  | nil => intro k hk; cases hk
  | cons hm _ ih =>
    intro k hk
    cases k with
    | zero => exact ⟨_, _, _, rfl, hm⟩
    | succ k => obtain ⟨r, t, u, h1, h2⟩ := ih k (by simpa using hk); exact ⟨r, t, u, by simpa using h1, by simpa using h2⟩
theorem cn_local {M : Model} {scope : Scope} {cl : List (Str × Addr)} {C : Addr} {env : Env} {x : Str} {pos : Pos} {v : Value} {m₃ : Str → Option Value} (hN : s.heap.Ns C m₃) (hv : m₃ x = some v) (h : Q v s)
    (hk : (compEnvC scope cl C env).scope.kind = .function := by rfl) (hl : (compEnvC scope cl C env).kindOf x = some .local := by rfl) (hd : (x == ("__debug__" : Str)) = false := by decide) :
    wpAny M A (eval (.Name x pos) (compEnvC scope cl C env)) Q E s := wpAny_Name (wpAny_loadName_local hk hl hN hv h) hd
theorem cn_cell {M : Model} {scope : Scope} {cl : List (Str × Addr)} {C c : Addr} {env : Env} {x : Str} {pos : Pos} {v : Value} (hc : cl.lookup x = some c) (hv : s.heap.IsCell c (some v)) (h : Q v s)
    (hk : (compEnvC scope cl C env).scope.kind = .function := by rfl) (hl : (compEnvC scope cl C env).kindOf x = some .cell := by rfl) (hd : (x == ("__debug__" : Str)) = false := by decide) :
    wpAny M A (eval (.Name x pos) (compEnvC scope cl C env)) Q E s := wpAny_Name (wpAny_loadName_cell hk hl hc hv h) hd
theorem int_item {prog : Program} {value slice : PySem.Expr} {a : Addr} {vs : List Value} {is : List Int} {k : Int} {u : Tok} (hl : s.heap.IsList a vs.toArray) (hv : IntsAre vs is)
    (h0 : 0 ≤ k) (h1 : k < is.length) (hz : is.length < 1000) (h : ∀ t, Q (.int (is[k.toNat]?.getD 0) t) s)
    (hs : subscripted slice false (.ref a) (.int k u) = operate [.ref a, .int k u] (getItem (.ref a) (.int k u)) := by with_unfolding_all rfl) (hg : ∀ r, letTemporaryGo value (.ref a) r = pure () := by intro _; with_unfolding_all rfl) :
    wpAny (model prog w) A (subscriptTail value slice (.ref a) (.int k u)) Q E s := by
  obtain ⟨t, h2⟩ := hv.get k.toNat (is[k.toNat]?.getD 0) (by simp [show k.toNat < is.length by (first | assumption | lia | omega)])
  exact item_listL hl h0 (Int.lt_trans h1 (by omega)) h2 (h t) hs hg
theorem tup_at {h : Heap} {a : Addr} {vs : List Value} (N : News h₀ L h news) (hm : (a, tupO vs) ∈ news) : h.IsTuple a vs.toArray := ⟨_, (N _ hm).1, rfl, 0, rfl⟩
theorem keeps_refl (s : Shared) : Keeps s s := ⟨s.heap, s.toks, rfl, fun _ _ e => e⟩
theorem keeps_tok (s : Shared) (t : Nat) : Keeps s { s with toks := t } := ⟨s.heap, t, rfl, fun _ _ e => e⟩
theorem cell_kept {h h' : Heap} {c : Addr} {v : Option Value} (x : h.IsCell c v) (k : Kept h h') : h'.IsCell c v := x.keeps k
theorem list_kept {h h' : Heap} {a : Addr} {vs : Array Value} (x : h.IsList a vs) (k : Kept h h') : h'.IsList a vs := let ⟨o, e, r⟩ := x; ⟨o, k _ _ e, r⟩
theorem len_any {prog : Program} {a : Addr} {vs : List Value} {n : Nat} (N : News h₀ L s.heap news) (hm : (a, lisO vs n) ∈ news) (hl : vs.length < 1000)
    (h : Q (.int (vs.length : Nat) (s.toks + 1)) { s with toks := s.toks + 1 + 1 }) : wpAny (model prog w) A (call (.builtin "len") [.ref a]) Q E s := by
  have e : vs.toArray.size = vs.length := by simp
  refine len_list (list_at N hm) (by rw [e]; (first | assumption | lia | omega)) (by rw [e]; exact h)
theorem pair_at {prog : Program} {value slice : PySem.Expr} {a : Addr} {vs : List Value} {ps : List (Int × Int)} {n : Nat} {k : Int} {u : Tok} {big : List (Addr × Obj)} (N : News h₀ L s.heap big) (hm : (a, lisO vs n) ∈ big) (hv : Pairs news vs ps)
    (h0 : 0 ≤ k) (h1 : k < ps.length) (hl : ps.length < 1000) (h : ∀ r t u, (r, tupO [.int (ps[k.toNat]?.getD (0, 0)).1 t, .int (ps[k.toNat]?.getD (0, 0)).2 u]) ∈ news → Q (.ref r) s)
    (hs : subscripted slice false (.ref a) (.int k u) = operate [.ref a, .int k u] (getItem (.ref a) (.int k u)) := by with_unfolding_all rfl) (hg : ∀ r, letTemporaryGo value (.ref a) r = pure () := by intro _; with_unfolding_all rfl) :
    wpAny (model prog w) A (subscriptTail value slice (.ref a) (.int k u)) Q E s := by
  obtain ⟨r, t, u, h2, h3⟩ := hv.get k.toNat (by (first | assumption | lia | omega))
  exact item_at N hm h0 (Int.lt_trans h1 (by omega)) h2 (h r t u h3) hs hg
noncomputable def condF (ps : List (Int × Int)) (is : List Int) (tie other : Int) : Bool :=
  ([(ps[other.toNat]?.getD (0, 0)).1, (ps[other.toNat]?.getD (0, 0)).2].filter fun sp =>
    decide (min (ps[tie.toNat]?.getD (0, 0)).1 (ps[tie.toNat]?.getD (0, 0)).2 < sp) && decide (sp < max (ps[tie.toNat]?.getD (0, 0)).1 (ps[tie.toNat]?.getD (0, 0)).2)).length == 1 ||
  (other == tie && decide ((is[tie.toNat]?.getD 0) > 255))
noncomputable def maskF (ps : List (Int × Int)) (is : List Int) (tie : Int) (others : List Int) : Int :=
  others.foldl (fun mask other => if condF ps is tie other = true then mask + 2 ^ other.toNat else mask) 0
noncomputable def realF (is : List Int) : List Int := (rangeI is.length).filter fun i => (is[i.toNat]?.getD 0) != 0
noncomputable def mixF (ps : List (Int × Int)) (is : List Int) (ties : List Int) : List Int :=
  ties.foldl (fun mixed tie => mixed ++ mixed.map fun one => Builtin.bitXor one (maskF ps is tie (realF is))) [0]
theorem ne_four {I L : Nat} (h : L + 1 + 1 + 1 + 1 < I) : I ≠ L + 1 ∧ I ≠ L + 1 + 1 ∧ I ≠ L + 1 + 1 + 1 ∧ I ≠ L + 1 + 1 + 1 + 1 := by (first | assumption | lia | omega)
theorem mask_step {ps : List (Int × Int)} {is : List Int} {tie other : Int} {l : List Int} {j : Nat} (hj : j < l.length) (ho : l[j]?.getD 0 = other) :
    maskF ps is tie (l.take (j + 1)) = if condF ps is tie other = true then maskF ps is tie (l.take j) + 2 ^ other.toNat else maskF ps is tie (l.take j) := by
  have e : l.take (j + 1) = l.take j ++ [other] := by
    rw [List.take_add_one]
    have : l[j]? = some other := by
      rw [List.getElem?_eq_getElem hj] at ho ⊢
      simpa using ho
    rw [this]; rfl
  unfold maskF
  rw [e, List.foldl_append]; rfl
theorem mix_step {ps : List (Int × Int)} {is : List Int} {tie : Int} {l : List Int} {j : Nat} (hj : j < l.length) (ho : l[j]?.getD 0 = tie) :
    mixF ps is (l.take (j + 1)) = mixF ps is (l.take j) ++ (mixF ps is (l.take j)).map fun one => Builtin.bitXor one (maskF ps is tie (realF is)) := by
  have e : l.take (j + 1) = l.take j ++ [tie] := by
    rw [List.take_add_one]
    have : l[j]? = some tie := by
      rw [List.getElem?_eq_getElem hj] at ho ⊢
      simpa using ho
    rw [this]; rfl
  unfold mixF
  rw [e, List.foldl_append]; rfl
theorem mix_len (ps : List (Int × Int)) (is : List Int) (l : List Int) : (mixF ps is l).length = 2 ^ l.length := by
  unfold mixF
  have : ∀ (l : List Int) (acc : List Int), (l.foldl (fun mixed tie => mixed ++ mixed.map fun one => Builtin.bitXor one (maskF ps is tie (realF is))) acc).length = acc.length * 2 ^ l.length := by
    intro l
    induction l with
    | nil => intro acc; simp
    | cons x l ih => intro acc; rw [List.foldl_cons, ih]; simp only [List.length_append, List.length_map, List.length_cons, Nat.pow_succ]; rw [Nat.mul_comm (2 ^ l.length) 2, ← Nat.mul_assoc]; congr 1; (first | assumption | lia | omega)
  rw [this]; simp
theorem mix_bound (ps : List (Int × Int)) (is : List Int) (h : is.length < 8) (i : Nat) : (mixF ps is ((realF is).take i)).length < 200 := by
  rw [mix_len]
  have h1 : ((realF is).take i).length ≤ 7 := by
    have a := List.length_take_le i (realF is)
    have b : (realF is).length ≤ is.length := by unfold realF; exact Nat.le_trans (List.length_filter_le _ _) (by rw [rangeI_length]; exact Nat.le_refl _)
    have c : ((realF is).take i).length ≤ (realF is).length := by rw [List.length_take]; exact Nat.min_le_right _ _
    (first | assumption | lia | omega)
  exact Nat.lt_of_le_of_lt (Nat.pow_le_pow_right (by decide) h1) (by decide)
theorem cond_len {ps : List (Int × Int)} {is : List Int} {tie other : Int} {n : Nat}
    (h : n = ([(ps[other.toNat]?.getD (0, 0)).1, (ps[other.toNat]?.getD (0, 0)).2].filter fun sp => decide (min (ps[tie.toNat]?.getD (0, 0)).1 (ps[tie.toNat]?.getD (0, 0)).2 < sp) && decide (sp < max (ps[tie.toNat]?.getD (0, 0)).1 (ps[tie.toNat]?.getD (0, 0)).2)).length) :
    condF ps is tie other = (decide ((n : Int) = 1) || (decide (other = tie) && decide (255 < is[tie.toNat]?.getD 0))) := by
  unfold condF
  rw [← h]
  congr 1
  · rw [Bool.eq_iff_iff]; simp; (first | assumption | lia | omega)
theorem cell_eq {o : Obj} {a b : Int} {t : Tok} (h : o.data = .cell (some (.int a t))) (e : b = a) : ∃ t, o.data = .cell (some (.int b t)) := ⟨t, e ▸ h⟩
theorem sub_app {H X Y : List (Addr × Obj)} : ∀ p ∈ H ++ X, p ∈ H ++ (X ++ Y) := fun p hp => by
  rcases List.mem_append.mp hp with h | h
  · exact List.mem_append_left _ h
  · exact List.mem_append_right _ (List.mem_append_left _ h)
theorem sub_own {H X Y : List (Addr × Obj)} : ∀ p ∈ Y, p ∈ H ++ (X ++ Y) := fun p hp => List.mem_append_right _ (List.mem_append_right _ hp)
theorem ldn_any {M : Model} {env : Env} {x : Str} {c : Addr} {o : Obj} {v : Value} (hk : env.scope.kind = .function) (hl : env.kindOf x = some .cell) (hc : env.cells.lookup x = some c) (N : News h₀ L s.heap news) (hm : (c, o) ∈ news) (hd : o.data = .cell (some v)) (h : Q v s) :
    wpAny M A (loadName env x) Q E s := wpAny_loadName_cell hk hl hc ⟨o, N.get hm, hd⟩ h
structure ChS where
  oM : Obj
  oH : Obj
  oL : Obj
  d : Addr
  vm : List Value
  nm : Nat
end
noncomputable section
local macro_rules | `(tactic| walk_at "eval Name") => `(tactic| ((with_reducible show wpAny _ _ (eval (PySem.Expr.Name _ _) (compEnvC _ _ _ _)) _ _ _); k_dflt (refine cn_local (by assumption) (by assumption) ?_)))
local macro_rules | `(tactic| walk_at "eval Name") => `(tactic| ((with_reducible show wpAny _ _ (eval (PySem.Expr.Name _ _) (compEnvC _ _ _ _)) _ _ _); k_dflt (refine cn_cell rfl (by assumption) ?_)))
local macro_rules | `(tactic| walk_at "subscriptTail") => `(tactic| (k_dflt (refine int_item (by assumption) (by assumption) (by (first | assumption | lia | omega)) (by (first | assumption | lia | omega)) (by (first | assumption | lia | omega)) ?_); intro t'; (try dsimp only)))
local macro_rules | `(tactic| walk_at "subscriptTail") => `(tactic| (k_dflt (refine int_at (by k_asm) (by k_mem) (by assumption) (by (first | assumption | lia | omega)) (by (first | assumption | lia | omega)) (by (first | assumption | lia | omega)) ?_); intro t'; (try dsimp only)))
local macro_rules | `(tactic| walk_at "subscriptTail") => `(tactic| (k_dflt (refine pair_at (by k_asm) (by k_mem) (by assumption) (by (first | assumption | lia | omega)) (by (first | assumption | lia | omega)) (by (first | assumption | lia | omega)) ?_); intro r' t' u' hm'; (try dsimp only)))
local macro_rules | `(tactic| k_mem) => `(tactic| (refine List.mem_append_left _ ?_; first | assumption | (refine List.mem_append_left _ ?_; assumption)))
local macro_rules | `(tactic| k_all) => `(tactic| (refine List.forall_mem_append.mpr ⟨?_, ?_⟩ <;> first | assumption | (refine List.forall_mem_append.mpr ⟨?_, ?_⟩ <;> assumption)))
local macro_rules | `(tactic| walk_at "call builtin:sorted") => `(tactic| (k_dflt (refine sorted_pair (by k_asm) (by k_asm) (by k_mem) ?_); intro a' t1' t2' e' h' l1 F' N'; (try k_lt l1); (try k_sweep); (try dsimp only)))
local macro_rules | `(tactic| k_all) => `(tactic| assumption)
local macro_rules | `(tactic| k_mem) => `(tactic| assumption)
local macro_rules | `(tactic| walk_at "call builtin:len") => `(tactic| (k_dflt (refine len_any (by k_asm) (by k_mem) (by (first | assumption | lia | omega)) ?_); (try dsimp only)))
local macro_rules | `(tactic| walk_at "pyIter ref") => `(tactic| (k_here; refine Stop.out ?_))
local macro_rules | `(tactic| walk_at "exec Assign cons ListComp") => `(tactic| (k_here; refine Stop.out ?_))
local macro_rules | `(tactic| walk_at "loadName") => `(tactic| (k_dflt (refine ldn_any rfl rfl rfl (by k_asm) (by k_mem) (by assumption) ?_); (try dsimp only)))
local macro_rules | `(tactic| walk_at "eval ListComp") => `(tactic| (k_here; refine Stop.out ?_))
local macro_rules | `(tactic| walk_at "binaryOp Add ref ref") => `(tactic| (k_dflt (refine kmk_add_ints (by k_asm) (by k_asm) (list_at (by k_asm) (by k_mem)) (list_at (by k_asm) (by k_mem)) (by assumption) (by assumption) ?_ (by rw [show sizeLine = 16777216 from rfl]; simp only [List.length_map]; (first | assumption | lia | omega))); intro D' us' h' F' N' l1 hI'; (try k_lt l1); (try k_sweep)))
local macro_rules | `(tactic| walk_at "call builtin:list.count") => `(tactic| (k_dflt (refine count_list_ints (list_at (by k_asm) (by k_mem)) (by assumption) ?_); (try dsimp only)))
local macro_rules | `(tactic| walk_at "ForPost") => `(tactic| (refine Stop.out ?_))
set_option maxRecDepth 100000 in
set_option maxHeartbeats 8000000 in
noncomputable def chIn : PSigma fun P : World → Around → Shared → Heap → Heap → List Env → Env → Addr → (Str → Option Value) → List (Addr × Obj) → (Value → Shared → Prop) → (Value → Shared → Prop) → Addr → Addr → List Value → List Value → List (Int × Int) → List Int → Nat → Nat → Heap → Addr → Heap → Nat → Obj → Obj → Obj → Obj → Prop => (∀ (w : World) (A : Around) (s : Shared) (base h₀ : Heap) (outer : List Env) (env : Env) (L : Addr) (m : Str → Option Value) (news : List (Addr × Obj)) (Q E : Value → Shared → Prop) (a b : Addr) (vs ws : List Value) (ps : List (Int × Int)) (is : List Int) (n k : Nat) (g' : Heap) (L' : Addr) (h' : Heap) (tk' : Nat) (oM0 oH0 oL0 oS : Obj), P w A s base h₀ outer env L m news Q E a b vs ws ps is n k g' L' h' tk' oM0 oH0 oL0 oS) → ∀ (w : World) (A : Around) (s : Shared) (base h₀ : Heap) (outer : List Env) (env : Env) (L : Addr) (m : Str → Option Value) (news : List (Addr × Obj)) (Q E : Value → Shared → Prop) (a b : Addr) (vs ws : List Value) (ps : List (Int × Int)) (is : List Int) (n k : Nat)
   (C : Cx w A 460 base env outer h₀ L) (F : Fr h₀ L s.heap m) (N : News h₀ L s.heap news)
   (hma : (a, lisO vs n) ∈ news) (hmb : (b, lisO ws k) ∈ news) (hv : Pairs news vs ps) (hw : IntsAre ws is) (hlen : ps.length = is.length) (hl8 : is.length < 8)
   (h : ∀ tk h' tk', Fr h₀ L h' m → News h₀ L h' news → Q (.int ((mixF ps is (realF is)).count 0 : Nat) tk) { s with heap := h', toks := tk' }),
   wpAny (model PySem.Challenge.rw_rs0100_01.prog w) A (call (.ref 123) [.ref a, .ref b]) Q E s := by
  apply PSigma.mk
  case snd =>
    intro hP w A s base h₀ outer env L m news Q E a b vs ws ps is n k C F N hma hmb hv hw hlen hl8 h
    have hl : is.length < 100 := by (first | assumption | lia | omega)
    obtain ⟨hh, hA, hf, hke, ⟨A₀, B⟩, X, ⟨p, loose, mean, mg, mb, T⟩, hd, hu⟩ := C
    refine wp_deep hh hA hd hu ?_
    revert X; k_fill; intro X
    refine wpAny_call ?_
    refine code_defC (binds := [(Str.ofString "pairs", .ref a), (Str.ofString "symbols", .ref b)]) B F X N T rfl hf hke (by k_is) (by k_is) (by show (460:Nat) < recursionLimit; decide) (BindsTo.of_eq rfl) rfl (by decide +kernel) ?_ rfl rfl rfl
    intro g' L' h' tk' cells' FG' F' N' Y' B' X' T' l1
    have hnlt := l1
    obtain ⟨oM0, oH0, oL0, oS, hE', dM0, dH0, dL0, dS⟩ := CellsAre.four Y'
    subst hE'
    clear Y'
    replace dM0 : oM0.data = .cell none := dM0
    replace dH0 : oH0.data = .cell none := dH0
    replace dL0 : oL0.data = .cell none := dL0
    replace dS : oS.data = .cell (some (.ref b)) := dS
    have hve : vs.length = is.length := by rw [hv.length, hlen]
    have hlv : vs.length < 100 := by rw [hv.length, hlen]; exact hl
    (try simp only [List.cons_append, List.nil_append] at N')
    have hT : ∃ p loose mean mg mb, Top p loose mean mg mb g' := ⟨p, loose, mean, mg, mb, T'⟩
    clear l1 T' FG' F N
    revert hma hmb hv hw hlen hl8 h hl F' B' X' hnlt N' dM0 dH0 dL0 dS hve hlv hT
    exact hP w A s base h₀ outer env L m news Q E a b vs ws ps is n k g' L' h' tk' oM0 oH0 oL0 oS
namespace CX
noncomputable abbrev RV : Type := World × Around × Shared × Heap × Heap × List Env × Env × Addr × (Str → Option Value) × List (Addr × Obj) × (Value → Shared → Prop) × (Value → Shared → Prop) × Addr × Addr × List Value × List Value × List (Int × Int) × List Int × Nat × Nat × Heap × Addr × Heap × Nat × Obj × Obj × Obj × Obj
theorem ne : Nonempty RV := ⟨(aWorld 1, {}, {}, default, default, [], default, (0 : Nat), fun _ => none, [], fun _ _ => True, fun _ _ => True, (0 : Nat), (0 : Nat), [], [], [], [], 0, 0, default, (0 : Nat), default, 0, default, default, default, default)⟩
noncomputable def PP (v : RV) : Prop := chIn.1 v.1 v.2.1 v.2.2.1 v.2.2.2.1 v.2.2.2.2.1 v.2.2.2.2.2.1 v.2.2.2.2.2.2.1 v.2.2.2.2.2.2.2.1 v.2.2.2.2.2.2.2.2.1 v.2.2.2.2.2.2.2.2.2.1 v.2.2.2.2.2.2.2.2.2.2.1 v.2.2.2.2.2.2.2.2.2.2.2.1 v.2.2.2.2.2.2.2.2.2.2.2.2.1 v.2.2.2.2.2.2.2.2.2.2.2.2.2.1 v.2.2.2.2.2.2.2.2.2.2.2.2.2.2.1 v.2.2.2.2.2.2.2.2.2.2.2.2.2.2.2.1 v.2.2.2.2.2.2.2.2.2.2.2.2.2.2.2.2.1 v.2.2.2.2.2.2.2.2.2.2.2.2.2.2.2.2.2.1 v.2.2.2.2.2.2.2.2.2.2.2.2.2.2.2.2.2.2.1 v.2.2.2.2.2.2.2.2.2.2.2.2.2.2.2.2.2.2.2.1 v.2.2.2.2.2.2.2.2.2.2.2.2.2.2.2.2.2.2.2.2.1 v.2.2.2.2.2.2.2.2.2.2.2.2.2.2.2.2.2.2.2.2.2.1 v.2.2.2.2.2.2.2.2.2.2.2.2.2.2.2.2.2.2.2.2.2.2.1 v.2.2.2.2.2.2.2.2.2.2.2.2.2.2.2.2.2.2.2.2.2.2.2.1 v.2.2.2.2.2.2.2.2.2.2.2.2.2.2.2.2.2.2.2.2.2.2.2.2.1 v.2.2.2.2.2.2.2.2.2.2.2.2.2.2.2.2.2.2.2.2.2.2.2.2.2.1 v.2.2.2.2.2.2.2.2.2.2.2.2.2.2.2.2.2.2.2.2.2.2.2.2.2.2.1 v.2.2.2.2.2.2.2.2.2.2.2.2.2.2.2.2.2.2.2.2.2.2.2.2.2.2.2
@[irreducible] noncomputable def rv : RV := @Classical.epsilon RV ne (fun v => ¬ PP v)
@[irreducible] noncomputable def w : World := rv.1
@[irreducible] noncomputable def A : Around := rv.2.1
@[irreducible] noncomputable def s : Shared := rv.2.2.1
@[irreducible] noncomputable def base : Heap := rv.2.2.2.1
@[irreducible] noncomputable def h₀ : Heap := rv.2.2.2.2.1
@[irreducible] noncomputable def outer : List Env := rv.2.2.2.2.2.1
@[irreducible] noncomputable def env : Env := rv.2.2.2.2.2.2.1
@[irreducible] noncomputable def L : Addr := rv.2.2.2.2.2.2.2.1
@[irreducible] noncomputable def m : Str → Option Value := rv.2.2.2.2.2.2.2.2.1
@[irreducible] noncomputable def news : List (Addr × Obj) := rv.2.2.2.2.2.2.2.2.2.1
@[irreducible] noncomputable def Q : Value → Shared → Prop := rv.2.2.2.2.2.2.2.2.2.2.1
@[irreducible] noncomputable def E : Value → Shared → Prop := rv.2.2.2.2.2.2.2.2.2.2.2.1
@[irreducible] noncomputable def a : Addr := rv.2.2.2.2.2.2.2.2.2.2.2.2.1
@[irreducible] noncomputable def b : Addr := rv.2.2.2.2.2.2.2.2.2.2.2.2.2.1
@[irreducible] noncomputable def vs : List Value := rv.2.2.2.2.2.2.2.2.2.2.2.2.2.2.1
@[irreducible] noncomputable def ws : List Value := rv.2.2.2.2.2.2.2.2.2.2.2.2.2.2.2.1
@[irreducible] noncomputable def ps : List (Int × Int) := rv.2.2.2.2.2.2.2.2.2.2.2.2.2.2.2.2.1
@[irreducible] noncomputable def is : List Int := rv.2.2.2.2.2.2.2.2.2.2.2.2.2.2.2.2.2.1
@[irreducible] noncomputable def n : Nat := rv.2.2.2.2.2.2.2.2.2.2.2.2.2.2.2.2.2.2.1
@[irreducible] noncomputable def k : Nat := rv.2.2.2.2.2.2.2.2.2.2.2.2.2.2.2.2.2.2.2.1
@[irreducible] noncomputable def g' : Heap := rv.2.2.2.2.2.2.2.2.2.2.2.2.2.2.2.2.2.2.2.2.1
@[irreducible] noncomputable def L' : Addr := rv.2.2.2.2.2.2.2.2.2.2.2.2.2.2.2.2.2.2.2.2.2.1
@[irreducible] noncomputable def h' : Heap := rv.2.2.2.2.2.2.2.2.2.2.2.2.2.2.2.2.2.2.2.2.2.2.1
@[irreducible] noncomputable def tk' : Nat := rv.2.2.2.2.2.2.2.2.2.2.2.2.2.2.2.2.2.2.2.2.2.2.2.1
@[irreducible] noncomputable def oM0 : Obj := rv.2.2.2.2.2.2.2.2.2.2.2.2.2.2.2.2.2.2.2.2.2.2.2.2.1
@[irreducible] noncomputable def oH0 : Obj := rv.2.2.2.2.2.2.2.2.2.2.2.2.2.2.2.2.2.2.2.2.2.2.2.2.2.1
@[irreducible] noncomputable def oL0 : Obj := rv.2.2.2.2.2.2.2.2.2.2.2.2.2.2.2.2.2.2.2.2.2.2.2.2.2.2.1
@[irreducible] noncomputable def oS : Obj := rv.2.2.2.2.2.2.2.2.2.2.2.2.2.2.2.2.2.2.2.2.2.2.2.2.2.2.2
set_option maxRecDepth 100000 in
set_option maxHeartbeats 8000000 in
theorem in0 : chIn.1 w A s base h₀ outer env L m news Q E a b vs ws ps is n k g' L' h' tk' oM0 oH0 oL0 oS := by
  unfold chIn
  (try dsimp only)
  intro hma hmb hv hw hlen hl8 h hl F' B' X' hnlt N' dM0 dH0 dL0 dS hve hlv hT
  obtain ⟨p, loose, mean, mg, mb, T'⟩ := hT
  (try dsimp only)
  (try k_fold)
  k_steps
  refine ⟨?_⟩
  refine comp_assignI (fun i => (is[i.toNat]?.getD 0) != 0) (fun i => i) rfl rfl rfl (by decide) rfl (by decide) rfl rfl rfl ?_
  k_steps
  rename_i hR F2 N2 k2
  clear k2
  have hN2 : News g' L' _ _ := N2
  refine ⟨⟨_, _, _, _, F2, N2, .range hR (by (first | assumption | lia | omega)), ⟨?_, ?_⟩, ?_⟩⟩
  · intro C i t s₃ m₃ E' hi hN hm hk
    obtain ⟨hi1, hi2⟩ := mem_rangeI.mp hi
    have hb3 : s₃.heap.IsList b ws.toArray := list_kept (list_at hN2 (by k_mem)) hk
    have hc3 : s₃.heap.IsCell (L' + 1) (some (.ref b)) := cell_kept ⟨_, (hN2 (L' + 1, _) (by k_mem)).1, by assumption⟩ hk
    refine wpAny_tests_one ?_
    k_steps
    exact keeps_tok _ _
  · intro C i t s₃ m₃ E' hi hq hN hm hk
    k_steps
    exact keeps_refl _
  · intro D h2 tk2 ys nn hD hys F3 N3
    simp only [List.map_id'] at hys
    clear hN2 N2 F2 hR
    rw [hve] at hys
    change IntsAre ys (realF is) at hys
    replace F3 : Fr g' L' h2 _ := F3
    replace N3 : News g' L' h2 _ := N3
    have hc1 : ∀ p ∈ news, p.1 ≠ L' + 1 := fun p hp => Nat.ne_of_lt (Nat.lt_succ_of_lt (hnlt p hp))
    have hc2 : ∀ p ∈ news, p.1 ≠ L' + 1 + 1 := fun p hp => Nat.ne_of_lt (Nat.lt_succ_of_lt (Nat.lt_succ_of_lt (hnlt p hp)))
    have hc3 : ∀ p ∈ news, p.1 ≠ L' + 1 + 1 + 1 := fun p hp => Nat.ne_of_lt (Nat.lt_succ_of_lt (Nat.lt_succ_of_lt (Nat.lt_succ_of_lt (hnlt p hp))))
    have hc4 : ∀ p ∈ news, p.1 ≠ L' + 1 + 1 + 1 + 1 := fun p hp => Nat.ne_of_lt (Nat.lt_succ_of_lt (Nat.lt_succ_of_lt (Nat.lt_succ_of_lt (Nat.lt_succ_of_lt (hnlt p hp)))))
    simp only [List.forall_mem_cons] at hD
    obtain ⟨hD4, hD3, hD2, hD1, hDn⟩ := hD
    replace hD4 := neN hD4
    replace hD3 := neN hD3
    replace hD2 := neN hD2
    replace hD1 := neN hD1
    dsimp only
    k_steps
    refine For_invV g' rfl rfl ?_
    k_steps
    refine ⟨?_⟩
    rename_i d0 h3 lm h4 F4 N4
    refine for_st (σ := ChS) (fun c => (c.d, lisO c.vm c.nm) :: (D, lisO ys nn) :: (L' + 1 + 1 + 1 + 1, c.oM) :: (L' + 1 + 1 + 1, c.oH) :: (L' + 1 + 1, c.oL) :: (L' + 1, oS) :: news)
      (fun c => [(Str.ofString "mixed", .ref c.d)]) [Str.ofString "other", Str.ofString "inside"]
      (fun i c => (∃ v, c.oM.data = .cell v) ∧ (∃ v, c.oH.data = .cell v) ∧ (∃ v, c.oL.data = .cell v) ∧ IntsAre c.vm (mixF ps is ((realF is).take i)) ∧ L' + 1 + 1 + 1 + 1 < c.d)
      ⟨oM0, oH0, oL0, d0, [.int 0 tk2], 0⟩ (Src.list (list_at N4 (by k_mem))) rfl F4 N4 ?_ (by kst_all) ⟨⟨_, dM0⟩, ⟨_, dH0⟩, ⟨_, dL0⟩, .cons 0 _ .nil, ?_⟩ ?_ ?_
    · intro b' e
      cases e
      exact (N4 (D, _) (by k_mem)).2.1
    · exact lm.2.1
    · rintro i v ⟨oM, oH, oL, d, vm, nm⟩ u h5 tk5 own hi hv' ⟨⟨vM, dM⟩, ⟨vH, dH⟩, ⟨vL, dL⟩, hvm, hd'⟩ hown ⟨oI, hI⟩ F5 N5
      replace hd' := ltN (show L' + 1 + 1 + 1 + 1 < d from hd')
      replace hvm : IntsAre vm (mixF ps is ((realF is).take i)) := hvm
      replace dM : oM.data = .cell vM := dM
      replace dH : oH.data = .cell vH := dH
      replace dL : oL.data = .cell vL := dL
      have hDI : D < h4.objs.size := Heap.lt_size (N4 (D, _) (by k_mem)).1
      have hLI : L' + 1 + 1 + 1 + 1 < h4.objs.size := Heap.lt_size (N4 (L' + 1 + 1 + 1 + 1, _) (by k_mem)).1
      have ho1 : ∀ p ∈ own, p.1 ≠ L' + 1 := fun p hp => by
        rcases hown p hp with e | e
        · rw [e]; exact (ne_four hLI).1
        · cases e; exact (Ne.symm hD1)
      have ho2 : ∀ p ∈ own, p.1 ≠ L' + 1 + 1 := fun p hp => by
        rcases hown p hp with e | e
        · rw [e]; exact (ne_four hLI).2.1
        · cases e; exact (Ne.symm hD2)
      have ho3 : ∀ p ∈ own, p.1 ≠ L' + 1 + 1 + 1 := fun p hp => by
        rcases hown p hp with e | e
        · rw [e]; exact (ne_four hLI).2.2.1
        · cases e; exact (Ne.symm hD3)
      have ho4 : ∀ p ∈ own, p.1 ≠ L' + 1 + 1 + 1 + 1 := fun p hp => by
        rcases hown p hp with e | e
        · rw [e]; exact (ne_four hLI).2.2.2
        · cases e; exact (Ne.symm hD4)
      have hi' : i < (realF is).length := by rw [← hys.length]; exact hi
      obtain ⟨t, ht⟩ := hys.get i ((realF is)[i]?.getD 0) (by simp [hi'])
      rw [ht] at hv'
      cases hv'
      have htie : (realF is)[i]?.getD 0 ∈ realF is := by simp [hi']
      generalize htd : (realF is)[i]?.getD 0 = tie at htie F5 ⊢
      have htr := mem_rangeI.mp (List.mem_filter.mp htie).1
      obtain ⟨ht0, ht1⟩ := htr
      clear F4 N4
      dsimp only [kstB] at F5 N5 ⊢
      replace F5 : Fr g' L' h5 _ := F5
      replace N5 : News g' L' h5 ((d, lisO vm nm) :: (D, lisO ys nn) :: (L' + 1 + 1 + 1 + 1, oM) :: (L' + 1 + 1 + 1, oH) :: (L' + 1 + 1, oL) :: (L' + 1, oS) :: (news ++ own)) := N5
      (try k_fold)
      k_steps
      refine For_invV g' rfl rfl ?_
      k_steps
      refine ⟨?_⟩
      rename_i a' t1' t2' e' hs' l1' hx' hL' oL' dL' hH' oH' dH' hM' oM' F6 N6 dM'
      refine for_st (σ := Obj) (fun c => (a', lisO [.int (min (ps[tie.toNat]?.getD (0, 0)).1 (ps[tie.toNat]?.getD (0, 0)).2) t1', .int (max (ps[tie.toNat]?.getD (0, 0)).1 (ps[tie.toNat]?.getD (0, 0)).2) t2'] e') ::
          (d, lisO vm nm) :: (D, lisO ys nn) :: (L' + 1 + 1 + 1 + 1, c) :: (L' + 1 + 1 + 1, oH') :: (L' + 1 + 1, oL') :: (L' + 1, oS) :: (news ++ own))
        (fun c => []) [Str.ofString "inside"]
        (fun j c => ∃ t, c.data = .cell (some (.int (maskF ps is tie ((realF is).take j)) t)))
        oM' (Src.list (list_at N6 (by k_mem))) rfl F6 N6 ?_ (by kst_all) ⟨_, dM'⟩ ?_ ?_
      · intro b' e
        cases e
        exact (N6 (D, _) (by k_mem)).2.1
      · rintro j v oM2 u2 h7 tk7 own2 hj hv2 ⟨tm, dM2⟩ hown2 ⟨oI2, hI2⟩ F7 N7
        have hj' : j < (realF is).length := by rw [← hys.length]; exact hj
        obtain ⟨t', ht'⟩ := hys.get j ((realF is)[j]?.getD 0) (by simp [hj'])
        rw [ht'] at hv2
        cases hv2
        have hother : (realF is)[j]?.getD 0 ∈ realF is := by simp [hj']
        generalize hod : (realF is)[j]?.getD 0 = other at hother F7 ⊢
        obtain ⟨hq0, hq1⟩ := mem_rangeI.mp (List.mem_filter.mp hother).1
        have hLI2 : L' + 1 + 1 + 1 + 1 < hM'.objs.size := Heap.lt_size (N6 (L' + 1 + 1 + 1 + 1, _) (by k_mem)).1
        have hp4 : ∀ p ∈ own2, p.1 ≠ L' + 1 + 1 + 1 + 1 := fun p hp => by
          rcases hown2 p hp with e | e
          · rw [e]; exact (ne_four hLI2).2.2.2
          · cases e; exact (Ne.symm hD4)
        have hIall : ∀ q ∈ List.map (·.1) ((a', lisO [.int (min (ps[tie.toNat]?.getD (0, 0)).1 (ps[tie.toNat]?.getD (0, 0)).2) t1', .int (max (ps[tie.toNat]?.getD (0, 0)).1 (ps[tie.toNat]?.getD (0, 0)).2) t2'] e') ::
          (d, lisO vm nm) :: (D, lisO ys nn) :: (L' + 1 + 1 + 1 + 1, oM') :: (L' + 1 + 1 + 1, oH') :: (L' + 1 + 1, oL') :: (L' + 1, oS) :: (news ++ own)), q ≠ hM'.objs.size := fun q hq => by
          obtain ⟨p, hp, rfl⟩ := List.mem_map.mp hq
          exact Nat.ne_of_lt (Heap.lt_size (N6 p hp).1)
        clear F6 N6
        dsimp only [kstB] at F7 N7 ⊢
        replace F7 : Fr g' L' h7 _ := F7
        replace N7 : News g' L' h7 ((a', lisO [.int (min (ps[tie.toNat]?.getD (0, 0)).1 (ps[tie.toNat]?.getD (0, 0)).2) t1', .int (max (ps[tie.toNat]?.getD (0, 0)).1 (ps[tie.toNat]?.getD (0, 0)).2) t2'] e') ::
          (d, lisO vm nm) :: (D, lisO ys nn) :: (L' + 1 + 1 + 1 + 1, oM2) :: (L' + 1 + 1 + 1, oH') :: (L' + 1 + 1, oL') :: (L' + 1, oS) :: (news ++ own ++ own2)) := N7
        (try k_fold)
        k_steps
        refine ⟨?_⟩
        refine comp_assignI (fun i => decide (min (ps[tie.toNat]?.getD (0, 0)).1 (ps[tie.toNat]?.getD (0, 0)).2 < i) && decide (i < max (ps[tie.toNat]?.getD (0, 0)).1 (ps[tie.toNat]?.getD (0, 0)).2)) (fun i => i) rfl rfl rfl (by decide) rfl (by decide) rfl rfl rfl ?_
        k_steps
        rename_i r2 t3 u3 hm2
        refine ⟨⟨[(ps[other.toNat]?.getD (0, 0)).1, (ps[other.toNat]?.getD (0, 0)).2], _, _, _, F7, N7, .tuple (tup_at N7 (show (r2, _) ∈ _ by k_mem)) (.cons _ t3 (.cons _ u3 .nil)) (by show 2 < 1000; decide), ⟨?_, ?_⟩, ?_⟩⟩
        · intro C i t s₃ m₃ E' hi hN hm hk
          have hcL : s₃.heap.IsCell (L' + 1 + 1) _ := cell_kept ⟨_, (N7 (L' + 1 + 1, oL') (by k_mem)).1, dL'⟩ hk
          have hcH : s₃.heap.IsCell (L' + 1 + 1 + 1) _ := cell_kept ⟨_, (N7 (L' + 1 + 1 + 1, oH') (by k_mem)).1, dH'⟩ hk
          refine wpAny_tests_one ?_
          k_steps
          · rename_i hx; rw [decide_eq_true hx, Bool.true_and]
          · exact keeps_refl _
          · rename_i hx; rw [decide_eq_false hx, Bool.false_and]
          · exact keeps_refl _
        · intro C i t s₃ m₃ E' hi hq hN hm hk
          k_steps
          exact keeps_refl _
        · intro D2 h8 tk8 zs nn2 hD2' hzs F8 N8
          simp only [List.map_id'] at hzs
          replace F8 : Fr g' L' h8 _ := F8
          replace N8 : News g' L' h8 _ := N8
          simp only [List.forall_mem_cons] at hD2'
          obtain ⟨_, _, _, hDe, _⟩ := hD2'
          replace hDe := neN hDe
          clear F7 N7
          have hzl := hzs.length
          have hz2 : zs.length ≤ 2 := by rw [hzl]; exact List.length_filter_le _ _
          (try dsimp only)
          k_steps
          · rename_i g1 _ h9 oM3 F9 N9 dM3
            exact ⟨for_end oM3 F9 N9 (fun p hp => .tail _ (sub_own (H := [_, _, _, _, _, _, _]) p hp)) (fun p hp => .tail _ (sub_app (H := [_, _, _, _, _, _, _]) p hp)) (fun p hp => by have := List.mem_map_of_mem (f := (·.1)) hp; exact hIall p.1 this) (by kst_all) (by kst_same) (cell_eq dM3 (by rw [mask_step hj' hod, cond_len hzl, decide_eq_true g1]; simp))⟩
          · rename_i g1 g2 _ g3 _ h9 oM3 F9 N9 dM3
            exact ⟨for_end oM3 F9 N9 (fun p hp => .tail _ (sub_own (H := [_, _, _, _, _, _, _]) p hp)) (fun p hp => .tail _ (sub_app (H := [_, _, _, _, _, _, _]) p hp)) (fun p hp => by have := List.mem_map_of_mem (f := (·.1)) hp; exact hIall p.1 this) (by kst_all) (by kst_same) (cell_eq dM3 (by rw [mask_step hj' hod, cond_len hzl, decide_eq_true g2, decide_eq_true g3]; simp))⟩
          · rename_i g1 g2 _ g3
            exact ⟨for_end oM2 F8 N8 (fun p hp => .tail _ (sub_own (H := [_, _, _, _, _, _, _]) p hp)) (fun p hp => .tail _ (sub_app (H := [_, _, _, _, _, _, _]) p hp)) (fun p hp => by have := List.mem_map_of_mem (f := (·.1)) hp; exact hIall p.1 this) (by kst_all) (by kst_same) (cell_eq dM2 (by rw [mask_step hj' hod, cond_len hzl, decide_eq_false g1, decide_eq_false g3]; simp))⟩
          · rename_i g1 g2
            exact ⟨for_end oM2 F8 N8 (fun p hp => .tail _ (sub_own (H := [_, _, _, _, _, _, _]) p hp)) (fun p hp => .tail _ (sub_app (H := [_, _, _, _, _, _, _]) p hp)) (fun p hp => by have := List.mem_map_of_mem (f := (·.1)) hp; exact hIall p.1 this) (by kst_all) (by kst_same) (cell_eq dM2 (by rw [mask_step hj' hod, cond_len hzl, decide_eq_false g1, decide_eq_false g2]; simp))⟩
      · rintro oM2 u2 h7 tk7 ⟨tm, dM2⟩ F7 N7
        rw [List.take_of_length_le (by rw [hys.length]; exact Nat.le_refl _)] at dM2
        clear F6 N6
        dsimp only [kstB] at F7 N7 ⊢
        replace F7 : Fr g' L' h7 _ := F7
        replace N7 : News g' L' h7 _ := N7
        have hmb' := mix_bound ps is hl8 i
        (try k_fold)
        k_steps
        refine ⟨?_⟩
        refine comp_evalI (fun _ => true) (fun one => Builtin.bitXor one (maskF ps is tie (realF is))) rfl rfl (by decide) rfl (by decide) rfl ?_
        k_steps
        refine ⟨⟨_, _, _, _, _, F7, N7, .list (list_at N7 (show (d, _) ∈ _ by k_mem)) hvm (by (first | assumption | lia | omega)), ⟨?_, ?_⟩, ?_⟩⟩
        · intro C i t s₃ m₃ E' hi hN hm hk
          exact wpAny_tests_nil ⟨rfl, keeps_refl _⟩
        · intro C i t s₃ m₃ E' hi hq hN hm hk
          have hcM : s₃.heap.IsCell (L' + 1 + 1 + 1 + 1) _ := cell_kept ⟨_, (N7 (L' + 1 + 1 + 1 + 1, oM2) (by k_mem)).1, dM2⟩ hk
          k_steps
          exact keeps_tok _ _
        · intro D3 h8 tk8 zs nn3 hD3 hzs F8 N8 hk8
          have hft : (mixF ps is ((realF is).take i)).filter (fun _ => true) = mixF ps is ((realF is).take i) := by simp
          rw [hft] at hzs
          replace F8 : Fr g' L' h8 _ := F8
          replace N8 : News g' L' h8 _ := N8
          clear F7 N7
          (try dsimp only)
          k_steps
          rename_i D4 us4 h9 hI4 l4 h10 F10 N10
          have hDI4 : h4.objs.size < D4 := of_allLt l4.2.2.2.2.2.2.2.2 (_, oI) (List.mem_append_right _ hI)
          refine ⟨for_end ⟨oM2, oH', oL', D4, us4, 0⟩ F10 N10 (fun p hp => sub_own (H := [_, _, _, _, _, _, _, _, _]) p hp) (fun p hp => ?_) (fun p hp => ?_) (by kst_all) (by kst_same) ⟨⟨_, dM2⟩, ⟨_, dH'⟩, ⟨_, dL'⟩, ?_, ?_⟩⟩
          · rcases List.mem_cons.mp hp with rfl | hp
            · exact .head _
            · exact .tail _ (.tail _ (.tail _ (.tail _ (sub_app (H := [_, _, _, _, _]) p hp))))
          · simp only [List.mem_cons] at hp
            rcases hp with rfl | rfl | rfl | rfl | rfl | rfl | hp
            · exact Nat.ne_of_gt hDI4
            · exact Nat.ne_of_lt hDI
            · exact Ne.symm (ne_four hLI).2.2.2
            · exact Ne.symm (ne_four hLI).2.2.1
            · exact Ne.symm (ne_four hLI).2.1
            · exact Ne.symm (ne_four hLI).1
            · exact Nat.ne_of_lt (Nat.lt_trans (hnlt p hp) (Nat.lt_of_le_of_lt (Nat.le_add_right L' 4) hLI))
          · show IntsAre us4 _
            rw [mix_step hi' htd]
            exact hI4
          · exact l4.2.2.2.2.1
    · rintro ⟨oM, oH, oL, d, vm, nm⟩ u h5 tk5 ⟨_, _, _, hvm, _⟩ F5 N5
      rw [List.take_of_length_le (by rw [hys.length]; exact Nat.le_refl _)] at hvm
      clear F4 N4
      dsimp only [kstB] at F5 N5 ⊢
      replace F5 : Fr g' L' h5 _ := F5
      replace N5 : News g' L' h5 ((d, lisO vm nm) :: (D, lisO ys nn) :: (L' + 1 + 1 + 1 + 1, oM) :: (L' + 1 + 1 + 1, oH) :: (L' + 1 + 1, oL) :: (L' + 1, oS) :: news) := N5
      replace hvm : IntsAre vm (mixF ps is (realF is)) := hvm
      (try k_fold)
      k_steps
      refine leaveK_ F5 N5 ?_
      intro kF kN
      exact h _ _ _ kF (news_sub kN fun p hp => .tail _ (.tail _ (.tail _ (.tail _ (.tail _ (.tail _ hp))))))
theorem in1 : PP rv := by
  have q := in0
  unfold w A s base h₀ outer env L m news Q E a b vs ws ps is n k g' L' h' tk' oM0 oH0 oL0 oS at q
  exact q
end CX
theorem ch_spec {w : World} {A : Around} {s : Shared} {base h₀ : Heap} {outer : List Env} {env : Env} {L : Addr} {m : Str → Option Value} {news : List (Addr × Obj)} {Q E : Value → Shared → Prop} {a b : Addr} {vs ws : List Value} {ps : List (Int × Int)} {is : List Int} {n k : Nat}
   (C : Cx w A 460 base env outer h₀ L) (F : Fr h₀ L s.heap m) (N : News h₀ L s.heap news)
   (hma : (a, lisO vs n) ∈ news) (hmb : (b, lisO ws k) ∈ news) (hv : Pairs news vs ps) (hw : IntsAre ws is) (hlen : ps.length = is.length) (hl8 : is.length < 8)
   (h : ∀ tk h' tk', Fr h₀ L h' m → News h₀ L h' news → Q (.int ((mixF ps is (realF is)).count 0 : Nat) tk) { s with heap := h', toks := tk' }) :
   wpAny (model PySem.Challenge.rw_rs0100_01.prog w) A (call (.ref 123) [.ref a, .ref b]) Q E s :=
  chIn.2 (fun w A s base h₀ outer env L m news Q E a b vs ws ps is n k g' L' h' tk' oM0 oH0 oL0 oS => eps_all (P := CX.PP) (ne := CX.ne) (by have q := CX.in1; unfold CX.rv at q; exact q) (w, A, s, base, h₀, outer, env, L, m, news, Q, E, a, b, vs, ws, ps, is, n, k, g', L', h', tk', oM0, oH0, oL0, oS)) w A s base h₀ outer env L m news Q E a b vs ws ps is n k C F N hma hmb hv hw hlen hl8 h
end
end Mine
end
/-! part N1 -/
section
set_option autoImplicit false
namespace Mine
/-! counting, in plain Lean -/
theorem nodup_len {α : Type} : ∀ {l₁ l₂ : List α}, l₁.Nodup → (∀ x ∈ l₁, x ∈ l₂) → l₁.length ≤ l₂.length
  | [], _, _, _ => Nat.zero_le _
  | x :: t, l₂, hn, hs => by
    obtain ⟨a, b, rfl⟩ := List.append_of_mem (hs x (List.mem_cons_self ..))
    have hx : x ∉ t := (List.nodup_cons.mp hn).1
    have ht : t.Nodup := (List.nodup_cons.mp hn).2
    have : t.length ≤ (a ++ b).length := nodup_len ht fun y hy => by
      have := hs y (List.mem_cons_of_mem _ hy)
      simp only [List.mem_append, List.mem_cons] at this ⊢
      rcases this with h | rfl | h
      · exact .inl h
      · exact absurd hy hx
      · exact .inr h
    simp only [List.length_cons, List.length_append] at this ⊢
    (first | lia | omega)
theorem inj_len {α β : Type} {l₁ : List α} {l₂ : List β} (f : α → β) (hn : l₁.Nodup) (hf : ∀ x ∈ l₁, f x ∈ l₂) (hi : ∀ x ∈ l₁, ∀ y ∈ l₁, f x = f y → x = y) : l₁.length ≤ l₂.length := by
  have hm : (l₁.map f).Nodup := by
    rw [List.nodup_iff_pairwise_ne] at hn ⊢
    rw [List.pairwise_map]
    exact hn.imp_of_mem fun {a b} ha hb hab e => hab (hi a ha b hb e)
  have := nodup_len hm (l₂ := l₂) fun y hy => by
    obtain ⟨x, hx, rfl⟩ := List.mem_map.mp hy
    exact hf x hx
  simpa using this
/-- all bool lists of length n -/
noncomputable def bools : Nat → List (List Bool)
  | 0 => [[]]
  | n + 1 => (bools n).map (false :: ·) ++ (bools n).map (true :: ·)
theorem bools_length (n : Nat) : (bools n).length = 2 ^ n := by
  induction n with
  | zero => rfl
  | succ n ih => simp only [bools, List.length_append, List.length_map, ih, Nat.pow_succ]; (first | lia | omega)
theorem mem_bools {n : Nat} {b : List Bool} : b ∈ bools n ↔ b.length = n := by
  induction n generalizing b with
  | zero => simp [bools]
  | succ n ih =>
    cases b with
    | nil => simp [bools]
    | cons x b => cases x <;> simp [bools, ih]
theorem bools_nodup (n : Nat) : (bools n).Nodup := by
  induction n with
  | zero => simp [bools]
  | succ n ih =>
    unfold bools
    rw [List.nodup_append]
    refine ⟨?_, ?_, ?_⟩
    · rw [List.nodup_iff_pairwise_ne] at ih ⊢; rw [List.pairwise_map]; exact ih.imp fun h e => h (List.cons.inj e).2
    · rw [List.nodup_iff_pairwise_ne] at ih ⊢; rw [List.pairwise_map]; exact ih.imp fun h e => h (List.cons.inj e).2
    · intro a ha b hb e
      simp only [List.mem_map] at ha hb
      obtain ⟨x, _, rfl⟩ := ha
      obtain ⟨y, _, rfl⟩ := hb
      cases e
end Mine
end
/-! part N2 -/
section
set_option autoImplicit false
namespace Mine
/-! the disc with its ribbons, in plain Lean -/
structure Disc where
  E : Nat
  tieOf : Nat → Nat
  mate : Nat → Nat
  turned : Nat → Bool
  mate_lt : ∀ k, k < E → mate k < E
  mate_mate : ∀ k, k < E → mate (mate k) = k
  mate_ne : ∀ k, k < E → mate k ≠ k
  tie_mate : ∀ k, k < E → tieOf (mate k) = tieOf k
  tie_inj : ∀ j k, j < E → k < E → tieOf j = tieOf k → j = k ∨ j = mate k
noncomputable def Disc.disc (d : Disc) (p : Nat) : Nat := if p % 2 = 1 then (p + 1) % (2 * d.E) else (p + 2 * d.E - 1) % (2 * d.E)
noncomputable def Disc.over (d : Disc) (p : Nat) : Nat := 2 * d.mate (p / 2) + (if d.turned (d.tieOf (p / 2)) = true then p % 2 else 1 - p % 2)
/-- S is turned so often ahead of end k -/
noncomputable def Disc.pre (d : Disc) (S : Nat → Bool) : Nat → Bool
  | 0 => false
  | k + 1 => (d.pre S k) ^^ (S (d.tieOf k))
noncomputable def Disc.col (d : Disc) (c0 : Bool) (S : Nat → Bool) (p : Nat) : Bool := c0 ^^ (d.pre S (p / 2 + p % 2))
/-- S meets the ribbon of end k evenly -/
noncomputable def Disc.even (d : Disc) (S : Nat → Bool) (k : Nat) : Prop :=
  ((d.pre S (k + 1)) ^^ (d.pre S (d.mate k))) = (d.turned (d.tieOf k) && S (d.tieOf k))
theorem Disc.pre_mate (d : Disc) (S : Nat → Bool) (k : Nat) : d.pre S (k + 1) = (d.pre S k ^^ S (d.tieOf k)) := rfl
theorem Disc.col_over (d : Disc) (c0 : Bool) (S : Nat → Bool) {k : Nat} (hk : k < d.E) (h : d.even S k) (t : Nat) (ht : t < 2) : d.col c0 S (d.over (2 * k + t)) = d.col c0 S (2 * k + t) := by
  have e1 : (2 * k + t) / 2 = k := by (first | lia | omega)
  have e2 : (2 * k + t) % 2 = t := by (first | lia | omega)
  have hm := d.tie_mate k hk
  unfold Disc.even at h
  rw [d.pre_mate] at h
  unfold Disc.col Disc.over
  rw [e1, e2]
  have q : t = 0 ∨ t = 1 := by (first | lia | omega)
  rcases q with rfl | rfl
  · cases ht' : d.turned (d.tieOf k) with
    | true =>
      simp only [if_true]
      have e3 : (2 * d.mate k + 0) / 2 = d.mate k := by (first | lia | omega)
      have e4 : (2 * d.mate k + 0) % 2 = 0 := by (first | lia | omega)
      rw [e3, e4]
      rw [ht'] at h
      simp only [Nat.add_zero]
      revert h
      cases d.pre S k <;> cases d.pre S (d.mate k) <;> cases S (d.tieOf k) <;> simp
    | false =>
      simp only [Bool.false_eq_true, if_false]
      have e3 : (2 * d.mate k + (1 - 0)) / 2 = d.mate k := by (first | lia | omega)
      have e4 : (2 * d.mate k + (1 - 0)) % 2 = 1 := by (first | lia | omega)
      rw [e3, e4, d.pre_mate, hm]
      rw [ht'] at h
      simp only [Nat.add_zero]
      revert h
      cases d.pre S k <;> cases d.pre S (d.mate k) <;> cases S (d.tieOf k) <;> simp
  · cases ht' : d.turned (d.tieOf k) with
    | true =>
      simp only [if_true]
      have e3 : (2 * d.mate k + 1) / 2 = d.mate k := by (first | lia | omega)
      have e4 : (2 * d.mate k + 1) % 2 = 1 := by (first | lia | omega)
      rw [e3, e4, d.pre_mate, d.pre_mate, hm]
      rw [ht'] at h
      revert h
      cases d.pre S k <;> cases d.pre S (d.mate k) <;> cases S (d.tieOf k) <;> simp
    | false =>
      simp only [Bool.false_eq_true, if_false]
      have e3 : (2 * d.mate k + (1 - 1)) / 2 = d.mate k := by (first | lia | omega)
      have e4 : (2 * d.mate k + (1 - 1)) % 2 = 0 := by (first | lia | omega)
      rw [e3, e4, d.pre_mate]
      rw [ht'] at h
      simp only [Nat.add_zero]
      revert h
      cases d.pre S k <;> cases d.pre S (d.mate k) <;> cases S (d.tieOf k) <;> simp
theorem Disc.pre_all (d : Disc) {c : Nat → Bool} {S : Nat → Bool} (hc : ∀ p, p < 2 * d.E → c (d.disc p) = c p) (hS : ∀ k, k < d.E → S (d.tieOf k) = (c (2 * k) ^^ c (2 * k + 1))) :
    ∀ k, k < d.E → (c 0 ^^ d.pre S k) = c (2 * k) := by
  intro k
  induction k with
  | zero => intro _; simp [Disc.pre]
  | succ k ih =>
    intro hk
    have h1 := ih (by (first | lia | omega))
    have h2 := hS k (by (first | lia | omega))
    have h3 := hc (2 * k + 1) (by (first | lia | omega))
    have h4 : d.disc (2 * k + 1) = 2 * (k + 1) := by
      unfold Disc.disc
      rw [if_pos (by (first | lia | omega)), Nat.mod_eq_of_lt (by (first | lia | omega))]
      (first | lia | omega)
    rw [h4] at h3
    rw [d.pre_mate, h2, h3, ← Bool.xor_assoc, h1]
    cases c (2 * k) <;> cases c (2 * k + 1) <;> rfl
theorem Disc.col_of (d : Disc) {c : Nat → Bool} {S : Nat → Bool} (hc : ∀ p, p < 2 * d.E → c (d.disc p) = c p) (hS : ∀ k, k < d.E → S (d.tieOf k) = (c (2 * k) ^^ c (2 * k + 1))) {p : Nat} (hp : p < 2 * d.E) :
    d.col (c 0) S p = c p := by
  have hk : p / 2 < d.E := by (first | lia | omega)
  have h1 := d.pre_all hc hS (p / 2) hk
  have q : p % 2 = 0 ∨ p % 2 = 1 := by (first | lia | omega)
  unfold Disc.col
  rcases q with q | q
  · rw [q, Nat.add_zero, h1]
    congr 1; (first | lia | omega)
  · rw [q, d.pre_mate, hS _ hk, ← Bool.xor_assoc, h1]
    have e : p = 2 * (p / 2) + 1 := by (first | lia | omega)
    rw [e]
    have e2 : (2 * (p / 2) + 1) / 2 = p / 2 := by (first | lia | omega)
    rw [e2]
    cases c (2 * (p / 2)) <;> cases c (2 * (p / 2) + 1) <;> rfl
theorem Disc.even_of (d : Disc) {c : Nat → Bool} {S : Nat → Bool} (hc : ∀ p, p < 2 * d.E → c (d.disc p) = c p) (ho : ∀ p, p < 2 * d.E → c (d.over p) = c p) (hS : ∀ k, k < d.E → S (d.tieOf k) = (c (2 * k) ^^ c (2 * k + 1))) {k : Nat} (hk : k < d.E) : d.even S k := by
  have hm := d.mate_lt k hk
  have h1 := d.col_of hc hS (p := 2 * k + 1) (by (first | lia | omega))
  have h2 := d.col_of hc hS (p := 2 * d.mate k) (by (first | lia | omega))
  have h3 := ho (2 * k + 1) (by (first | lia | omega))
  have h4 := hS (d.mate k) hm
  rw [d.tie_mate k hk] at h4
  have e1 : (2 * k + 1) / 2 = k := by (first | lia | omega)
  have e2 : (2 * k + 1) % 2 = 1 := by (first | lia | omega)
  have e3 : 2 * d.mate k / 2 = d.mate k := by (first | lia | omega)
  have e4 : 2 * d.mate k % 2 = 0 := by (first | lia | omega)
  unfold Disc.col at h1 h2
  rw [e1, e2] at h1
  rw [e3, e4, Nat.add_zero] at h2
  unfold Disc.over at h3
  rw [e1, e2] at h3
  unfold Disc.even
  cases ht : d.turned (d.tieOf k) with
  | true =>
    rw [ht] at h3
    simp only [if_true] at h3
    rw [Bool.true_and, h4, h3, ← h1, ← h2]
    cases c 0 <;> cases d.pre S (k + 1) <;> cases d.pre S (d.mate k) <;> rfl
  | false =>
    rw [ht] at h3
    simp only [Bool.false_eq_true, if_false, Nat.sub_self, Nat.add_zero] at h3
    rw [Bool.false_and]
    rw [← h1, ← h2] at h3
    revert h3
    cases c 0 <;> cases d.pre S (k + 1) <;> cases d.pre S (d.mate k) <;> simp
end Mine
end
/-! part N3 -/
section
set_option autoImplicit false
namespace Mine
noncomputable def xf (g : Nat → Bool) : List Nat → Bool
  | [] => false
  | k :: t => g k ^^ xf g t
theorem xf_append (g : Nat → Bool) (a b : List Nat) : xf g (a ++ b) = (xf g a ^^ xf g b) := by
  induction a with
  | nil => simp [xf]
  | cons k a ih => simp [xf, ih, Bool.xor_assoc]
theorem xf_closed {g : Nat → Bool} {mate : Nat → Nat} : ∀ (n : Nat) (l : List Nat), l.length = n → l.Nodup → (∀ k ∈ l, mate k ∈ l ∧ mate k ≠ k ∧ mate (mate k) = k ∧ g (mate k) = g k) → xf g l = false := by
  intro n
  induction n using Nat.strongRecOn with
  | ind n ih =>
    intro l hl hn hc
    match l, hl, hn, hc with
    | [], _, _, _ => rfl
    | k :: t, hl, hn, hc =>
      obtain ⟨h1, h2, h3, h4⟩ := hc k (List.mem_cons_self ..)
      have hm : mate k ∈ t := by
        rcases List.mem_cons.mp h1 with h | h
        · exact absurd h h2
        · exact h
      obtain ⟨hk, ht⟩ := List.nodup_cons.mp hn
      obtain ⟨a, b, rfl⟩ := List.append_of_mem hm
      have hab : (a ++ b).Nodup := by
        rw [List.nodup_append] at ht ⊢
        obtain ⟨p1, p2, p3⟩ := ht
        exact ⟨p1, (List.nodup_cons.mp p2).2, fun x hx y hy => p3 x hx y (List.mem_cons_of_mem _ hy)⟩
      have hma : mate k ∉ a ++ b := by
        rw [List.nodup_append] at ht
        obtain ⟨p1, p2, p3⟩ := ht
        intro h
        rcases List.mem_append.mp h with h | h
        · exact p3 _ h _ (List.mem_cons_self ..) rfl
        · exact (List.nodup_cons.mp p2).1 h
      have hka : k ∉ a ++ b := fun h => hk (by
        rcases List.mem_append.mp h with h | h
        · exact List.mem_append_left _ h
        · exact List.mem_append_right _ (List.mem_cons_of_mem _ h))
      have r := ih (a ++ b).length (by simp only [List.length_cons, List.length_append] at hl ⊢; (first | lia | omega)) (a ++ b) rfl hab fun x hx => by
        have hxl : x ∈ k :: (a ++ mate k :: b) := by
          rcases List.mem_append.mp hx with h | h
          · exact List.mem_cons_of_mem _ (List.mem_append_left _ h)
          · exact List.mem_cons_of_mem _ (List.mem_append_right _ (List.mem_cons_of_mem _ h))
        obtain ⟨q1, q2, q3, q4⟩ := hc x hxl
        refine ⟨?_, q2, q3, q4⟩
        rcases List.mem_cons.mp q1 with h | h
        · exact absurd hx (by have : x = mate k := by rw [← h, q3]
                              rw [this]; exact hma)
        · rcases List.mem_append.mp h with h | h
          · exact List.mem_append_left _ h
          · rcases List.mem_cons.mp h with h | h
            · exact absurd hx (by have : x = k := by rw [← q3, h, h3]
                                  rw [this]; exact hka)
            · exact List.mem_append_right _ h
      rw [xf, xf_append, xf, h4]
      rw [xf_append] at r
      revert r
      cases g k <;> cases xf g a <;> cases xf g b <;> simp
theorem Disc.pre_xf (d : Disc) (S : Nat → Bool) (k : Nat) : d.pre S k = xf (fun j => S (d.tieOf j)) (List.range k) := by
  induction k with
  | zero => rfl
  | succ k ih => rw [List.range_succ, xf_append, ← ih]; simp [xf, Disc.pre]
theorem Disc.pre_end (d : Disc) (S : Nat → Bool) : d.pre S d.E = false := by
  rw [d.pre_xf]
  refine xf_closed (mate := d.mate) _ _ rfl List.nodup_range fun k hk => ?_
  have hk := List.mem_range.mp hk
  exact ⟨List.mem_range.mpr (d.mate_lt k hk), d.mate_ne k hk, d.mate_mate k hk, by show S (d.tieOf _) = _; rw [d.tie_mate k hk]⟩
theorem Disc.col_disc (d : Disc) (c0 : Bool) (S : Nat → Bool) {p : Nat} (hp : p < 2 * d.E) : d.col c0 S (d.disc p) = d.col c0 S p := by
  unfold Disc.col Disc.disc
  congr 1
  by_cases h : p % 2 = 1
  · rw [if_pos h]
    by_cases h2 : p + 1 = 2 * d.E
    · have e : (p + 1) % (2 * d.E) = 0 := by rw [h2]; exact Nat.mod_self _
      have e2 : p / 2 + p % 2 = d.E := by (first | lia | omega)
      rw [e, e2, d.pre_end]; rfl
    · have e : (p + 1) % (2 * d.E) = p + 1 := Nat.mod_eq_of_lt (by (first | lia | omega))
      rw [e]; congr 1; (first | lia | omega)
  · rw [if_neg h]
    by_cases h2 : p = 0
    · subst h2
      have e : (0 + 2 * d.E - 1) % (2 * d.E) = 2 * d.E - 1 := by rw [Nat.zero_add]; exact Nat.mod_eq_of_lt (by (first | lia | omega))
      have e2 : (2 * d.E - 1) / 2 + (2 * d.E - 1) % 2 = d.E := by (first | lia | omega)
      rw [e, e2, d.pre_end]; rfl
    · have e : (p + 2 * d.E - 1) % (2 * d.E) = p - 1 := by
        rw [show p + 2 * d.E - 1 = (p - 1) + 2 * d.E by (first | lia | omega), Nat.add_mod_right]
        exact Nat.mod_eq_of_lt (by (first | lia | omega))
      rw [e]; congr 1; (first | lia | omega)
end Mine
end
/-! part N4 -/
section
set_option autoImplicit false
namespace Mine
/-- what the walk along the rims has to show -/
noncomputable def RimsOk (n : Nat) (disc over : Nat → Nat) (R : Nat) : Prop :=
  ∃ (rim : Nat → Nat) (starts : List Nat), starts.length = R ∧ (∀ p, p < n → rim p < R ∧ rim (disc p) = rim p ∧ rim (over p) = rim p) ∧
    (∀ r, r < R → starts[r]?.getD 0 < n ∧ rim (starts[r]?.getD 0) = r) ∧
    (∀ c : Nat → Bool, (∀ p, p < n → c (disc p) = c p ∧ c (over p) = c p) → ∀ p, p < n → c p = c (starts[rim p]?.getD 0))
/-- a choice, as a list of bools over the ties 0 .. t-1 -/
noncomputable def pick (b : List Bool) (tie : Nat) : Bool := b[tie]?.getD false
noncomputable def Disc.evens (d : Disc) (t : Nat) (ok : List Bool → Bool) : List (List Bool) := (bools t).filter ok
theorem Disc.count (d : Disc) (hE : 0 < d.E) (t : Nat) (ht : ∀ k, k < d.E → d.tieOf k < t) (hall : ∀ i, i < t → ∃ k, k < d.E ∧ d.tieOf k = i) (ok : List Bool → Bool) (hok : ∀ b, b.length = t → (ok b = true ↔ ∀ k, k < d.E → d.even (pick b) k))
    {R : Nat} (hR : RimsOk (2 * d.E) d.disc d.over R) : 2 * ((bools t).filter ok).length = 2 ^ R := by
  obtain ⟨rim, starts, hs, h1, h2, h3⟩ := hR
  let Y : List (Bool × List Bool) := (((bools t).filter ok).map fun b => (false, b)) ++ (((bools t).filter ok).map fun b => (true, b))
  have hYl : Y.length = 2 * ((bools t).filter ok).length := by simp [Y]; (first | lia | omega)
  have hYm : ∀ c b, (c, b) ∈ Y ↔ (b.length = t ∧ ok b = true) := by
    intro c b
    cases c <;> simp [Y, mem_bools]
  have hfn : ((bools t).filter ok).Nodup := by
    rw [List.nodup_iff_pairwise_ne]
    exact (List.nodup_iff_pairwise_ne.mp (bools_nodup t)).filter _
  have hYn : Y.Nodup := by
    rw [List.nodup_append]
    refine ⟨?_, ?_, ?_⟩
    · rw [List.nodup_iff_pairwise_ne] at hfn ⊢; rw [List.pairwise_map]; exact hfn.imp fun h e => h (Prod.mk.inj e).2
    · rw [List.nodup_iff_pairwise_ne] at hfn ⊢; rw [List.pairwise_map]; exact hfn.imp fun h e => h (Prod.mk.inj e).2
    · intro a ha b hb e
      simp only [List.mem_map] at ha hb
      obtain ⟨x, _, rfl⟩ := ha
      obtain ⟨y, _, rfl⟩ := hb
      cases e
  rw [← hYl, ← bools_length R]
  -- colourings of a choice
  have colOk : ∀ c0 b, ok b = true → b.length = t → ∀ p, p < 2 * d.E → d.col c0 (pick b) (d.disc p) = d.col c0 (pick b) p ∧ d.col c0 (pick b) (d.over p) = d.col c0 (pick b) p := by
    intro c0 b hb hl p hp
    refine ⟨d.col_disc c0 _ hp, ?_⟩
    have e : p = 2 * (p / 2) + p % 2 := by (first | lia | omega)
    rw [e]
    exact d.col_over c0 _ (by (first | lia | omega)) ((hok b hl).mp hb (p / 2) (by (first | lia | omega))) (p % 2) (by (first | lia | omega))
  have h0 : 0 < 2 * d.E := by (first | lia | omega)
  apply Nat.le_antisymm
  · -- Y into the bool lists of length R
    refine inj_len (fun y => (List.range R).map fun r => d.col y.1 (pick y.2) (starts[r]?.getD 0)) hYn (fun y _ => mem_bools.mpr (by simp)) ?_
    rintro ⟨c0, b⟩ hy ⟨c0', b'⟩ hy' e
    obtain ⟨hl, hb⟩ := (hYm _ _).mp hy
    obtain ⟨hl', hb'⟩ := (hYm _ _).mp hy'
    have hst : ∀ r, r < R → d.col c0 (pick b) (starts[r]?.getD 0) = d.col c0' (pick b') (starts[r]?.getD 0) := by
      intro r hr
      have := congrArg (fun l => l[r]?.getD false) e
      simpa [hr] using this
    have hcol : ∀ p, p < 2 * d.E → d.col c0 (pick b) p = d.col c0' (pick b') p := by
      intro p hp
      rw [h3 _ (colOk c0 b hb hl) p hp, h3 _ (colOk c0' b' hb' hl') p hp]
      exact hst _ (h1 p hp).1
    have hc0 : c0 = c0' := by simpa [Disc.col, Disc.pre] using hcol 0 h0
    subst hc0
    have hp : ∀ k, k < d.E → pick b (d.tieOf k) = pick b' (d.tieOf k) := by
      intro k hk
      have a1 := hcol (2 * k) (by (first | lia | omega))
      have a2 := hcol (2 * k + 1) (by (first | lia | omega))
      unfold Disc.col at a1 a2
      have e1 : 2 * k / 2 + 2 * k % 2 = k := by (first | lia | omega)
      have e2 : (2 * k + 1) / 2 + (2 * k + 1) % 2 = k + 1 := by (first | lia | omega)
      rw [e1] at a1
      rw [e2, d.pre_mate, d.pre_mate] at a2
      revert a1 a2
      cases c0 <;> cases d.pre (pick b) k <;> cases d.pre (pick b') k <;> cases pick b (d.tieOf k) <;> cases pick b' (d.tieOf k) <;> simp
    have : b = b' := by
      apply List.ext_getElem?
      intro i
      by_cases hi : i < t
      · obtain ⟨k, hk, rfl⟩ := hall i hi
        have := hp k hk
        unfold pick at this
        rw [List.getElem?_eq_getElem (by (first | lia | omega)), List.getElem?_eq_getElem (by (first | lia | omega))] at this ⊢
        simpa using this
      · rw [List.getElem?_eq_none (by (first | lia | omega)), List.getElem?_eq_none (by (first | lia | omega))]
    rw [this]
  · -- bool lists into Y
    let end1 : Nat → Nat := fun i => ((List.range d.E).find? fun k => d.tieOf k == i).getD 0
    have hend : ∀ k, k < d.E → end1 (d.tieOf k) = k ∨ end1 (d.tieOf k) = d.mate k := by
      intro k hk
      show ((List.range d.E).find? fun j => d.tieOf j == d.tieOf k).getD 0 = k ∨ _
      cases hf : (List.range d.E).find? fun j => d.tieOf j == d.tieOf k with
      | none =>
        rw [List.find?_eq_none] at hf
        exact absurd (hf k (List.mem_range.mpr hk)) (by simp)
      | some j =>
        have hj := List.mem_range.mp (List.mem_of_find?_eq_some hf)
        have he := List.find?_some hf
        simp only [Option.getD_some]
        have := d.tie_inj j k hj hk (by simpa using he)
        rcases this with h | h
        · exact .inl h
        · refine .inr ?_
          show ((List.range d.E).find? fun j => d.tieOf j == d.tieOf k).getD 0 = d.mate k
          rw [hf]; exact h
    let colB : List Bool → Nat → Bool := fun b p => pick b (rim p)
    let chB : List Bool → List Bool := fun b => (List.range t).map fun i => (colB b (2 * end1 i)) ^^ (colB b (2 * end1 i + 1))
    have hinv : ∀ b p, p < 2 * d.E → colB b (d.disc p) = colB b p ∧ colB b (d.over p) = colB b p := by
      intro b p hp
      obtain ⟨_, a1, a2⟩ := h1 p hp
      show pick b (rim (d.disc p)) = pick b (rim p) ∧ pick b (rim (d.over p)) = pick b (rim p)
      rw [a1, a2]; exact ⟨rfl, rfl⟩
    have hS : ∀ b k, k < d.E → pick (chB b) (d.tieOf k) = ((colB b (2 * k)) ^^ (colB b (2 * k + 1))) := by
      intro b k hk
      have e : pick (chB b) (d.tieOf k) = ((colB b (2 * end1 (d.tieOf k))) ^^ (colB b (2 * end1 (d.tieOf k) + 1))) := by
        show (List.map _ _)[_]?.getD false = _
        simp [ht k hk]
      rw [e]
      rcases hend k hk with h | h
      · rw [h]
      · rw [h]
        have a1 := (hinv b (2 * k) (by (first | lia | omega))).2
        have a2 := (hinv b (2 * k + 1) (by (first | lia | omega))).2
        unfold Disc.over at a1 a2
        have e1 : 2 * k / 2 = k := by (first | lia | omega)
        have e2 : (2 * k + 1) / 2 = k := by (first | lia | omega)
        have e3 : 2 * k % 2 = 0 := by (first | lia | omega)
        have e4 : (2 * k + 1) % 2 = 1 := by (first | lia | omega)
        rw [e1, e3] at a1
        rw [e2, e4] at a2
        cases htn : d.turned (d.tieOf k) with
        | true => rw [htn] at a1 a2; simp only [if_true, Nat.add_zero] at a1 a2; rw [a1, a2]
        | false => rw [htn] at a1 a2; simp only [Bool.false_eq_true, if_false, Nat.sub_zero, Nat.sub_self, Nat.add_zero] at a1 a2; rw [a1, a2, Bool.xor_comm]
    refine inj_len (fun b => (colB b 0, chB b)) (bools_nodup R) (fun b _ => (hYm _ _).mpr ⟨by simp [chB], ?_⟩) ?_
    · exact (hok _ (by simp [chB])).mpr fun k hk => d.even_of (fun p hp => (hinv b p hp).1) (fun p hp => (hinv b p hp).2) (hS b) hk
    · intro b hb b' hb' e
      have hl := mem_bools.mp hb
      have hl' := mem_bools.mp hb'
      obtain ⟨e0, e1⟩ := Prod.mk.inj e
      have hcol : ∀ p, p < 2 * d.E → colB b p = colB b' p := by
        intro p hp
        rw [← d.col_of (fun p hp => (hinv b p hp).1) (hS b) hp, ← d.col_of (fun p hp => (hinv b' p hp).1) (hS b') hp, e0, e1]
      apply List.ext_getElem?
      intro r
      by_cases hr : r < R
      · obtain ⟨a1, a2⟩ := h2 r hr
        have := hcol _ a1
        change pick b (rim _) = pick b' (rim _) at this
        rw [a2] at this
        unfold pick at this
        rw [List.getElem?_eq_getElem (by (first | lia | omega)), List.getElem?_eq_getElem (by (first | lia | omega))] at this ⊢
        simpa using this
      · rw [List.getElem?_eq_none (by (first | lia | omega)), List.getElem?_eq_none (by (first | lia | omega))]
end Mine
end
/-! part N5 -/
section
set_option autoImplicit false
namespace Mine
/-! the walk along the rims, in plain Lean -/
structure Inv (n : Nat) (f : Nat → Nat) : Prop where
  lt : ∀ p, p < n → f p < n
  inv : ∀ p, p < n → f (f p) = p
  ne : ∀ p, p < n → f p ≠ p
noncomputable def Keepsc (n : Nat) (disc over : Nat → Nat) (c : Nat → Bool) : Prop := ∀ p, p < n → c (disc p) = c p ∧ c (over p) = c p
structure Outer (n : Nat) (disc over : Nat → Nat) (left : List Nat) (R : Nat) (rim : Nat → Nat) (starts : List Nat) : Prop where
  len : starts.length = R
  nodup : left.Nodup
  lt : ∀ p ∈ left, p < n
  done : ∀ p, p < n → p ∉ left → rim p < R ∧ disc p ∉ left ∧ over p ∉ left ∧ rim (disc p) = rim p ∧ rim (over p) = rim p ∧ ∀ c, Keepsc n disc over c → c p = c (starts[rim p]?.getD 0)
  st : ∀ r, r < R → starts[r]?.getD 0 < n ∧ starts[r]?.getD 0 ∉ left ∧ rim (starts[r]?.getD 0) = r
theorem Outer.first (n : Nat) (disc over : Nat → Nat) : Outer n disc over (List.range n) 0 (fun _ => 0) [] where
  len := rfl
  nodup := List.nodup_range
  lt := fun p hp => List.mem_range.mp hp
  done := fun p hp h => absurd (List.mem_range.mpr hp) h
  st := fun r hr => absurd hr (by (first | lia | omega))
theorem Outer.last {n : Nat} {disc over : Nat → Nat} {R : Nat} {rim : Nat → Nat} {starts : List Nat} (h : Outer n disc over [] R rim starts) : RimsOk n disc over R :=
  ⟨rim, starts, h.len, fun p hp => let q := h.done p hp (by simp); ⟨q.1, q.2.2.2.1, q.2.2.2.2.1⟩, fun r hr => ⟨(h.st r hr).1, (h.st r hr).2.2⟩, fun c hc p hp => (h.done p hp (by simp)).2.2.2.2.2 c hc⟩
/-- in the midst of a rim: removed so far are the places of left0 that are no longer in left -/
structure Mid (n : Nat) (disc over : Nat → Nat) (left0 : List Nat) (start : Nat) (left : List Nat) (place : Nat) : Prop where
  nodup : left.Nodup
  sub : ∀ p ∈ left, p ∈ left0
  clos : ∀ p, p ∈ left0 → p ∉ left → disc p ∈ left0 ∧ disc p ∉ left
  col : ∀ c, Keepsc n disc over c → ∀ p, p ∈ left0 → p ∉ left → c p = c start
  colp : ∀ c, Keepsc n disc over c → c place = c start
structure Head (n : Nat) (disc over : Nat → Nat) (left0 : List Nat) (start : Nat) (left : List Nat) (place : Nat) : Prop extends Mid n disc over left0 start left place where
  here : place ∈ left
  way : (left = left0 ∧ place = start) ∨ (start ∉ left ∧ over place ∉ left ∧ over place ∈ left0 ∧ ∀ v, v ∈ left0 → v ∉ left → v ≠ start → v ≠ over place → over v ∈ left0 ∧ over v ∉ left)
structure After (n : Nat) (disc over : Nat → Nat) (left0 : List Nat) (start : Nat) (left : List Nat) (place : Nat) : Prop extends Mid n disc over left0 start left place where
  gone : start ∉ left
  way : over place ∉ left ∧ over place ∈ left0 ∧ ∀ v, v ∈ left0 → v ∉ left → v ≠ start → v ≠ over place → over v ∈ left0 ∧ over v ∉ left
  here : place = start ∨ place ∈ left
theorem mem_erase2 {l : List Nat} (hn : l.Nodup) {a b x : Nat} : x ∈ (l.erase a).erase b ↔ x ∈ l ∧ x ≠ a ∧ x ≠ b := by
  rw [(hn.erase a).mem_erase_iff, hn.mem_erase_iff]
  constructor
  · rintro ⟨h1, h2, h3⟩; exact ⟨h3, h2, h1⟩
  · rintro ⟨h1, h2, h3⟩; exact ⟨h3, h2, h1⟩
theorem Head.step {n : Nat} {disc over : Nat → Nat} {left0 left : List Nat} {start place : Nat} (hd : Inv n disc) (ho : Inv n over) (h0 : ∀ p ∈ left0, p < n ∧ disc p ∈ left0 ∧ over p ∈ left0) (hs : start ∈ left0)
    (h : Head n disc over left0 start left place) : disc place ∈ left.erase place ∧ After n disc over left0 start ((left.erase place).erase (disc place)) (over (disc place)) := by
  have hp0 : place ∈ left0 := h.sub _ h.here
  have hpn : place < n := (h0 _ hp0).1
  have hq0 : disc place ∈ left0 := (h0 _ hp0).2.1
  have hqn : disc place < n := (h0 _ hq0).1
  have hqp : disc place ≠ place := hd.ne _ hpn
  have hq : disc place ∈ left := by
    refine Classical.byContradiction fun hh => ?_
    have := (h.clos _ hq0 hh).2
    rw [hd.inv _ hpn] at this
    exact this h.here
  have hoq0 : over (disc place) ∈ left0 := (h0 _ hq0).2.2
  have hoqq : over (disc place) ≠ disc place := ho.ne _ hqn
  have hooq : over (over (disc place)) = disc place := ho.inv _ hqn
  have hm : ∀ x, x ∈ (left.erase place).erase (disc place) ↔ x ∈ left ∧ x ≠ place ∧ x ≠ disc place := fun x => mem_erase2 h.nodup
  have hnm : ∀ x, x ∈ left0 → (x ∉ (left.erase place).erase (disc place) ↔ x ∉ left ∨ x = place ∨ x = disc place) := fun x _ => by
    rw [hm]
    constructor
    · intro hh
      by_cases a : x ∈ left
      · by_cases b : x = place
        · exact .inr (.inl b)
        · by_cases c : x = disc place
          · exact .inr (.inr c)
          · exact absurd ⟨a, b, c⟩ hh
      · exact .inl a
    · rintro (hh | hh | hh) ⟨a, b, c⟩
      · exact hh a
      · exact b hh
      · exact c hh
  have hcp : ∀ c, Keepsc n disc over c → c (disc place) = c start := fun c hc => by rw [(hc _ hpn).1, h.colp c hc]
  refine ⟨(h.nodup.mem_erase_iff).mpr ⟨hqp, hq⟩, ?_⟩
  refine ⟨⟨(h.nodup.erase _).erase _, fun p hp => h.sub _ ((hm p).mp hp).1, ?_, ?_, fun c hc => by rw [(hc _ hqn).2, hcp c hc]⟩, ?_, ⟨?_, ?_, ?_⟩, ?_⟩
  · intro p hp hh
    rcases (hnm p hp).mp hh with a | rfl | rfl
    · obtain ⟨a1, a2⟩ := h.clos p hp a
      exact ⟨a1, (hnm _ a1).mpr (.inl a2)⟩
    · exact ⟨hq0, (hnm _ hq0).mpr (.inr (.inr rfl))⟩
    · rw [hd.inv _ hpn]; exact ⟨hp0, (hnm _ hp0).mpr (.inr (.inl rfl))⟩
  · intro c hc p hp hh
    rcases (hnm p hp).mp hh with a | rfl | rfl
    · exact h.col c hc p hp a
    · exact h.colp c hc
    · exact hcp c hc
  · rw [hnm _ hs]
    rcases h.way with ⟨_, e⟩ | ⟨a, _⟩
    · exact .inr (.inl e.symm)
    · exact .inl a
  · rw [hooq, hnm _ hq0]; exact .inr (.inr rfl)
  · rw [hooq]; exact hq0
  · intro v hv hh hvs hvo
    rw [hooq] at hvo
    rcases (hnm v hv).mp hh with a | rfl | rfl
    · rcases h.way with ⟨e, _⟩ | ⟨a1, a2, a3, a4⟩
      · rw [e] at a; exact absurd hv a
      · by_cases e : v = over place
        · rw [e, ho.inv _ hpn]; exact ⟨hp0, (hnm _ hp0).mpr (.inr (.inl rfl))⟩
        · obtain ⟨b1, b2⟩ := a4 v hv a hvs e
          exact ⟨b1, (hnm _ b1).mpr (.inl b2)⟩
    · rcases h.way with ⟨_, e⟩ | ⟨a1, a2, a3, a4⟩
      · exact absurd e hvs
      · exact ⟨a3, (hnm _ a3).mpr (.inl a2)⟩
    · exact absurd rfl hvo
  · by_cases e : over (disc place) = start
    · exact .inl e
    · refine .inr ((hm _).mpr ⟨?_, ?_, hoqq⟩)
      · refine Classical.byContradiction fun hh => ?_
        rcases h.way with ⟨e', _⟩ | ⟨a1, a2, a3, a4⟩
        · rw [e'] at hh; exact hh hoq0
        · by_cases e2 : over (disc place) = over place
          · have := congrArg over e2
            rw [hooq, ho.inv _ hpn] at this
            exact hqp this
          · have := (a4 _ hoq0 hh e e2).2
            rw [hooq] at this
            exact this hq
      · intro e2
        rcases h.way with ⟨_, e'⟩ | ⟨a1, a2, a3, a4⟩
        · exact e (e2.trans e')
        · have : over place = disc place := by have q := congrArg over e2; rw [hooq] at q; exact q.symm
          rw [this] at a2
          exact a2 hq
theorem After.head {n : Nat} {disc over : Nat → Nat} {left0 left : List Nat} {start place : Nat} (h : After n disc over left0 start left place) (hne : place ≠ start) : Head n disc over left0 start left place :=
  ⟨h.toMid, h.here.resolve_left hne, .inr ⟨h.gone, h.way⟩⟩
theorem Outer.closed {n : Nat} {disc over : Nat → Nat} {left : List Nat} {R : Nat} {rim : Nat → Nat} {starts : List Nat} (hd : Inv n disc) (ho : Inv n over) (h : Outer n disc over left R rim starts) : ∀ p ∈ left, p < n ∧ disc p ∈ left ∧ over p ∈ left := fun p hp => by
  have hpn := h.lt p hp
  refine ⟨hpn, Classical.byContradiction fun hh => ?_, Classical.byContradiction fun hh => ?_⟩
  · have := (h.done _ (hd.lt _ hpn) hh).2.1
    rw [hd.inv _ hpn] at this; exact this hp
  · have := (h.done _ (ho.lt _ hpn) hh).2.2.1
    rw [ho.inv _ hpn] at this; exact this hp
theorem Outer.head {n : Nat} {disc over : Nat → Nat} {left : List Nat} {R : Nat} {rim : Nat → Nat} {starts : List Nat} {start : Nat} (h : Outer n disc over left R rim starts) (hs : start ∈ left) : Head n disc over left start left start :=
  ⟨⟨h.nodup, fun _ hp => hp, fun _ hp hh => absurd hp hh, fun _ _ _ hp hh => absurd hp hh, fun _ _ => rfl⟩, hs, .inl ⟨rfl, rfl⟩⟩
theorem Outer.next {n : Nat} {disc over : Nat → Nat} {left0 left : List Nat} {R : Nat} {rim : Nat → Nat} {starts : List Nat} {start : Nat} (hd : Inv n disc) (ho : Inv n over) (h : Outer n disc over left0 R rim starts) (hs : start ∈ left0)
    (ha : After n disc over left0 start left start) : Outer n disc over left (R + 1) (fun p => if p ∈ left0 ∧ p ∉ left then R else rim p) (starts ++ [start]) := by
  have hcl := h.closed hd ho
  have ocl : ∀ v, v ∈ left0 → v ∉ left → over v ∈ left0 ∧ over v ∉ left := fun v hv hh => by
    by_cases e1 : v = start
    · rw [e1]; exact ⟨ha.way.2.1, ha.way.1⟩
    · by_cases e2 : v = over start
      · rw [e2, ho.inv _ (h.lt _ hs)]; exact ⟨hs, ha.gone⟩
      · exact ha.way.2.2 v hv hh e1 e2
  have hlast : (starts ++ [start])[R]?.getD 0 = start := by simp [← h.len]
  have hold : ∀ r, r < R → (starts ++ [start])[r]?.getD 0 = starts[r]?.getD 0 := fun r hr => by rw [List.getElem?_append_left (by rw [h.len]; exact hr)]
  refine ⟨by simp [h.len], ha.nodup, fun p hp => h.lt p (ha.sub p hp), ?_, ?_⟩
  · intro p hp hh
    by_cases e : p ∈ left0
    · have e1 := ha.clos p e hh
      have e2 := ocl p e hh
      have q : p ∈ left0 ∧ p ∉ left := ⟨e, hh⟩
      simp only [if_pos q, if_pos e1, if_pos e2]
      refine ⟨by (first | lia | omega), e1.2, e2.2, trivial, trivial, fun c hc => ?_⟩
      rw [hlast]; exact ha.col c hc p e hh
    · obtain ⟨a1, a2, a3, a4, a5, a6⟩ := h.done p hp e
      have n1 : ¬ (p ∈ left0 ∧ p ∉ left) := fun q => e q.1
      have n2 : ¬ (disc p ∈ left0 ∧ disc p ∉ left) := fun q => a2 q.1
      have n3 : ¬ (over p ∈ left0 ∧ over p ∉ left) := fun q => a3 q.1
      simp only [if_neg n1, if_neg n2, if_neg n3]
      refine ⟨by (first | lia | omega), fun q => a2 (ha.sub _ q), fun q => a3 (ha.sub _ q), a4, a5, fun c hc => ?_⟩
      rw [hold _ a1]; exact a6 c hc
  · intro r hr
    by_cases e : r < R
    · rw [hold r e]
      obtain ⟨a1, a2, a3⟩ := h.st r e
      have n1 : ¬ (starts[r]?.getD 0 ∈ left0 ∧ starts[r]?.getD 0 ∉ left) := fun q => a2 q.1
      simp only [if_neg n1]
      exact ⟨a1, fun q => a2 (ha.sub _ q), a3⟩
    · have : r = R := by (first | lia | omega)
      subst this
      rw [hlast]
      have q : start ∈ left0 ∧ start ∉ left := ⟨hs, ha.gone⟩
      simp only [if_pos q]
      exact ⟨h.lt _ hs, ha.gone, trivial⟩
end Mine
end
/-! part R0 -/
section
open PySem PySem.W PyProof.Rows
set_option autoImplicit false
namespace Mine
noncomputable section
variable {prog : Program} {w : World} {A : Around} {s : Shared} {h₀ : Heap} {L : Addr} {m : Str → Option Value} {news rest : List (Addr × Obj)} {Q : Value → Shared → Prop} {E : Value → Shared → Prop}
theorem any_isInt {k : Int} : ∀ {vs : List Value} {xs : List Int}, IntsAre vs xs → vs.any (isInt k) = decide (k ∈ xs)
  | _, _, .nil => rfl
  | _, _, .cons n t h => by
    rw [List.any_cons, any_isInt h]
    by_cases e : n = k
    · subst e; simp [isInt]
    · have e' : ¬ k = n := fun q => e q.symm
      simp [isInt, e, e']
theorem notin_ints {l : Addr} {vs : List Value} {xs : List Int} {n : Nat} {k : Int} {t : Tok} (N : News h₀ L s.heap news) (hm : (l, lisO vs n) ∈ news) (hv : IntsAre vs xs) (h : Q (.bool (!decide (k ∈ xs))) s) :
    wpAny (model prog w) A (compareOp .NotIn (.int k t) (.ref l)) Q E s := by
  refine SeqRoads2.notIn_list (isInt k) (fun y hy => eq_isInt k t hv y (by simpa using hy)) (N _ hm).1 ?_
  rw [show vs.toArray.any (isInt k) = vs.any (isInt k) by simp, any_isInt hv]
  exact h
theorem ints_erase {k : Int} : ∀ {vs : List Value} {xs : List Int}, IntsAre vs xs → IntsAre (vs.eraseIdx (xs.idxOf k)) (xs.erase k)
  | _, _, .nil => .nil
  | _, _, .cons n t (vs := vs) (ns := ns) h => by
    by_cases e : n = k
    · subst e
      simpa [List.idxOf_cons] using h
    · have e1 : (n == k) = false := by simpa using e
      rw [List.idxOf_cons, e1, List.erase_cons, e1]
      simp only [Bool.false_eq_true, if_false, cond_false, List.eraseIdx_cons_succ]
      exact .cons n t (ints_erase h)
theorem remove_ints {l : Addr} {vs : List Value} {xs : List Int} {n : Nat} {k : Int} {t : Tok} (F : Fr h₀ L s.heap m) (N : News h₀ L s.heap ((l, lisO vs n) :: rest)) (hne : ∀ q ∈ rest, q.1 ≠ l) (hv : IntsAre vs xs) (hk : k ∈ xs) (hz : xs.length < 1000)
    (h : ∀ vs' h', IntsAre vs' (xs.erase k) → Fr h₀ L h' m → News h₀ L h' ((l, lisO vs' (n + 1)) :: rest) → Q .none { s with heap := h' }) :
    wpAny (model prog w) A (call (.builtin "list.remove") [.ref l, .int k t]) Q E s := by
  have z := N (l, lisO vs n) (.head _)
  have hj : xs.idxOf k < xs.length := List.idxOf_lt_length_iff.mpr hk
  have hlen := hv.length
  have hget : ∀ i (hi : i < vs.toArray.size), isInt k (vs.toArray[i]) = (xs[i]?.getD 0 == k) := by
    intro i hi
    have hi' : i < xs.length := by rw [← hlen]; simpa using hi
    obtain ⟨t', ht'⟩ := hv.get i (xs[i]?.getD 0) (by simp [hi'])
    have : vs.toArray[i] = .int (xs[i]?.getD 0) t' := by
      have : vs.toArray[i]? = some (.int (xs[i]?.getD 0) t') := by simpa using ht'
      rw [Array.getElem?_eq_getElem hi] at this
      exact Option.some.inj this
    rw [this]; rfl
  refine call_meets PySem.F.slot_list_remove ⟨_, z.1, rfl⟩ PySem.F.entry_list_remove (PySem.F.args_list_remove_2 _ _)
    (MeetsSeq.list_remove l vs.toArray n (.int k t) (isInt k) (fun y hy => eq_isInt k t hv y (by simpa using hy)) (xs.idxOf k) (by simp; (first | lia | omega)) ?_ ?_ (by simp; rw [show sizeLine = 16777216 from rfl]; (first | lia | omega))) ⟨z.1, h (vs.eraseIdx (xs.idxOf k)) _ (ints_erase hv) (F.change (Heap.SameBut.update ..) z.2.1 z.2.2) (kl_turn (pre := []) _ N (fun _ hp => nomatch hp) hne ?_ ?_)⟩
  · rw [hget]; simp [hj]
  · intro i hi hlt
    rw [hget]
    have hi' : i < xs.length := by (first | lia | omega)
    have := List.not_of_lt_findIdx (p := (· == k)) (xs := xs) (i := i) hlt
    simpa [hi'] using this
  · rw [Array.eraseIdxIfInBounds, dif_pos (by simp; (first | lia | omega))]
    apply Array.toList_inj.mp
    simp
  · simp [List.length_eraseIdx]; (first | lia | omega)
end
end Mine
end
/-! part RX -/
section
open PySem PySem.W PyProof.Rows
set_option autoImplicit false
namespace Mine
noncomputable section
variable {w : World} {A : Around} {s : Shared} {base h₀ : Heap} {outer : List Env} {env : Env} {L : Addr} {m : Str → Option Value} {news rest : List (Addr × Obj)} {Q : Value → Shared → Prop} {E : Value → Shared → Prop}
/-- the list that the rims' walk asks at place q -/
noncomputable def overF (hs is : List Int) (ms : List (Int × Int)) (n : Nat) (tie side hq : Int) : List Int :=
  (rangeI n).filter fun a => decide ((ms[a.toNat]?.getD (0, 0)) = (tie, side)) && (hs[a.toNat]?.getD 0 != hq)
theorem eq_pair {prog : Program} {a b : Addr} {i j k l : Int} {t1 t2 t3 t4 : Tok} (ha : s.heap.IsTuple a #[.int i t1, .int j t2]) (hb : s.heap.IsTuple b #[.int k t3, .int l t4]) (hu : A.units < 1000) (h : Q (.bool (decide ((i, j) = (k, l)))) s) :
    wpAny (model prog w) A (compareOp .Eq (.ref a) (.ref b)) Q E s := by
  refine SeqAt.eq_tupleAt (e := fun z => if z = 0 then i == k else j == l) ha hb (Nat.lt_trans hu (by decide)) (fun z h1 h2 => ?_) ?_
  · match z, h1 with
    | 0, _ => exact SeqAt.EqAt.int_int i t1 k t3
    | 1, _ => exact SeqAt.EqAt.int_int j t2 l t4
  · have e : ((List.range (min (#[Value.int i t1, Value.int j t2] : Array Value).size (#[Value.int k t3, Value.int l t4] : Array Value).size)).all (fun z => if z = 0 then i == k else j == l) && (#[Value.int i t1, Value.int j t2] : Array Value).size == (#[Value.int k t3, Value.int l t4] : Array Value).size) = decide ((i, j) = (k, l)) := by
      rw [Bool.eq_iff_iff]
      simp [List.range, List.range.loop]
    rw [e]; exact h
theorem notin_have {prog : Program} {l : Addr} {vs : List Value} {xs : List Int} {n : Nat} {k : Int} {t : Tok} (N : News h₀ L s.heap news) (hm : (l, lisO vs n) ∈ news) (hv : IntsAre vs xs) (hk : k ∈ xs) (h : Q (.bool false) s) :
    wpAny (model prog w) A (compareOp .NotIn (.int k t) (.ref l)) Q E s := notin_ints N hm hv (by simpa [hk] using h)
theorem filt_true {α : Type} (l : List α) : l.filter (fun _ => true) = l := by simp
noncomputable def toI (l : List Nat) : List Int := l.map fun i : Nat => (i : Int)
theorem toI_range (n : Nat) : rangeI n = toI (List.range n) := rfl
theorem mem_toI {l : List Nat} {a : Nat} : (a : Int) ∈ toI l ↔ a ∈ l := by
  unfold toI; rw [List.mem_map]
  constructor
  · rintro ⟨b, h, e⟩; have : b = a := by (first | assumption | lia | omega)
    exact this ▸ h
  · exact fun h => ⟨a, h, rfl⟩
theorem toI_erase (l : List Nat) (a : Nat) : (toI l).erase (a : Int) = toI (l.erase a) := by
  induction l with
  | nil => rfl
  | cons b l ih =>
    unfold toI at ih ⊢
    rw [List.map_cons, List.erase_cons, List.erase_cons]
    by_cases e : b = a
    · subst e; simp
    · have e1 : (b == a) = false := by simpa using e
      have e2 : (((b : Nat) : Int) == (a : Int)) = false := by
        rw [beq_eq_false_iff_ne]; (first | assumption | lia | omega)
      rw [e1, e2]
      simp only [Bool.false_eq_true, if_false, List.map_cons]
      rw [ih]
theorem toI_length (l : List Nat) : (toI l).length = l.length := by simp [toI]
theorem ne_nilT {prog : Program} {a b : Addr} {vs : List Value} {xs : List Int} {n k : Nat} (N : News h₀ L s.heap news) (hm : (a, lisO vs n) ∈ news) (hb : (b, W.listOf #[] k) ∈ news) (hv : IntsAre vs xs) (hx : xs ≠ []) (hu : A.units + 64 < cLine) (h : Q (.bool true) s) :
    wpAny (model prog w) A (compareOp .NotEq (.ref a) (.ref b)) Q E s := by
  refine ke_ne_ints (list_at N hm) (ys := []) ⟨_, (N _ hb).1, rfl, k, rfl⟩ hv .nil hu ?_
  simpa [hx] using h
theorem ne_nilF {prog : Program} {a b : Addr} {vs : List Value} {xs : List Int} {n k : Nat} (N : News h₀ L s.heap news) (hm : (a, lisO vs n) ∈ news) (hb : (b, W.listOf #[] k) ∈ news) (hv : IntsAre vs xs) (hx : xs = []) (hu : A.units + 64 < cLine) (h : Q (.bool false) s) :
    wpAny (model prog w) A (compareOp .NotEq (.ref a) (.ref b)) Q E s := by
  refine ke_ne_ints (list_at N hm) (ys := []) ⟨_, (N _ hb).1, rfl, k, rfl⟩ hv .nil hu ?_
  simpa [hx] using h
theorem head_at {prog : Program} {value slice : PySem.Expr} {a : Addr} {vs : List Value} {x : Int} {is : List Int} {n : Nat} {u : Tok} (N : News h₀ L s.heap news) (hm : (a, lisO vs n) ∈ news) (hv : IntsAre vs (x :: is))
    (h : ∀ t, Q (.int x t) s)
    (hs : subscripted slice false (.ref a) (.int 0 u) = operate [.ref a, .int 0 u] (getItem (.ref a) (.int 0 u)) := by with_unfolding_all rfl) (hg : ∀ r, letTemporaryGo value (.ref a) r = pure () := by intro _; with_unfolding_all rfl) :
    wpAny (model prog w) A (subscriptTail value slice (.ref a) (.int 0 u)) Q E s := by
  obtain ⟨t, h2⟩ := hv.get 0 x rfl
  exact item_at N hm (by decide) (by decide) h2 (h t) hs hg
theorem remove_upd {prog : Program} {l : Addr} {vs : List Value} {xs : List Nat} {n k : Nat} {t : Tok} {news' : List (Addr × Obj)} (F : Fr h₀ L s.heap m) (N : News h₀ L s.heap news) (hv : IntsAre vs (toI xs)) (hk : (k : Int) ∈ toI xs) (hz : xs.length < 1000)
    (U : Upd l (lisO vs n) (lisO (vs.eraseIdx ((toI xs).idxOf (k : Int))) (n + 1)) news news')
    (h : ∀ h', IntsAre (vs.eraseIdx ((toI xs).idxOf (k : Int))) (toI (xs.erase k)) → Fr h₀ L h' m → News h₀ L h' news' → Q .none { s with heap := h' }) :
    wpAny (model prog w) A (call (.builtin "list.remove") [.ref l, .int (k : Nat) t]) Q E s := by
  obtain ⟨pre, post, rfl, rfl, ha, hb⟩ := U.split
  have z := N (l, lisO vs n) (List.mem_append.mpr (.inr (.head _)))
  have hz' : (toI xs).length < 1000 := by rw [toI_length]; exact hz
  have he : IntsAre (vs.eraseIdx ((toI xs).idxOf (k : Int))) (toI (xs.erase k)) := by rw [← toI_erase]; exact ints_erase hv
  generalize toI xs = ys at *
  have hj : ys.idxOf (k : Int) < ys.length := List.idxOf_lt_length_iff.mpr hk
  have hlen := hv.length
  have hget : ∀ i (hi : i < vs.toArray.size), isInt (k : Int) (vs.toArray[i]) = (ys[i]?.getD 0 == (k : Int)) := by
    intro i hi
    have hi' : i < ys.length := by rw [← hlen]; simpa using hi
    obtain ⟨t', ht'⟩ := hv.get i (ys[i]?.getD 0) (by simp [hi'])
    have : vs.toArray[i] = .int (ys[i]?.getD 0) t' := by
      have : vs.toArray[i]? = some (.int (ys[i]?.getD 0) t') := by simpa using ht'
      rw [Array.getElem?_eq_getElem hi] at this
      exact Option.some.inj this
    rw [this]; rfl
  refine call_meets PySem.F.slot_list_remove ⟨_, z.1, rfl⟩ PySem.F.entry_list_remove (PySem.F.args_list_remove_2 _ _)
    (MeetsSeq.list_remove l vs.toArray n (.int (k : Int) t) (isInt (k : Int)) (fun y hy => eq_isInt (k : Int) t hv y (by simpa using hy)) (ys.idxOf (k : Int)) (by simp; (first | assumption | lia | omega)) ?_ ?_ (by simp; rw [show sizeLine = 16777216 from rfl]; (first | assumption | lia | omega))) ⟨z.1, h _ he (F.change (Heap.SameBut.update ..) z.2.1 z.2.2) (kl_turn _ N ha hb ?_ ?_)⟩
  · rw [hget]; simp [hj]
  · intro i hi hlt
    rw [hget]
    have hi' : i < ys.length := by (first | assumption | lia | omega)
    have := List.not_of_lt_findIdx (p := (· == (k : Int))) (xs := ys) (i := i) hlt
    simpa [hi'] using this
  · rw [Array.eraseIdxIfInBounds, dif_pos (by simp; (first | assumption | lia | omega))]
    apply Array.toList_inj.mp
    simp
  · simp [List.length_eraseIdx]; (first | assumption | lia | omega)
theorem tupint_at {prog : Program} {value slice : PySem.Expr} {a : Addr} {vs : List Value} {k : Int} {u : Tok} {x : Value} (N : News h₀ L s.heap rest) (hm : (a, tupO vs) ∈ rest)
    (h0 : -(2 ^ 63) ≤ k) (hfit : k < 2 ^ 63) {j : Nat} (hj : seqIndex? k vs.length = some j) (hx : vs[j]? = some x) (h : Q x s)
    (hs : subscripted slice false (.ref a) (.int k u) = operate [.ref a, .int k u] (getItem (.ref a) (.int k u)) := by with_unfolding_all rfl) (hg : ∀ r, letTemporaryGo value (.ref a) r = pure () := by intro _; with_unfolding_all rfl) :
    wpAny (model prog w) A (subscriptTail value slice (.ref a) (.int k u)) Q E s := item_tupleL (tup_at N hm) h0 hfit hj hx h hs hg
theorem mod_disc {prog : Program} {a b : Int} {c : Nat} {t u : Tok} (hb : b ≠ 0) (e : Int.fmod a b = ((c : Nat) : Int)) (h : Q (.int (c : Nat) s.toks) { s with toks := s.toks + 1 }) : wpAny (model prog w) A (binaryOp .Mod (.int a t) (.int b u)) Q E s :=
  mod_int' hb (by rw [e]; exact h)
theorem is_no {x : Int} (h : (decide (x < 256) == decide (256 ≤ x)) = true) : False := by
  by_cases e : x < 256
  · rw [decide_eq_true e, decide_eq_false (by (first | assumption | lia | omega))] at h; cases h
  · rw [decide_eq_false e, decide_eq_true (by (first | assumption | lia | omega))] at h; cases h
theorem over_pos {hs is : List Int} {ms : List (Int × Int)} {n : Nat} {tie side hq c x : Int} {r : List Int} (h : overF hs is ms n tie (if c < 256 then 1 - side else side) hq = x :: r) (hc : c < 256) :
    ∃ q : Int → Bool, (∀ a, q a = (decide ((ms[a.toNat]?.getD (0, 0)) = (tie, 1 - side)) && (hs[a.toNat]?.getD 0 != hq))) ∧ (rangeI n).filter q = x :: r := ⟨_, fun _ => rfl, by rw [if_pos hc] at h; exact h⟩
theorem over_neg {hs is : List Int} {ms : List (Int × Int)} {n : Nat} {tie side hq c x : Int} {r : List Int} (h : overF hs is ms n tie (if c < 256 then 1 - side else side) hq = x :: r) (hc : ¬ c < 256) :
    ∃ q : Int → Bool, (∀ a, q a = (decide ((ms[a.toNat]?.getD (0, 0)) = (tie, side)) && (hs[a.toNat]?.getD 0 != hq))) ∧ (rangeI n).filter q = x :: r := ⟨_, fun _ => rfl, by rw [if_neg hc] at h; exact h⟩
theorem pair_item {prog : Program} {value slice : PySem.Expr} {a : Addr} {vs : List Value} {ps : List (Int × Int)} {k : Int} {u : Tok} (hl : s.heap.IsList a vs.toArray) (hv : Pairs news vs ps)
    (h0 : 0 ≤ k) (h1 : k < ps.length) (hz : ps.length < 1000) (h : ∀ r t u, (r, tupO [.int (ps[k.toNat]?.getD (0, 0)).1 t, .int (ps[k.toNat]?.getD (0, 0)).2 u]) ∈ news → Q (.ref r) s)
    (hs : subscripted slice false (.ref a) (.int k u) = operate [.ref a, .int k u] (getItem (.ref a) (.int k u)) := by with_unfolding_all rfl) (hg : ∀ r, letTemporaryGo value (.ref a) r = pure () := by intro _; with_unfolding_all rfl) :
    wpAny (model prog w) A (subscriptTail value slice (.ref a) (.int k u)) Q E s := by
  obtain ⟨r, t, u, h2, h3⟩ := hv.get k.toNat (by (first | assumption | lia | omega))
  exact item_listL hl h0 (Int.lt_trans h1 (by omega)) h2 (h r t u h3) hs hg
theorem tup_kept {h h' : Heap} {a : Addr} {vs : Array Value} (x : h.IsTuple a vs) (k : Kept h h') : h'.IsTuple a vs := let ⟨o, e, r⟩ := x; ⟨o, k _ _ e, r⟩
theorem new_pair_then {prog : Program} {i j : Int} {t u : Tok} (h : ∀ h' a, Kept s.heap h' → h'.IsTuple a #[.int i t, .int j u] → Q (.ref a) { s with heap := h' }) : wpAny (model prog w) A (newTuple [.int i t, .int j u]) Q E s :=
  wpAny_newTuple (h _ _ (kept_push _ _) ⟨_, Heap.get?_push_size _ rfl, rfl, 0, rfl⟩) (by show 2 ≤ 16777216; decide)
theorem q_tt {a b : Int × Int} {x y : Int} (h : (a.1, a.2) = b) (g : x ≠ y) : true = (decide (a = b) && (x != y)) := by
  rw [decide_eq_true (show a = b from h), Bool.true_and]; exact (bne_iff_ne.mpr g).symm
theorem q_tf {a b : Int × Int} {x y : Int} (h : (a.1, a.2) = b) (g : x = y) : false = (decide (a = b) && (x != y)) := by
  rw [decide_eq_true (show a = b from h), Bool.true_and, g]; simp
theorem q_f {a b : Int × Int} {x y : Int} (h : ¬ (a.1, a.2) = b) : false = (decide (a = b) && (x != y)) := by
  rw [decide_eq_false (show ¬ a = b from h), Bool.false_and]
theorem over_any {hs is : List Int} {ms : List (Int × Int)} {n : Nat} {tie sv hq x : Int} {r : List Int} (h : overF hs is ms n tie sv hq = x :: r) :
    ∃ q : Int → Bool, (∀ a, q a = (decide ((ms[a.toNat]?.getD (0, 0)) = (tie, sv)) && (hs[a.toNat]?.getD 0 != hq))) ∧ (rangeI n).filter q = x :: r := ⟨_, fun _ => rfl, h⟩
/-- two paths made one: a cell is set anew -/
theorem if_cell {M : Model} {t : Sem Flow} {E : Value → Shared → Prop} {pre post : List (Addr × Obj)} {c : Addr} {o : Obj} (v : Int) {Q : Flow → Shared → Prop} (_ : Fr h₀ L s.heap m) (_ : News h₀ L s.heap (pre ++ (c, o) :: post))
    (h1 : wpAny M A t (fun f s' => Stop (f = .next ∧ ∃ h tk o' t', s' = { s with heap := h, toks := tk } ∧ Fr h₀ L h m ∧ News h₀ L h (pre ++ (c, o') :: post) ∧ o'.data = .cell (some (.int v t')))) E s)
    (h2 : ∀ h tk o' t', Fr h₀ L h m → News h₀ L h (pre ++ (c, o') :: post) → o'.data = .cell (some (.int v t')) → Q .next { s with heap := h, toks := tk }) : wpAny M A t Q E s :=
  wpAny_mono h1 (fun f s' q => by
    obtain ⟨rfl, h, tk, o', t', rfl, F, N, d⟩ := q.out
    exact h2 h tk o' t' F N d) fun _ _ e => e
theorem if_same {M : Model} {t : Sem Flow} {E : Value → Shared → Prop} {led : List (Addr × Obj)} {Q : Flow → Shared → Prop} (_ : Fr h₀ L s.heap m) (_ : News h₀ L s.heap led)
    (h1 : wpAny M A t (fun f s' => Stop (f = .next ∧ ∃ h tk, s' = { s with heap := h, toks := tk } ∧ Fr h₀ L h m ∧ News h₀ L h led)) E s)
    (h2 : ∀ h tk, Fr h₀ L h m → News h₀ L h led → Q .next { s with heap := h, toks := tk }) : wpAny M A t Q E s :=
  wpAny_mono h1 (fun f s' q => by
    obtain ⟨rfl, h, tk, rfl, F, N⟩ := q.out
    exact h2 h tk F N) fun _ _ e => e
structure MkI : Prop where
  u : True
structure RimS where
  vl : List Value
  nl : Nat
  left : List Nat
  R : Nat
  tR : Tok
  rim : Nat → Nat
  starts : List Nat
  oP : Obj
  oT : Obj
  oS : Obj
structure RimT where
  vl : List Value
  nl : Nat
  left : List Nat
  place : Nat
  b : Bool
  oP : Obj
  oT : Obj
  oS : Obj
end
noncomputable section
local macro_rules | `(tactic| k_mem) => `(tactic| assumption)
local macro_rules | `(tactic| k_all) => `(tactic| assumption)
local macro_rules | `(tactic| walk_at "call builtin:len") => `(tactic| (k_dflt (refine len_any (by k_asm) (by k_mem) (by (first | assumption | lia | omega)) ?_); (try dsimp only)))
local macro_rules | `(tactic| walk_at "eval Name") => `(tactic| ((with_reducible show wpAny _ _ (eval (PySem.Expr.Name _ _) (compEnvC _ _ _ _)) _ _ _); k_dflt (refine cn_local (by assumption) (by assumption) ?_)))
local macro_rules | `(tactic| walk_at "eval Name") => `(tactic| ((with_reducible show wpAny _ _ (eval (PySem.Expr.Name _ _) (compEnvC _ _ _ _)) _ _ _); k_dflt (refine cn_cell rfl (by assumption) ?_)))
local macro_rules | `(tactic| walk_at "loadName") => `(tactic| (k_dflt (refine ldn_any rfl rfl rfl (by k_asm) (by k_mem) (by assumption) ?_); (try dsimp only)))
local macro_rules | `(tactic| walk_at "subscriptTail Name Name ref int") => `(tactic| (k_dflt (refine int_at (by k_asm) (by k_mem) (by assumption) (by (first | assumption | lia | omega)) (by (first | assumption | lia | omega)) (by (first | assumption | lia | omega)) ?_); intro t'; (try dsimp only)))
local macro_rules | `(tactic| walk_at "subscriptTail Name Name ref int") => `(tactic| (k_dflt (refine pair_at (by k_asm) (by k_mem) (by assumption) (by (first | assumption | lia | omega)) (by (first | assumption | lia | omega)) (by (first | assumption | lia | omega)) ?_); intro r' t' u' hm'; (try dsimp only)))
local macro_rules | `(tactic| walk_at "exec While Compare cons nil") => `(tactic| (k_here; refine Stop.out ?_))
local macro_rules | `(tactic| walk_at "exec While") => `(tactic| (k_here; refine Stop.out ?_))
local macro_rules | `(tactic| walk_at "KswEnd") => `(tactic| (refine Stop.out ?_))
local macro_rules | `(tactic| walk_at "exec Assign cons ListComp") => `(tactic| (k_here; refine Stop.out ?_))
local macro_rules | `(tactic| walk_at "compareOp NotIn int ref") => `(tactic| (k_dflt (refine notin_have (by k_asm) (by k_mem) (by assumption) (by assumption) ?_)))
local macro_rules | `(tactic| walk_at "subscriptTail Name Constant ref int") => `(tactic| (k_dflt (refine head_at (by k_asm) (by k_mem) (by assumption) ?_); intro t'; (try dsimp only)))
local macro_rules | `(tactic| walk_at "compareOp NotEq ref ref") => `(tactic| (k_dflt (refine ne_nilT (by k_asm) (by k_mem) (by k_mem) (by assumption) (by assumption) (by show (451:Nat) + 64 < 9900; decide) ?_); (try dsimp only)))
local macro_rules | `(tactic| walk_at "compareOp NotEq ref ref") => `(tactic| (k_dflt (refine ne_nilF (by k_asm) (by k_mem) (by k_mem) (by assumption) (by assumption) (by show (451:Nat) + 64 < 9900; decide) ?_); (try dsimp only)))
local macro_rules | `(tactic| walk_at "call builtin:list.remove") => `(tactic| (k_dflt (refine remove_upd (by k_asm) (by k_asm) (by assumption) (by assumption) (by (first | assumption | lia | omega)) (by k_upd) ?_); intro h' hI' F' N'; (try dsimp only)))
local macro_rules | `(tactic| walk_at "binaryOp Mod int int") => `(tactic| (k_here; refine Stop.out ?_))
local macro_rules | `(tactic| walk_at "call ref") => `(tactic| (k_here; (with_reducible show wpAny _ _ (call (Value.ref 53) _) _ _ _); k_dflt (refine br_plain_spec ⟨rfl, rfl, rfl, rfl, ⟨_, by k_asm⟩, by k_asm, ⟨_, _, _, _, _, by k_asm⟩, Nat.le_of_ble_eq_true rfl, Nat.le_of_ble_eq_true rfl⟩ (by k_asm) (by k_asm) (by k_mem) (by assumption) (by (first | assumption | lia | omega)) (by assumption) ?_); intro p' tk' h' tk2' R' F' N'; (try k_sweep); (try dsimp only)))
local macro_rules | `(tactic| walk_at "call ref") => `(tactic| (k_here; (with_reducible show wpAny _ _ (call (Value.ref 71) _) _ _ _); k_dflt (refine bl_plain_spec ⟨rfl, rfl, rfl, rfl, ⟨_, by k_asm⟩, by k_asm, ⟨_, _, _, _, _, by k_asm⟩, Nat.le_of_ble_eq_true rfl, Nat.le_of_ble_eq_true rfl⟩ (by k_asm) (by k_asm) (by k_mem) (by assumption) (by (first | assumption | lia | omega)) (by assumption) ?_); intro p' tk' h' tk2' R' F' N'; (try k_sweep); (try dsimp only)))
local macro_rules | `(tactic| walk_at "subscriptTail Subscript Constant ref int") => `(tactic| (k_dflt (refine tupint_at (by k_asm) (by k_mem) (by decide) (by decide) rfl rfl ?_); (try dsimp only)))
local macro_rules | `(tactic| walk_at "subscriptTail Name Name ref int") => `(tactic| (k_dflt (refine int_item (by assumption) (by assumption) (by (first | assumption | lia | omega)) (by (first | assumption | lia | omega)) (by (first | assumption | lia | omega)) ?_); intro t'; (try dsimp only)))
local macro_rules | `(tactic| walk_at "subscriptTail Name Name ref int") => `(tactic| (k_dflt (refine pair_item (by assumption) (by assumption) (by (first | assumption | lia | omega)) (by (first | assumption | lia | omega)) (by (first | assumption | lia | omega)) ?_); intro r' t' u' hm'; (try dsimp only)))
local macro_rules | `(tactic| walk_at "newTuple") => `(tactic| (k_here; (with_reducible show wpAny _ _ (newTuple _) _ _ _); refine Stop.out ?_))
local macro_rules | `(tactic| walk_at "compareOp Eq ref ref") => `(tactic| (k_here; refine Stop.out ?_))
local macro_rules | `(tactic| walk_at "call builtin:list.remove") => `(tactic| (k_dflt (refine remove_upd (by k_asm) (by k_asm) (by assumption) (by assumption) (by (first | assumption | lia | omega)) (by k_upd) ?_); intro h' hI' F' N'; (have mkI : MkI := ⟨trivial⟩); (try dsimp only)))
local macro_rules | `(tactic| walk_at "exec If") => `(tactic| ((rename MkI => q9); clear q9; k_here; refine Stop.out ?_))
set_option maxRecDepth 100000 in
set_option maxHeartbeats 8000000 in
noncomputable def rimsIn : PSigma fun P : World → Around → Shared → Heap → Heap → List Env → Env → Addr → (Str → Option Value) → List (Addr × Obj) → (Value → Shared → Prop) → (Value → Shared → Prop) → Addr → Addr → Addr → List Value → List Value → List Value → List Int → List Int → List (Int × Int) → Nat → Nat → Nat → Nat → (Nat → Nat) → (Nat → Nat) → Heap → Addr → Heap → Nat → Obj → Obj → Obj → Obj → Obj → Prop => (∀ (w : World) (A : Around) (s : Shared) (base h₀ : Heap) (outer : List Env) (env : Env) (L : Addr) (m : Str → Option Value) (news : List (Addr × Obj)) (Q E : Value → Shared → Prop) (aH aM aS : Addr) (vH vM vS : List Value) (hs is : List Int) (ms : List (Int × Int)) (nH nM nS n : Nat) (disc over : Nat → Nat) (g' : Heap) (L' : Addr) (h' : Heap) (tk' : Nat) (oS0 oT0 oP0 oM oH : Obj), P w A s base h₀ outer env L m news Q E aH aM aS vH vM vS hs is ms nH nM nS n disc over g' L' h' tk' oS0 oT0 oP0 oM oH) → ∀ (w : World) (A : Around) (s : Shared) (base h₀ : Heap) (outer : List Env) (env : Env) (L : Addr) (m : Str → Option Value) (news : List (Addr × Obj)) (Q E : Value → Shared → Prop) (aH aM aS : Addr) (vH vM vS : List Value) (hs is : List Int) (ms : List (Int × Int)) (nH nM nS n : Nat) (disc over : Nat → Nat)
   (C : Cx w A 450 base env outer h₀ L) (F : Fr h₀ L s.heap m) (N : News h₀ L s.heap news)
   (hmH : (aH, lisO vH nH) ∈ news) (hmM : (aM, lisO vM nM) ∈ news) (hmS : (aS, lisO vS nS) ∈ news) (hvH : IntsAre vH hs) (hvM : Pairs news vM ms) (hvS : IntsAre vS is)
   (hn : hs.length = n) (hnm : ms.length = n) (hn0 : 0 < n) (hn1 : n < 100) (hi1 : is.length < 100) (hso : Sorted hs) (hd : Inv n disc) (ho : Inv n over)
   (hA : ∀ p : Nat, p < n → (ms[p]?.getD (0, 0)).2 = 1 → ∀ q : Nat, RightAt hs (hs[p]?.getD 0) q → Int.fmod (q : Int) (n : Int) = ((disc p : Nat) : Int))
   (hB : ∀ p : Nat, p < n → (ms[p]?.getD (0, 0)).2 ≠ 1 → ∀ q : Nat, LeftAt hs (hs[p]?.getD 0) q → Int.fmod ((q : Int) - 1) (n : Int) = ((disc p : Nat) : Int))
   (hC : ∀ p : Nat, p < n → 0 ≤ (ms[p]?.getD (0, 0)).1 ∧ (ms[p]?.getD (0, 0)).1 < is.length ∧
      ∃ r, overF hs is ms n (ms[p]?.getD (0, 0)).1 (if is[(ms[p]?.getD (0, 0)).1.toNat]?.getD 0 < 256 then 1 - (ms[p]?.getD (0, 0)).2 else (ms[p]?.getD (0, 0)).2) (hs[p]?.getD 0) = ((over p : Nat) : Int) :: r)
   (h : ∀ R tk h' tk', RimsOk n disc over R → Fr h₀ L h' m → News h₀ L h' news → Q (.int (R : Nat) tk) { s with heap := h', toks := tk' }),
   wpAny (model PySem.Challenge.rw_rs0100_01.prog w) A (call (.ref 118) [.ref aH, .ref aM, .ref aS]) Q E s := by
  apply PSigma.mk
  case snd =>
    intro hP w A s base h₀ outer env L m news Q E aH aM aS vH vM vS hs is ms nH nM nS n disc over C F N hmH hmM hmS hvH hvM hvS hn hnm hn0 hn1 hi1 hso hd ho hA hB hC h
    obtain ⟨hh, hAA, hf, hke, ⟨A₀, B⟩, X, ⟨p, loose, mean, mg, mb, T⟩, hdp, hu⟩ := C
    refine wp_deep hh hAA hdp hu ?_
    revert X; k_fill; intro X
    refine wpAny_call ?_
    refine code_defC (binds := [(Str.ofString "hues", .ref aH), (Str.ofString "marks", .ref aM), (Str.ofString "symbols", .ref aS)]) B F X N T rfl hf hke (by k_is) (by k_is) (by show (450:Nat) < recursionLimit; decide) (BindsTo.of_eq rfl) rfl (by decide +kernel) ?_ rfl rfl rfl
    intro g' L' h' tk' cells' FG' F' N' Y' B' X' T' l1
    have hnlt := l1
    obtain ⟨oS0, oT0, oP0, oM, oH, hE', dS0, dT0, dP0, dM, dH⟩ := kc_five Y'
    subst hE'
    clear Y'
    replace dS0 : oS0.data = .cell none := dS0
    replace dT0 : oT0.data = .cell none := dT0
    replace dP0 : oP0.data = .cell none := dP0
    replace dM : oM.data = .cell (some (.ref aM)) := dM
    replace dH : oH.data = .cell (some (.ref aH)) := dH
    have hvl : vH.length = n := by rw [hvH.length, hn]
    have hvm : vM.length = n := by rw [hvM.length, hnm]
    (try simp only [List.cons_append, List.nil_append] at N')
    have hT : ∃ p loose mean mg mb, Top p loose mean mg mb g' := ⟨p, loose, mean, mg, mb, T'⟩
    clear l1 T' FG' F N
    revert hmH hmM hmS hvH hvM hvS hn hnm hn0 hn1 hi1 hso hd ho hA hB hC h F' B' X' hnlt N' dS0 dT0 dP0 dM dH hvl hvm hT
    exact hP w A s base h₀ outer env L m news Q E aH aM aS vH vM vS hs is ms nH nM nS n disc over g' L' h' tk' oS0 oT0 oP0 oM oH
namespace RX
structure RV where
  w : World
  A : Around
  s : Shared
  base : Heap
  h₀ : Heap
  outer : List Env
  env : Env
  L : Addr
  m : Str → Option Value
  news : List (Addr × Obj)
  Q : Value → Shared → Prop
  E : Value → Shared → Prop
  aH : Addr
  aM : Addr
  aS : Addr
  vH : List Value
  vM : List Value
  vS : List Value
  hs : List Int
  is : List Int
  ms : List (Int × Int)
  nH : Nat
  nM : Nat
  nS : Nat
  n : Nat
  disc : Nat → Nat
  over : Nat → Nat
  g' : Heap
  L' : Addr
  h' : Heap
  tk' : Nat
  oS0 : Obj
  oT0 : Obj
  oP0 : Obj
  oM : Obj
  oH : Obj
theorem ne : Nonempty RV := ⟨⟨aWorld 1, {}, { heap := default, gens := #[], drawn := {}, toks := 0, os := default }, default, default, [], default, (0 : Nat), fun _ => none, [], fun _ _ => True, fun _ _ => True, (0 : Nat), (0 : Nat), (0 : Nat), [], [], [], [], [], [], 0, 0, 0, 0, id, id, default, (0 : Nat), default, 0, default, default, default, default, default⟩⟩
noncomputable def PP (v : RV) : Prop := rimsIn.1 v.w v.A v.s v.base v.h₀ v.outer v.env v.L v.m v.news v.Q v.E v.aH v.aM v.aS v.vH v.vM v.vS v.hs v.is v.ms v.nH v.nM v.nS v.n v.disc v.over v.g' v.L' v.h' v.tk' v.oS0 v.oT0 v.oP0 v.oM v.oH
@[irreducible] noncomputable def rv : RV := @Classical.epsilon RV ne (fun v => ¬ PP v)
@[irreducible] noncomputable def w : World := rv.w
@[irreducible] noncomputable def A : Around := rv.A
@[irreducible] noncomputable def s : Shared := rv.s
@[irreducible] noncomputable def base : Heap := rv.base
@[irreducible] noncomputable def h₀ : Heap := rv.h₀
@[irreducible] noncomputable def outer : List Env := rv.outer
@[irreducible] noncomputable def env : Env := rv.env
@[irreducible] noncomputable def L : Addr := rv.L
@[irreducible] noncomputable def m : Str → Option Value := rv.m
@[irreducible] noncomputable def news : List (Addr × Obj) := rv.news
@[irreducible] noncomputable def Q : Value → Shared → Prop := rv.Q
@[irreducible] noncomputable def E : Value → Shared → Prop := rv.E
@[irreducible] noncomputable def aH : Addr := rv.aH
@[irreducible] noncomputable def aM : Addr := rv.aM
@[irreducible] noncomputable def aS : Addr := rv.aS
@[irreducible] noncomputable def vH : List Value := rv.vH
@[irreducible] noncomputable def vM : List Value := rv.vM
@[irreducible] noncomputable def vS : List Value := rv.vS
@[irreducible] noncomputable def hs : List Int := rv.hs
@[irreducible] noncomputable def is : List Int := rv.is
@[irreducible] noncomputable def ms : List (Int × Int) := rv.ms
@[irreducible] noncomputable def nH : Nat := rv.nH
@[irreducible] noncomputable def nM : Nat := rv.nM
@[irreducible] noncomputable def nS : Nat := rv.nS
@[irreducible] noncomputable def n : Nat := rv.n
@[irreducible] noncomputable def disc : Nat → Nat := rv.disc
@[irreducible] noncomputable def over : Nat → Nat := rv.over
@[irreducible] noncomputable def g' : Heap := rv.g'
@[irreducible] noncomputable def L' : Addr := rv.L'
@[irreducible] noncomputable def h' : Heap := rv.h'
@[irreducible] noncomputable def tk' : Nat := rv.tk'
@[irreducible] noncomputable def oS0 : Obj := rv.oS0
@[irreducible] noncomputable def oT0 : Obj := rv.oT0
@[irreducible] noncomputable def oP0 : Obj := rv.oP0
@[irreducible] noncomputable def oM : Obj := rv.oM
@[irreducible] noncomputable def oH : Obj := rv.oH
set_option maxRecDepth 100000 in
set_option maxHeartbeats 8000000 in
theorem in0 : rimsIn.1 w A s base h₀ outer env L m news Q E aH aM aS vH vM vS hs is ms nH nM nS n disc over g' L' h' tk' oS0 oT0 oP0 oM oH := by
  unfold rimsIn
  (try dsimp only)
  intro hmH hmM hmS hvH hvM hvS hn hnm hn0 hn1 hi1 hso hd ho hA hB hC h F' B' X' hnlt N' dS0 dT0 dP0 dM dH hvl hvm hT
  obtain ⟨p, loose, mean, mg, mb, T'⟩ := hT
  (try dsimp only)
  (try k_fold)
  k_steps
  refine ⟨?_⟩
  refine comp_assignI (fun _ => true) (fun i => i) rfl rfl rfl (by decide) rfl (by decide) rfl rfl rfl ?_
  k_steps
  rename_i hR F2 N2 k2
  clear k2
  refine ⟨⟨_, _, _, _, F2, N2, .range hR (by (first | assumption | lia | omega)), ⟨?_, ?_⟩, ?_⟩⟩
  · intro C i t s₃ m₃ E' hi hN hm hk
    exact wpAny_tests_nil ⟨rfl, keeps_refl _⟩
  · intro C i t s₃ m₃ E' hi hq hN hm hk
    k_steps
    exact keeps_refl _
  · intro D h2 tk2 ys nn hD hys F3 N3
    simp only [List.map_id', filt_true] at hys
    clear N2 F2 hR
    rw [hvl] at hys
    replace F3 : Fr g' L' h2 _ := F3
    replace N3 : News g' L' h2 _ := N3
    have hc1 : ∀ p ∈ news, p.1 ≠ L' + 1 := fun p hp => Nat.ne_of_lt (Nat.lt_succ_of_lt (hnlt p hp))
    have hc2 : ∀ p ∈ news, p.1 ≠ L' + 1 + 1 := fun p hp => Nat.ne_of_lt (Nat.lt_succ_of_lt (Nat.lt_succ_of_lt (hnlt p hp)))
    have hc3 : ∀ p ∈ news, p.1 ≠ L' + 1 + 1 + 1 := fun p hp => Nat.ne_of_lt (Nat.lt_succ_of_lt (Nat.lt_succ_of_lt (Nat.lt_succ_of_lt (hnlt p hp))))
    have hc4 : ∀ p ∈ news, p.1 ≠ L' + 1 + 1 + 1 + 1 := fun p hp => Nat.ne_of_lt (Nat.lt_succ_of_lt (Nat.lt_succ_of_lt (Nat.lt_succ_of_lt (Nat.lt_succ_of_lt (hnlt p hp)))))
    have hc5 : ∀ p ∈ news, p.1 ≠ L' + 1 + 1 + 1 + 1 + 1 := fun p hp => Nat.ne_of_lt (Nat.lt_succ_of_lt (Nat.lt_succ_of_lt (Nat.lt_succ_of_lt (Nat.lt_succ_of_lt (Nat.lt_succ_of_lt (hnlt p hp))))))
    simp only [List.forall_mem_cons] at hD
    obtain ⟨hD5, hD4, hD3, hD2, hD1, hDn⟩ := hD
    replace hD5 := neN hD5
    replace hD4 := neN hD4
    replace hD3 := neN hD3
    replace hD2 := neN hD2
    replace hD1 := neN hD1
    dsimp only
    k_steps
    refine ⟨?_⟩
    rename_i h3 F4 N4
    rw [toI_range] at hys
    refine ksw_while (σ := RimS) (fun c => (D, lisO c.vl c.nl) :: (L' + 1 + 1 + 1 + 1 + 1, c.oS) :: (L' + 1 + 1 + 1 + 1, c.oT) :: (L' + 1 + 1 + 1, c.oP) :: (L' + 1 + 1, oM) :: (L' + 1, oH) :: news)
      (fun c => [(Str.ofString "rims", .int (c.R : Nat) c.tR)]) (fun _ => True) [Str.ofString "start", Str.ofString "walking", Str.ofString "over"]
      (fun c => IntsAre c.vl (toI c.left) ∧ c.left.length < 100 ∧ Outer n disc over c.left c.R c.rim c.starts ∧ (∃ v, c.oP.data = .cell v) ∧ (∃ v, c.oT.data = .cell v) ∧ (∃ v, c.oS.data = .cell v))
      (fun c => c.left.length)
      ⟨ys, nn, List.range n, 0, _, fun _ => 0, [], oP0, oT0, oS0⟩ F4 N4 trivial (by kst_all) ⟨hys, by show (List.range n).length < 100; simpa using hn1, Outer.first n disc over, ⟨_, dP0⟩, ⟨_, dT0⟩, ⟨_, dS0⟩⟩ ?_
    clear F4 N4
    rintro ⟨vl, nl, left, R, tR, rim, starts, oP, oT, oS⟩ u h4 tk4 _ ⟨p1, p2, p3, ⟨vP, p4⟩, ⟨vT, p5⟩, ⟨vS, p6⟩⟩ F5 N5
    dsimp only [kstB] at p1 p2 p3 p4 p5 p6 F5 N5 ⊢
    have hvle : vl.length = left.length := by rw [p1.length, toI_length]
    rcases left with _ | ⟨start, tl⟩
    · have hx : toI [] = [] := rfl
      (try k_fold)
      k_steps
      rename_i F6 N6 _
      refine leaveK_ F6 N6 ?_
      intro kF kN
      exact h _ _ _ _ p3.last kF (news_sub kN fun p hp => .tail _ (.tail _ (.tail _ (.tail _ (.tail _ (.tail _ (.tail _ hp)))))))
    · have hx : ((start : Int) :: toI tl) ≠ [] := by intro e; cases e
      replace p1 : IntsAre vl ((start : Int) :: toI tl) := p1
      (try k_fold)
      k_steps
      refine ⟨?_⟩
      rename_i l0 h5 l1 t0 h6 h7 o0 d0 h8 F6 N6
      replace d0 : o0.data = .cell (some (.int (start : Nat) t0)) := d0
      have hs0 : start ∈ start :: tl := List.mem_cons_self ..
      have hcl := p3.closed hd ho
      refine ksw_while (σ := RimT) (fun c => (l0, W.listOf #[] 0) :: (D, lisO c.vl c.nl) :: (L' + 1 + 1 + 1 + 1 + 1, c.oS) :: (L' + 1 + 1 + 1 + 1, c.oT) :: (L' + 1 + 1 + 1, c.oP) :: (L' + 1 + 1, oM) :: (L' + 1, oH) :: news)
        (fun c => [(Str.ofString "walking", .bool c.b)]) (fun _ => True) [Str.ofString "over"]
        (fun c => IntsAre c.vl (toI c.left) ∧ c.left.length < 100 ∧ (∃ t, c.oP.data = .cell (some (.int (c.place : Nat) t))) ∧ (∃ v, c.oT.data = .cell v) ∧ (∃ v, c.oS.data = .cell v) ∧
          (c.b = true → Head n disc over (start :: tl) start c.left c.place) ∧ (c.b = false → After n disc over (start :: tl) start c.left start ∧ c.left.length < (start :: tl).length))
        (fun c => c.left.length)
        ⟨vl, nl, start :: tl, start, true, o0, oT, oS⟩ F6 N6 trivial (by kst_all) ⟨p1, p2, ⟨_, d0⟩, ⟨_, p5⟩, ⟨_, p6⟩, fun _ => p3.head hs0, fun e => nomatch e⟩ ?_
      clear F6 N6
      rintro ⟨vl2, nl2, left2, place, b, oP2, oT2, oS2⟩ u2 h9 tk9 _ ⟨q1, q2, ⟨tp, q3⟩, ⟨vT2, q4⟩, ⟨vS2, q5⟩, q6, q7⟩ F7 N7
      dsimp only [kstB] at q1 q2 q3 q4 q5 q6 q7 F7 N7 ⊢
      cases b with
      | false =>
        clear q6
        obtain ⟨q8, q9⟩ := q7 rfl
        (try k_fold)
        k_steps
        refine ⟨?_⟩
        refine ksw_end ⟨vl2, nl2, left2, R + 1, _, fun p => if p ∈ start :: tl ∧ p ∉ left2 then R else rim p, starts ++ [start], oP2, oT2, oS2⟩ (by assumption) (by assumption) (fun p hp => .tail _ hp) trivial (by kst_all) (by ksw_same)
          ⟨q1, q2, p3.next hd ho hs0 q8, ⟨_, q3⟩, ⟨_, q4⟩, ⟨_, q5⟩⟩ q9
      | true =>
        clear q7
        replace q6 := q6 rfl
        have hpl : (place : Int) ∈ toI left2 := mem_toI.mpr q6.here
        have hpn : place < n := (hcl _ (q6.sub _ q6.here)).1
        have hpI : (place : Int) < (n : Int) := by (first | assumption | lia | omega)
        obtain ⟨hq1, hq2⟩ := q6.step hd ho hcl hs0
        have hpl2 : ((disc place : Nat) : Int) ∈ toI (left2.erase place) := mem_toI.mpr hq1
        have hdn : disc place < n := hd.lt _ hpn
        have hdI : ((disc place : Nat) : Int) < (n : Int) := by (first | assumption | lia | omega)
        have hle1 : (left2.erase place).length ≤ left2.length := List.length_erase_le ..
        obtain ⟨hc1, hc2, rr, hcr⟩ := hC (disc place) hdn
        replace hc1 : 0 ≤ (ms[((disc place : Nat) : Int).toNat]?.getD (0, 0)).1 := hc1
        replace hc2 : (ms[((disc place : Nat) : Int).toNat]?.getD (0, 0)).1 < (is.length : Int) := hc2
        (try k_fold)
        k_steps
        refine ⟨?_⟩
        refine if_cell (pre := [_, _, _, _]) (c := L' + 1 + 1 + 1) ((disc place : Nat) : Int) (by k_asm) (by k_asm) ?_ ?_
        · k_steps
          all_goals (refine ⟨mod_disc (c := disc place) (by (first | assumption | lia | omega)) (by rw [hvl]; first | exact hA place hpn (by assumption) _ (by assumption) | exact hB place hpn (by assumption) _ (by assumption)) ?_⟩)
          all_goals k_steps
          all_goals exact ⟨⟨rfl, _, _, _, _, rfl, by assumption, by assumption, by assumption⟩⟩
        intro h10 tk10 oP3 tP3 F8a N8a dP3
        replace N8a : News g' L' h10 ((l0, W.listOf #[] 0) :: _ :: _ :: _ :: (L' + 1 + 1 + 1, oP3) :: _ :: _ :: news) := N8a
        (try dsimp only)
        k_steps
        refine ⟨?_⟩
        refine if_same (by k_asm) (by k_asm) ?_ ?_
        · k_steps
          all_goals (first | exact (is_no (by assumption)).elim | exact ⟨⟨rfl, _, _, rfl, by assumption, by assumption⟩⟩)
        intro h11 tk11 F8b N8b
        (try dsimp only)
        have mkI : MkI := ⟨trivial⟩
        k_steps
        refine ⟨?_⟩
        refine if_cell (pre := [_, _]) (c := L' + 1 + 1 + 1 + 1 + 1) (if is[(ms[((disc place : Nat) : Int).toNat]?.getD (0, 0)).1.toNat]?.getD 0 < 256 then 1 - (ms[((disc place : Nat) : Int).toNat]?.getD (0, 0)).2 else (ms[((disc place : Nat) : Int).toNat]?.getD (0, 0)).2) (by k_asm) (by k_asm) ?_ ?_
        · k_steps
          · rename_i hx9 _ _ _ _ _ _
            exact ⟨⟨rfl, _, _, _, _, rfl, by assumption, by assumption, by rw [if_pos (by assumption)]; assumption⟩⟩
          · exact ⟨⟨rfl, _, _, _, _, rfl, by assumption, by assumption, by rw [if_neg (by first | assumption | (refine Int.not_lt.mpr ?_; assumption))]; assumption⟩⟩
        intro h12 tk12 oS3 tS3 F8c N8c dS3
        replace N8c : News g' L' h12 ((l0, W.listOf #[] 0) :: _ :: (L' + 1 + 1 + 1 + 1 + 1, oS3) :: _ :: _ :: _ :: _ :: news) := N8c
        replace hcr : overF hs is ms n (ms[((disc place : Nat) : Int).toNat]?.getD (0, 0)).1 (if is[(ms[((disc place : Nat) : Int).toNat]?.getD (0, 0)).1.toNat]?.getD 0 < 256 then 1 - (ms[((disc place : Nat) : Int).toNat]?.getD (0, 0)).2 else (ms[((disc place : Nat) : Int).toNat]?.getD (0, 0)).2) (hs[((disc place : Nat) : Int).toNat]?.getD 0) = ((over (disc place) : Nat) : Int) :: rr := hcr
        generalize (if is[(ms[((disc place : Nat) : Int).toNat]?.getD (0, 0)).1.toNat]?.getD 0 < 256 then 1 - (ms[((disc place : Nat) : Int).toNat]?.getD (0, 0)).2 else (ms[((disc place : Nat) : Int).toNat]?.getD (0, 0)).2) = sv at *
        (try dsimp only)
        k_steps
        refine ⟨?_⟩
        · obtain ⟨q, hq, hov⟩ := over_any hcr
          refine comp_assignI q (fun i => i) rfl rfl rfl (by decide) rfl (by decide) rfl rfl rfl ?_
          k_steps
          rename_i hR8 F8 N8 k8
          clear k8
          replace N8 : News g' L' _ _ := N8
          refine ⟨⟨_, _, _, _, F8, N8, .range hR8 (by (first | assumption | lia | omega)), ⟨?_, ?_⟩, ?_⟩⟩
          · intro C i t s₃ m₃ E' hi hN hm hk
            obtain ⟨hi1, hi2⟩ := mem_rangeI.mp hi
            have cH : s₃.heap.IsCell (L' + 1) (some (.ref aH)) := cell_kept ⟨_, (N8 (L' + 1, _) (by k_mem)).1, by assumption⟩ hk
            have cM : s₃.heap.IsCell (L' + 1 + 1) (some (.ref aM)) := cell_kept ⟨_, (N8 (L' + 1 + 1, _) (by k_mem)).1, by assumption⟩ hk
            have cP : s₃.heap.IsCell (L' + 1 + 1 + 1) _ := cell_kept ⟨_, (N8 (L' + 1 + 1 + 1, _) (by k_mem)).1, by assumption⟩ hk
            have cT : s₃.heap.IsCell (L' + 1 + 1 + 1 + 1) _ := cell_kept ⟨_, (N8 (L' + 1 + 1 + 1 + 1, _) (by k_mem)).1, by assumption⟩ hk
            have cS : s₃.heap.IsCell (L' + 1 + 1 + 1 + 1 + 1) _ := cell_kept ⟨_, (N8 (L' + 1 + 1 + 1 + 1 + 1, _) (by k_mem)).1, by assumption⟩ hk
            have hHl : s₃.heap.IsList aH vH.toArray := list_kept (list_at N8 (show (aH, _) ∈ _ by k_mem)) hk
            have hMl : s₃.heap.IsList aM vM.toArray := list_kept (list_at N8 (show (aM, _) ∈ _ by k_mem)) hk
            refine wpAny_tests_one ?_
            k_steps
            rename_i r9 t9 u9 hm9
            refine ⟨new_pair_then ?_⟩
            intro h11 a11 hp9 hT11
            have cH9 := cell_kept cH hp9
            have cP9 := cell_kept cP hp9
            have hHl9 := list_kept hHl hp9
            have hT9 : h11.IsTuple r9 _ := ⟨_, hp9 _ _ (hk _ _ (N8 (r9, _) (by k_mem)).1), rfl, 0, rfl⟩
            have hN9 := hN.keeps hp9
            k_steps
            refine ⟨eq_pair hT9 hT11 (Nat.le_of_ble_eq_true rfl) ?_⟩
            k_steps
            · rw [hq]; exact q_tt (by assumption) (by assumption)
            · exact ⟨_, _, rfl, hp9⟩
            · rw [hq]; exact q_tf (by assumption) (by assumption)
            · exact ⟨_, _, rfl, hp9⟩
            · rw [hq]; exact q_f (by assumption)
            · exact ⟨_, _, rfl, hp9⟩
          · intro C i t s₃ m₃ E' hi hq hN hm hk
            k_steps
            exact keeps_refl _
          · intro D2 h10 tk10 ys2 nn2 hD2 hys2 F9 N9
            simp only [List.map_id'] at hys2
            rw [hvl, hov] at hys2
            replace F9 : Fr g' L' h10 _ := F9
            replace N9 : News g' L' h10 _ := N9
            clear N8 F8 hR8
            simp only [List.forall_mem_cons] at hD2
            obtain ⟨g6, g0, g5, g4, g3, g2, g1, _⟩ := hD2
            replace g0 := neN g0
            replace g1 := neN g1
            replace g2 := neN g2
            replace g3 := neN g3
            replace g4 := neN g4
            replace g5 := neN g5
            replace g6 := neN g6
            dsimp only
            k_steps
            refine ⟨?_⟩
            have hlen1 : (left2.erase place).length = left2.length - 1 := List.length_erase_of_mem q6.here
            have hlen2 : ((left2.erase place).erase (disc place)).length = (left2.erase place).length - 1 := List.length_erase_of_mem hq1
            have hlen3 : 0 < left2.length := List.length_pos_of_mem q6.here
            have hlen4 : left2.length ≤ (start :: tl).length := nodup_len q6.nodup q6.sub
            refine ksw_end ⟨_, _, (left2.erase place).erase (disc place), over (disc place), (((over (disc place) : Nat) : Int) != ((start : Nat) : Int)), _, _, _⟩ (by assumption) (by assumption) (fun p hp => .tail _ hp) trivial (by kst_all) (by ksw_same)
              ⟨by assumption, by dsimp only; (first | assumption | lia | omega), ⟨_, by assumption⟩, ⟨_, by assumption⟩, ⟨_, by assumption⟩, fun e => ?_, fun e => ⟨?_, ?_⟩⟩ (by dsimp only; (first | assumption | lia | omega))
            · exact hq2.head (fun e2 => by dsimp only at e; rw [e2] at e; simp at e)
            · have e2 : over (disc place) = start := by
                have e3 : ((over (disc place) : Nat) : Int) = ((start : Nat) : Int) := by simpa using e
                (first | assumption | lia | omega)
              rw [e2] at hq2; exact hq2
            · dsimp only; (first | assumption | lia | omega)
theorem in1 : PP rv := by
  have q := in0
  unfold w A s base h₀ outer env L m news Q E aH aM aS vH vM vS hs is ms nH nM nS n disc over g' L' h' tk' oS0 oT0 oP0 oM oH at q
  exact q
end RX
theorem rims_spec {w : World} {A : Around} {s : Shared} {base h₀ : Heap} {outer : List Env} {env : Env} {L : Addr} {m : Str → Option Value} {news : List (Addr × Obj)} {Q E : Value → Shared → Prop} {aH aM aS : Addr} {vH vM vS : List Value} {hs is : List Int} {ms : List (Int × Int)} {nH nM nS n : Nat} {disc over : Nat → Nat}
   (C : Cx w A 450 base env outer h₀ L) (F : Fr h₀ L s.heap m) (N : News h₀ L s.heap news)
   (hmH : (aH, lisO vH nH) ∈ news) (hmM : (aM, lisO vM nM) ∈ news) (hmS : (aS, lisO vS nS) ∈ news) (hvH : IntsAre vH hs) (hvM : Pairs news vM ms) (hvS : IntsAre vS is)
   (hn : hs.length = n) (hnm : ms.length = n) (hn0 : 0 < n) (hn1 : n < 100) (hi1 : is.length < 100) (hso : Sorted hs) (hd : Inv n disc) (ho : Inv n over)
   (hA : ∀ p : Nat, p < n → (ms[p]?.getD (0, 0)).2 = 1 → ∀ q : Nat, RightAt hs (hs[p]?.getD 0) q → Int.fmod (q : Int) (n : Int) = ((disc p : Nat) : Int))
   (hB : ∀ p : Nat, p < n → (ms[p]?.getD (0, 0)).2 ≠ 1 → ∀ q : Nat, LeftAt hs (hs[p]?.getD 0) q → Int.fmod ((q : Int) - 1) (n : Int) = ((disc p : Nat) : Int))
   (hC : ∀ p : Nat, p < n → 0 ≤ (ms[p]?.getD (0, 0)).1 ∧ (ms[p]?.getD (0, 0)).1 < is.length ∧
      ∃ r, overF hs is ms n (ms[p]?.getD (0, 0)).1 (if is[(ms[p]?.getD (0, 0)).1.toNat]?.getD 0 < 256 then 1 - (ms[p]?.getD (0, 0)).2 else (ms[p]?.getD (0, 0)).2) (hs[p]?.getD 0) = ((over p : Nat) : Int) :: r)
   (h : ∀ R tk h' tk', RimsOk n disc over R → Fr h₀ L h' m → News h₀ L h' news → Q (.int (R : Nat) tk) { s with heap := h', toks := tk' }) :
   wpAny (model PySem.Challenge.rw_rs0100_01.prog w) A (call (.ref 118) [.ref aH, .ref aM, .ref aS]) Q E s := 
  rimsIn.2 (fun w A s base h₀ outer env L m news Q E aH aM aS vH vM vS hs is ms nH nM nS n disc over g' L' h' tk' oS0 oT0 oP0 oM oH => eps_all (P := RX.PP) (ne := RX.ne) (by have q := RX.in1; unfold RX.rv at q; exact q) ⟨w, A, s, base, h₀, outer, env, L, m, news, Q, E, aH, aM, aS, vH, vM, vS, hs, is, ms, nH, nM, nS, n, disc, over, g', L', h', tk', oS0, oT0, oP0, oM, oH⟩) w A s base h₀ outer env L m news Q E aH aM aS vH vM vS hs is ms nH nM nS n disc over C F N hmH hmM hmS hvH hvM hvS hn hnm hn0 hn1 hi1 hso hd ho hA hB hC h
end
end Mine
end
/-! part G4 -/
section
open PySem PySem.W PyProof.Rows
set_option autoImplicit false
namespace Mine
noncomputable section
variable {prog : Program} {w : World} {A : Around} {s : Shared} {base h₀ : Heap} {outer : List Env} {env : Env} {L : Addr} {m : Str → Option Value} {news rest : List (Addr × Obj)} {E : Value → Shared → Prop}
noncomputable abbrev NsObj := LCg.NsObj
theorem compLoop_rest {elt : PySem.Expr} {gens : List Comprehension} {scope : Scope} {epos : Pos} {depth : Nat} {it acc : Value} {env : Env} {pos : Pos} {target : PySem.Expr} {tail : Sem Unit} {R : Result → Shared → Prop}
    (hturn : compTurn (.ListComp elt gens scope epos) depth it acc env = (standAt pos >>= fun _ => pyNext it >>= fun r => match r with
      | none => pure (.done .next)
      | some v => letOwnedTupleGo target it v >>= fun _ => assign target env v >>= fun _ => tail >>= fun _ => again (.compLoop (.ListComp elt gens scope epos) depth it acc env)))
    (I : Nat → Shared → Prop)
    (turn : ∀ n s, I n s → ∀ E', wpAny (model prog w) A (pyNext it) (fun r s₁ => match r with
      | none => R (.ok .next) s₁
      | some v => wpAny (model prog w) A (letOwnedTupleGo target it v) (fun _ s₀ => wpAny (model prog w) A (assign target env v) (fun _ s₂ => wpAny (model prog w) A tail (fun _ s₅ => ∃ m, m < n ∧ I m s₅) E' s₂) E' s₀) E' s₁) E' s)
    (n : Nat) (h : I n s) : codeAny (model prog w) A (.compLoop (.ListComp elt gens scope epos) depth it acc env) R s := by
  refine codeAny_loop rfl I (fun n s hI => ?_) n h
  show wpAny _ A ((compTurn (.ListComp elt gens scope epos) depth it acc env).onRaise (fun x => do noteFrame x env; theTreesLotGoes x)) _ _ s
  refine wpAny_noted ?_
  rw [hturn]
  refine wpAny_bind (wpAny_standAt (wpAny_bind (wpAny_mono (turn n s hI _) (fun r s₁ h₁ => ?_) fun _ _ h' => h')))
  cases r with
  | none => exact wpAny_pure h₁
  | some v =>
    refine wpAny_bind (wpAny_mono h₁ (fun _ s₀ h₀' => ?_) fun _ _ h' => h')
    refine wpAny_bind (wpAny_mono h₀' (fun _ s₂ h₂ => ?_) fun _ _ h' => h')
    exact wpAny_bind (wpAny_mono h₂ (fun _ s₅ h₅ => wpAny_pure ⟨rfl, h₅⟩) fun _ _ h' => h')
noncomputable def CEnd {σ : Type} (h₀ : Heap) (L : Addr) (m : Str → Option Value) (C : Addr) (Led : σ → List (Addr × Obj)) (nm : σ → Str → Option Value) (P : σ → Prop) (own : List (Addr × Obj)) (I : Addr) (s₁ s₂ : Shared) : Prop :=
  ∃ (c : σ) (h' : Heap) (tk : Nat) (oC : Obj) (news' : List (Addr × Obj)), s₂ = { s₁ with heap := h', toks := tk } ∧ Fr h₀ L h' m ∧ News h₀ L h' news' ∧ (C, oC) ∈ news' ∧ NsObj oC (nm c) ∧ (∀ p ∈ own, p ∈ news') ∧ (∀ p ∈ Led c, p ∈ news') ∧ (∀ p ∈ Led c, p.1 ≠ I ∧ p.1 ≠ C) ∧ P c
theorem comp_loop_st {σ : Type} {elt : PySem.Expr} {gens : List Comprehension} {scope : Scope} {epos : Pos} {depth : Nat} {acc : Value} {cenv : Env} {pos : Pos} {target : PySem.Expr} {tail : Sem Unit} {R : Result → Shared → Prop} {I : Addr} {fp : List Addr} {n : Nat} {PV : Nat → Value → Prop} {St : Nat → Heap → Prop} {C : Addr}
    (hturn : compTurn (.ListComp elt gens scope epos) depth (.ref I) acc cenv = (standAt pos >>= fun _ => pyNext (.ref I) >>= fun r => match r with
      | none => pure (.done .next)
      | some v => letOwnedTupleGo target (.ref I) v >>= fun _ => assign target cenv v >>= fun _ => tail >>= fun _ => again (.compLoop (.ListComp elt gens scope epos) depth (.ref I) acc cenv)))
    (W : Walks prog w A I fp [I] n PV St) (Led : σ → List (Addr × Obj)) (nm : σ → Str → Option Value) (P : Nat → σ → Prop) (c₀ : σ) (T : (Str → Option Value) → Value → (Str → Option Value))
    (hI0 : h₀.get? I = none) (hfL : ∀ b ∈ fp, b ≠ L) (hCf : C ∉ fp) (hCL : C ≠ L) (hC0 : h₀.get? C = none) (hthere : ∀ i h, St i h → ∃ o, h.get? I = some o)
    (hst : St 0 s.heap) (F : Fr h₀ L s.heap m) (hns : s.heap.Ns C (nm c₀)) (N : News h₀ L s.heap (Led c₀)) (hoff : ∀ p ∈ Led c₀, p.1 ≠ I ∧ p.1 ≠ C) (hp : P 0 c₀)
    (hlet : ∀ i v (s : Shared) (Q : Unit → Shared → Prop) (E : Value → Shared → Prop), PV i v → St (i + 1) s.heap → Q () s → wpAny (model prog w) A (letOwnedTupleGo target (.ref I) v) Q E s)
    (hassign : ∀ i v c (s : Shared) (Q : Unit → Shared → Prop) (E : Value → Shared → Prop), PV i v → P i c → News h₀ L s.heap (Led c) → s.heap.Ns C (nm c) →
      (∀ h' tk, h'.Ns C (T (nm c) v) → (∀ b o, b ≠ C → s.heap.get? b = some o → h'.get? b = some o) → Q () { s with heap := h', toks := tk }) → wpAny (model prog w) A (assign target cenv v) Q E s)
    (turn : ∀ i v c h tk own oC E', i < n → PV i v → P i c → (∀ p ∈ own, p.1 ∈ fp) → (∃ o, (I, o) ∈ own) → (∀ p ∈ Led c, p.1 ≠ I ∧ p.1 ≠ C) → NsObj oC (T (nm c) v) → Fr h₀ L h m → News h₀ L h ((C, oC) :: (Led c ++ own)) →
      wpAny (model prog w) A tail (fun _ s₂ => CEnd h₀ L m C Led nm (P (i + 1)) own I { s with heap := h, toks := tk } s₂) E' { s with heap := h, toks := tk })
    (done : ∀ c h tk, P n c → Fr h₀ L h m → h.Ns C (nm c) → News h₀ L h (Led c) → (∀ p ∈ Led c, p.1 ≠ I ∧ p.1 ≠ C) → R (.ok .next) { s with heap := h, toks := tk }) :
    codeAny (model prog w) A (.compLoop (.ListComp elt gens scope epos) depth (.ref I) acc cenv) R s := by
  have hIf : I ∈ fp := W.sub _ (List.mem_singleton.mpr rfl)
  refine compLoop_rest hturn
    (fun k s' => ∃ h' tk i c, s' = { s with heap := h', toks := tk } ∧ i ≤ n ∧ k = n + 1 - i ∧ St i h' ∧ Fr h₀ L h' m ∧ h'.Ns C (nm c) ∧ News h₀ L h' (Led c) ∧ (∀ p ∈ Led c, p.1 ≠ I ∧ p.1 ≠ C) ∧ P i c) ?_ (n + 1)
    ⟨s.heap, s.toks, 0, c₀, rfl, Nat.zero_le _, rfl, hst, F, hns, N, hoff, hp⟩
  rintro k s' ⟨h', tk, i, c, rfl, hi, rfl, hst', F', hns', N', hoff', hP⟩ E'
  by_cases hlt : i < n
  · refine W.item i _ _ _ hlt hst' fun v h₁ tk₁ hPv hst₁ hk₁ => ?_
    dsimp only at hk₁
    refine hlet i v _ _ _ hPv hst₁ ?_
    have up₁ : ∀ b o, b ≠ I → h'.get? b = some o → h₁.get? b = some o := fun b o hb e => hk₁ b o (by simpa using hb) e
    have hCI : C ≠ I := fun e => hCf (e ▸ hIf)
    have hns₁ : h₁.Ns C (nm c) := hns'.at' fun o e => up₁ _ o hCI e
    have N₁ : News h₀ L h₁ (Led c) := fun p hp => ⟨up₁ _ _ (hoff' p hp).1 (N' p hp).1, (N' p hp).2⟩
    have F₁ : Fr h₀ L h₁ m := ⟨F'.ns.at' fun o e => up₁ _ o (Ne.symm (hfL _ hIf)) e, fun b o e => up₁ b o (fun q => by rw [q, hI0] at e; cases e) (F'.keep b o e), F'.above⟩
    refine hassign i v c _ _ _ hPv hP N₁ hns₁ fun h₂ tk₂ hns₂ hk₂ => ?_
    dsimp only at hk₂
    have F₂ : Fr h₀ L h₂ m := ⟨F₁.ns.at' fun o e => hk₂ _ o (Ne.symm hCL) e, fun b o e => hk₂ b o (fun q => by rw [q, hC0] at e; cases e) (F₁.keep b o e), F'.above⟩
    have N₂ : News h₀ L h₂ (Led c) := fun p hp => ⟨hk₂ _ _ (hoff' p hp).2 (N₁ p hp).1, (N₁ p hp).2⟩
    have hst₂ : St (i + 1) h₂ := W.frame _ _ _ hst₁ fun b hb o e => hk₂ b o (fun q => hCf (q ▸ hb)) e
    obtain ⟨oC, heC, hoC⟩ := LCg.ns_obj hns₂
    let own : List (Addr × Obj) := fp.filterMap fun b => match h₀.get? b with
      | some _ => none
      | none => (h₂.get? b).map (b, ·)
    have mown : ∀ b ∈ fp, ∀ o, h₀.get? b = none → h₂.get? b = some o → (b, o) ∈ own := fun b hb o e1 e2 => List.mem_filterMap.mpr ⟨b, hb, by rw [e1]; simp [e2]⟩
    have ofown : ∀ p ∈ own, p.1 ∈ fp ∧ h₀.get? p.1 = none ∧ h₂.get? p.1 = some p.2 := by
      intro p hp
      obtain ⟨b, hb, e⟩ := List.mem_filterMap.mp hp
      cases q : h₀.get? b with
      | some o => rw [q] at e; cases e
      | none =>
        rw [q] at e
        cases q2 : h₂.get? b with
        | none => rw [q2] at e; cases e
        | some o => rw [q2] at e; cases e; exact ⟨hb, q, q2⟩
    obtain ⟨oI, hoI⟩ := hthere _ _ hst₂
    refine wpAny_mono (turn i v c h₂ tk₂ own oC E' hlt hPv hP (fun p hp => (ofown p hp).1) ⟨oI, mown I hIf oI hI0 hoI⟩ hoff' hoC F₂ (fun p hp => ?_)) (fun _ s₅ h₅ => ?_) fun _ _ e => e
    · rcases List.mem_cons.mp hp with rfl | hp
      · exact ⟨heC, hCL, hC0⟩
      · rcases List.mem_append.mp hp with hp | hp
        · exact N₂ p hp
        · obtain ⟨a1, a2, a3⟩ := ofown p hp
          exact ⟨a3, hfL _ a1, a2⟩
    · obtain ⟨c', h₃, tk₃, oC', news', rfl, F₃, N₃, g1, g2, g3, g4, g5, g6⟩ := h₅
      refine ⟨n + 1 - (i + 1), by (first | lia | omega), h₃, tk₃, i + 1, c', rfl, hlt, rfl, ?_, F₃, g2.ns (N₃ _ g1).1, fun p hp => N₃ p (g4 p hp), g5, g6⟩
      refine W.frame _ _ _ hst₂ fun b hb o e => ?_
      cases q : h₀.get? b with
      | some o' =>
        have e1 := F₂.keep b o' q
        rw [show h₂.get? b = some o from e] at e1
        cases e1
        exact F₃.keep b o q
      | none => exact (N₃ _ (g3 _ (mown b hb o q e))).1
  · have hin : i = n := Nat.le_antisymm hi (Nat.not_lt.mp hlt)
    subst hin
    refine W.done _ _ _ hst' fun h₁ tk₁ hk₁ => ?_
    dsimp only at hk₁
    have up₁ : ∀ b o, b ≠ I → h'.get? b = some o → h₁.get? b = some o := fun b o hb e => hk₁ b o (by simpa using hb) e
    have hCI : C ≠ I := fun e => hCf (e ▸ hIf)
    exact done c h₁ tk₁ hP ⟨F'.ns.at' fun o e => up₁ _ o (Ne.symm (hfL _ hIf)) e, fun b o e => up₁ b o (fun q => by rw [q, hI0] at e; cases e) (F'.keep b o e), F'.above⟩
      (hns'.at' fun o e => up₁ _ o hCI e) (fun p hp => ⟨up₁ _ _ (hoff' p hp).1 (N' p hp).1, (N' p hp).2⟩) hoff'
theorem compStart_any {elt : PySem.Expr} {gens : List Comprehension} {scope : Scope} {epos : Pos} {depth : Nat} {it acc : Value} {env : Env} {target iter : PySem.Expr} {ifs : List PySem.Expr} {R : Result → Shared → Prop} (hcl : gens[depth]? = some ⟨target, iter, ifs, 0⟩)
    (h0 : codeAny (model prog w) A (.compLoop (.ListComp elt gens scope epos) depth it acc env) R s)
    (h : ∀ E', wpAny (model prog w) A (pyIter it) (fun it' s' => codeAny (model prog w) A (.compLoop (.ListComp elt gens scope epos) depth it' acc env) R s') E' s) :
    codeAny (model prog w) A (.compStart (.ListComp elt gens scope epos) depth it acc env) R s := by
  refine codeAny_of_tree ?_
  show wpAny _ _ ((compStart (.ListComp elt gens scope epos) depth it acc env).onRaise (fun x => do noteFrame x env; standAt theWindowsPlace)) _ _ s
  refine wpAny_notedAt ?_
  unfold compStart
  simp only [show clausesOf (.ListComp elt gens scope epos) = gens from rfl, hcl]
  show wpAny _ _ (ask >>= _) _ _ s
  refine wpAny_bind (wpAny_askSetting (wpAny_ite ?_))
  split
  · first
      | exact wpAny_bind (wpAny_pure (wpAny_pure (And.intro rfl h0)))
      | exact wpAny_pure (And.intro rfl h0)
  · first
      | exact wpAny_bind (wpAny_rule (wpAny_bind (wpAny_standAt (wpAny_bind (wpAny_mono (h _) (fun it' s' h' => wpAny_pure (And.intro rfl h')) fun _ _ x => x)))))
      | (refine wpAny_bind (wpAny_rule ?_); show wpAny _ _ (standAt iter.pos >>= _) _ _ s; exact wpAny_bind (wpAny_standAt (wpAny_bind (wpAny_mono (h _) (fun it' s' h' => wpAny_pure (And.intro rfl h')) fun _ _ x => x))))
end
end Mine
end
/-! part G5 -/
section
open PySem PySem.W PyProof.Rows
set_option autoImplicit false
namespace Mine
noncomputable section
variable {prog : Program} {w : World} {A : Around} {s : Shared} {base h₀ : Heap} {outer : List Env} {env : Env} {L : Addr} {m : Str → Option Value} {news rest : List (Addr × Obj)} {E : Value → Shared → Prop}
/-- where a comprehension's first loop starts -/
structure CAt (prog : Program) (w : World) (A : Around) (h₀ : Heap) (L : Addr) (m : Str → Option Value) (news : List (Addr × Obj)) (I : Addr) (fp : List Addr) (D C : Addr) (h : Heap) : Prop where
  hI0 : h₀.get? I = none
  hfL : ∀ b ∈ fp, b ≠ L
  hCf : C ∉ fp
  hDf : D ∉ fp
  hCL : C ≠ L
  hC0 : h₀.get? C = none
  F : Fr h₀ L h m
  ns : h.Ns C (fun _ => none)
  N : News h₀ L h ((D, lisO [] 0) :: news)
  hoff : ∀ p ∈ (D, lisO [] 0) :: news, p.1 ≠ I ∧ p.1 ≠ C
  hD : ∀ p ∈ news, p.1 ≠ D
  hDI : I < D
  hDC : D < C
/-- ready to iterate: I is the iterator -/
noncomputable def CSrc (prog : Program) (w : World) (A : Around) (env : Env) (elt target iter : PySem.Expr) (ifs : List PySem.Expr) (gs : List Comprehension) (scope : Scope) (cl : List (Str × Addr)) (pos : Pos) (RR : Value → Addr → Result → Shared → Prop) (it : Value) (s₂ : Shared) : Prop :=
  ∃ I fp n PV St h₀ L m news, it = .ref I ∧ Walks prog w A I fp [I] n PV St ∧ St 0 s₂.heap ∧ Fr h₀ L s₂.heap m ∧ News h₀ L s₂.heap news ∧ h₀.get? I = none ∧ (∀ b ∈ fp, b ≠ L) ∧ (∀ p ∈ news, p.1 ≠ I) ∧ (∀ b ∈ fp, b < s₂.heap.objs.size) ∧
    ∀ D C h tk, CAt prog w A h₀ L m news I fp D C h → St 0 h →
      codeAny (model prog w) A (.compLoop (.ListComp elt (⟨target, iter, ifs, 0⟩ :: gs) scope pos) 0 (.ref I) (.ref D) (compEnvC scope cl C env)) (RR (.ref D) C) { s₂ with heap := h, toks := tk }
theorem comp_blk {elt target iter : PySem.Expr} {ifs : List PySem.Expr} {gs : List Comprehension} {scope : Scope} {cl : List (Str × Addr)} {pos : Pos} {RR : Value → Addr → Result → Shared → Prop} {it : Value} {s₂ : Shared}
    (hcell : ∀ y ∈ scope.names, y.2 ≠ .cell) (hkind : scope.kind = .function)
    (h : CSrc prog w A env elt target iter ifs gs scope cl pos RR it s₂) :
    wpAny (model prog w) A (newList []) (fun acc s₃ => wpAny (model prog w) A (newFunctionEnv scope env.globals cl [] env.qual none .none (some env)) (fun cenv s₄ =>
      codeAny (model prog w) A (.compStart (.ListComp elt (⟨target, iter, ifs, 0⟩ :: gs) scope pos) 0 it acc { cenv with scope := relabel scope env }) (RR acc cenv.locals) s₄) E s₃) E s₂ := by
  obtain ⟨I, fp, n, PV, St, h₀, L, m, news, rfl, W, hst, F, N, hI0, hfL, hnI, hfp, go⟩ := h
  refine wpAny_newObj_type (wpAny_newFunctionEnv hcell (by intro y hy; simp at hy) (fun h₁ hns₁ hsb₁ => ?_) hkind)
  dsimp only at hns₁ hsb₁ ⊢
  generalize hH2 : s₂.heap.push { cls := .type "list", dict := none, data := .seq ([] : List Value).toArray } = H2 at hns₁ hsb₁ ⊢
  have hC : H2.objs.size = s₂.heap.objs.size + 1 := by rw [← hH2, Heap.size_push]
  have hDC : s₂.heap.objs.size ≠ H2.objs.size := by rw [hC]; exact Nat.ne_of_lt (Nat.lt_succ_self _)
  have below : ∀ b, b < s₂.heap.objs.size → b ≠ H2.objs.size ∧ b ≠ s₂.heap.objs.size := fun b hb => ⟨by rw [hC]; exact Nat.ne_of_lt (Nat.lt_succ_of_lt hb), Nat.ne_of_lt hb⟩
  have hIf : I ∈ fp := W.sub _ (List.mem_singleton.mpr rfl)
  have hIlt : I < s₂.heap.objs.size := hfp I hIf
  have old : ∀ b o, s₂.heap.get? b = some o → h₁.get? b = some o := fun b o e => hsb₁.extBut b o (below b (Heap.lt_size e)).1 (Heap.get?_push_of_some _ (hH2 ▸ Heap.get?_push_of_some _ e))
  have hacc : h₁.get? s₂.heap.objs.size = some (lisO [] 0) := hsb₁.extBut _ _ hDC (Heap.get?_push_of_some _ (hH2 ▸ Heap.get?_push_size _ rfl))
  have hLlt : L < s₂.heap.objs.size := F.ns.lt
  have fresh₀ : ∀ a, s₂.heap.objs.size ≤ a → h₀.get? a = none := fun a ha => by
    cases e : h₀.get? a with
    | none => rfl
    | some o' => exact absurd (Heap.lt_size (F.keep a o' e)) (Nat.not_lt.mpr ha)
  have at0 : CAt prog w A h₀ L m news I fp s₂.heap.objs.size H2.objs.size h₁ :=
    { hI0 := hI0
      hfL := hfL
      hCf := fun hm => (below _ (hfp _ hm)).1 rfl
      hDf := fun hm => (below _ (hfp _ hm)).2 rfl
      hCL := Ne.symm (below L hLlt).1
      hC0 := fresh₀ _ (by rw [hC]; exact Nat.le_succ _)
      F := F.keeps old
      ns := hns₁
      N := fun p hp => by
        rcases List.mem_cons.mp hp with rfl | hp
        · exact ⟨hacc, Ne.symm (below L hLlt).2, fresh₀ _ (Nat.le_refl _)⟩
        · exact ⟨old _ _ (N p hp).1, (N p hp).2⟩
      hoff := fun p hp => by
        rcases List.mem_cons.mp hp with rfl | hp
        · exact ⟨Ne.symm (below I hIlt).2, hDC⟩
        · exact ⟨hnI p hp, (below _ (Heap.lt_size (N p hp).1)).1⟩
      hD := fun p hp => (below _ (Heap.lt_size (N p hp).1)).2
      hDI := hIlt
      hDC := by rw [hC]; exact Nat.lt_succ_self _ }
  have hst₁ : St 0 h₁ := W.frame _ _ _ hst fun b _ o e => old b o e
  exact compStart_any rfl (go _ _ h₁ _ at0 hst₁) fun E' => W.self 0 _ _ _ hst₁ (go _ _ h₁ _ at0 hst₁)
theorem comp_eval_st {elt target iter : PySem.Expr} {ifs : List PySem.Expr} {gs : List Comprehension} {scope : Scope} {cl : List (Str × Addr)} {pos : Pos} {Q : Value → Shared → Prop}
    (hclos : closureFor scope env = pure cl) (hcell : ∀ y ∈ scope.names, y.2 ≠ .cell) (hkind : scope.kind = .function)
    (hnames : ∀ y ∈ scope.names, y.2 = .local → scope.names.lookup y.1 = some .local)
    (h : wpAny (model prog w) A (eval iter env) (fun xv s₁ => Stop (wpAny (model prog w) A (pyIter xv) (CSrc prog w A env elt target iter ifs gs scope cl pos (fun acc C => compPost (model prog w) A E none Q acc C)) E s₁)) E s)
    (hs : ∀ x, foldedSetIterable iter env x = pure x := by intro _; rfl) :
    wpAny (model prog w) A (eval (.ListComp elt (⟨target, iter, ifs, 0⟩ :: gs) scope pos) env) Q E s := by
  rw [eval_ListComp]
  exact wpAny_comprehension_free (use := none) rfl hs hclos hkind hnames (wpAny_mono h (fun xv s₁ h₁ => wpAny_mono h₁.out (fun it s₂ h₂ => comp_blk hcell hkind h₂) fun _ _ e => e) fun _ _ e => e)
theorem comp_assign_st {elt target iter : PySem.Expr} {ifs : List PySem.Expr} {gs : List Comprehension} {scope : Scope} {cl : List (Str × Addr)} {pos spos py : Pos} {y : Str} {Q : Flow → Shared → Prop}
    (hsw : swapsWith (.ListComp elt (⟨target, iter, ifs, 0⟩ :: gs) scope pos) (some (.Name y py)) spos.line env = pure true)
    (hclos : closureFor scope env = pure cl) (hcell : ∀ y ∈ scope.names, y.2 ≠ .cell) (hkind : scope.kind = .function)
    (hnames : ∀ y ∈ scope.names, y.2 = .local → scope.names.lookup y.1 = some .local)
    (h : wpAny (model prog w) A (eval iter env) (fun xv s₁ => Stop (wpAny (model prog w) A (pyIter xv) (CSrc prog w A env elt target iter ifs gs scope cl pos (fun acc C => compPost (model prog w) A E (some (assign (.Name y py) env)) (fun _ s' => Q .next s') acc C)) E s₁)) E s)
    (hs : ∀ x, foldedSetIterable iter env x = pure x := by intro _; rfl) :
    wpAny (model prog w) A (exec (.Assign [.Name y py] (.ListComp elt (⟨target, iter, ifs, 0⟩ :: gs) scope pos) spos) env) Q E s := by
  rw [exec_Assign_Name_used _ _ _ _ hsw]
  refine wpAny_bind (wpAny_standAt (wpAny_bind ?_))
  show wpAny _ A (do let _ ← comprehension (.ListComp elt (⟨target, iter, ifs, 0⟩ :: gs) scope pos) scope env _ (newList []) false (eval iter env) (some (assign (.Name y py) env))) _ _ s
  exact wpAny_bind (wpAny_mono (wpAny_comprehension_free (use := some (assign (.Name y py) env)) (Q := fun _ s' => Q .next s') rfl hs hclos hkind hnames
    (wpAny_mono h (fun xv s₁ h₁ => wpAny_mono h₁.out (fun it s₂ h₂ => comp_blk hcell hkind h₂) fun _ _ e => e) fun _ _ e => e)) (fun _ s' hq => wpAny_pure (wpAny_pure hq)) fun _ _ e => e)
theorem comp_done {M : Model} {Q : Value → Shared → Prop} {D C : Addr} {m' : Str → Option Value} {Led : List (Addr × Obj)} (F : Fr h₀ L s.heap m) (hns : s.heap.Ns C m') (N : News h₀ L s.heap Led) (hoff : ∀ p ∈ Led, p.1 ≠ C) (hCL : C ≠ L) (hC0 : h₀.get? C = none)
    (hQ : ∀ h', Fr h₀ L h' m → News h₀ L h' Led → Q (.ref D) { s with heap := h' }) : compPost M A E none Q (.ref D) C (.ok .next) s :=
  ⟨m', hns, fun h' hs => hQ h' (F.change hs hCL hC0) fun p hp => ⟨hs.extBut _ _ (hoff p hp) (N p hp).1, (N p hp).2⟩⟩
theorem comp_done_assign {Q : Flow → Shared → Prop} {D C : Addr} {m' : Str → Option Value} {Led : List (Addr × Obj)} {y : Str} {py : Pos} (hL : env.locals = L)
    (hy : env.kindOf y = some .local) (hp : (env.scope.kind == .class || (env.scope.kind == .module && env.locals != env.globals)) = false)
    (F : Fr h₀ L s.heap m) (hns : s.heap.Ns C m') (N : News h₀ L s.heap Led) (hoff : ∀ p ∈ Led, p.1 ≠ C) (hCL : C ≠ L) (hC0 : h₀.get? C = none)
    (hQ : ∀ h' tk, Fr h₀ L h' (fun z => if z = y then some (.ref D) else m z) → News h₀ L h' Led → Q .next { s with heap := h', toks := tk }) :
    compPost (model prog w) A E (some (assign (.Name y py) env)) (fun _ s' => Q .next s') (.ref D) C (.ok .next) s := by
  subst hL
  show wpAny _ A (assign (.Name y py) env (.ref D)) _ _ _
  refine wpAny_assign_Name (wpAny_storeName_local hy F.ns (fun h₂ hn₂ hs₂ => ?_) hp)
  refine ⟨m', hns.sameBut hs₂ hCL, fun h₃ hs₃ => ?_⟩
  have hLC : env.locals ≠ C := Ne.symm hCL
  refine hQ h₃ _ ⟨hn₂.sameBut hs₃ hLC, fun b o e => ?_, F.above⟩ fun p hp => ⟨?_, (N p hp).2⟩
  · refine hs₃.extBut b o (fun q => by rw [q, hC0] at e; cases e) (hs₂.extBut b o (fun q => ?_) (F.keep b o e))
    exact absurd (Heap.lt_size e) (q ▸ Nat.not_lt.mpr F.above)
  · exact hs₃.extBut _ _ (hoff p hp) (hs₂.extBut _ _ (N p hp).2.1 (N p hp).1)
end
end Mine
end
/-! part G6 -/
section
open PySem PySem.W PyProof.Rows
set_option autoImplicit false
namespace Mine
noncomputable section
variable {prog : Program} {w : World} {A : Around} {s : Shared} {base h₀ : Heap} {outer : List Env} {env : Env} {L : Addr} {m : Str → Option Value} {news rest : List (Addr × Obj)} {E : Value → Shared → Prop}
noncomputable def CE1 (h₀ : Heap) (L : Addr) (m : Str → Option Value) (news : List (Addr × Obj)) (C : Addr) (oC : Obj) (D : Addr) (ys : List Value) (own : List (Addr × Obj)) (I : Addr) (PP : List Value → List (Addr × Obj) → Prop) (s₁ : Shared) (ys' : List Value) (s₂ : Shared) : Prop :=
  ∃ (h' : Heap) (tk : Nat) (news' nx' : List (Addr × Obj)), s₂ = { s₁ with heap := h', toks := tk } ∧ Fr h₀ L h' m ∧ News h₀ L h' news' ∧ (C, oC) ∈ news' ∧ (D, lisO ys ys.length) ∈ news' ∧ (∀ p ∈ own, p ∈ news') ∧ (∀ p ∈ nx', p ∈ news') ∧ (∀ p ∈ news, p ∈ nx') ∧
    (∀ p ∈ nx', p.1 ≠ I ∧ p.1 ≠ C ∧ p.1 ≠ D) ∧ PP ys' nx'
structure CS where
  ys : List Value
  nx : List (Addr × Obj)
  nm : Str → Option Value
noncomputable def tests1 (ifs : List PySem.Expr) (cenv : Env) : Sem Bool := forIn ifs true fun c r => if r = true then do let ok ← isTrue c cenv (eval c cenv); pure (ForInStep.yield ok) else pure (ForInStep.yield r)
noncomputable def tail1 (ifs : List PySem.Expr) (elt : PySem.Expr) (D : Addr) (cenv : Env) : Sem Unit := do
  let ok ← tests1 ifs cenv
  if ok then (do let _ ← call (.builtin "list.append") [.ref D, ← eval elt cenv])
theorem comp1_loop {elt target iter : PySem.Expr} {ifs : List PySem.Expr} {scope : Scope} {cl : List (Str × Addr)} {pos : Pos} {R : Result → Shared → Prop} {I D C : Addr} {fp : List Addr} {n : Nat} {PV : Nat → Value → Prop} {St : Nat → Heap → Prop}
    (K : CAt prog w A h₀ L m news I fp D C s.heap) (hst : St 0 s.heap) (W : Walks prog w A I fp [I] n PV St) (hn : n < 1000) (hthere : ∀ i h, St i h → ∃ o, h.get? I = some o) (T : (Str → Option Value) → Value → (Str → Option Value))
    (PP : Nat → List Value → List (Addr × Obj) → Prop) (hp : PP 0 [] news)
    (hlet : ∀ i v (s : Shared) (Q : Unit → Shared → Prop) (E : Value → Shared → Prop), PV i v → St (i + 1) s.heap → Q () s → wpAny (model prog w) A (letOwnedTupleGo target (.ref I) v) Q E s)
    (hassign : ∀ i v (nx : List (Addr × Obj)) m' (s : Shared) (Q : Unit → Shared → Prop) (E : Value → Shared → Prop), PV i v → (∀ p ∈ news, p ∈ nx) → News h₀ L s.heap nx → s.heap.Ns C m' →
      (∀ h' tk, h'.Ns C (T m' v) → (∀ b o, b ≠ C → s.heap.get? b = some o → h'.get? b = some o) → Q () { s with heap := h', toks := tk }) → wpAny (model prog w) A (assign target (compEnvC scope cl C env) v) Q E s)
    (turn : ∀ i v ys nx nm h tk own oC E', i < n → PV i v → PP i ys nx → ys.length ≤ i → (∀ p ∈ news, p ∈ nx) → (∀ p ∈ own, p.1 ∈ fp) → (∃ o, (I, o) ∈ own) → (∀ p ∈ nx, p.1 ≠ I ∧ p.1 ≠ C ∧ p.1 ≠ D) → NsObj oC (T nm v) → Fr h₀ L h m → News h₀ L h ((C, oC) :: (D, lisO ys ys.length) :: (nx ++ own)) →
      wpAny (model prog w) A (tests1 ifs (compEnvC scope cl C env)) (fun ok s₂ => if ok = true then wpAny (model prog w) A (eval elt (compEnvC scope cl C env)) (fun y s₃ => CE1 h₀ L m news C oC D ys own I (PP (i + 1)) { s with heap := h, toks := tk } (ys ++ [y]) s₃) E' s₂
        else CE1 h₀ L m news C oC D ys own I (PP (i + 1)) { s with heap := h, toks := tk } ys s₂) E' { s with heap := h, toks := tk })
    (done : ∀ ys nx m' h tk, PP n ys nx → (∀ p ∈ news, p ∈ nx) → Fr h₀ L h m → h.Ns C m' → News h₀ L h ((D, lisO ys ys.length) :: nx) → (∀ p ∈ (D, lisO ys ys.length) :: nx, p.1 ≠ C) → (∀ p ∈ nx, p.1 ≠ D) → R (.ok .next) { s with heap := h, toks := tk }) :
    codeAny (model prog w) A (.compLoop (.ListComp elt [⟨target, iter, ifs, 0⟩] scope pos) 0 (.ref I) (.ref D) (compEnvC scope cl C env)) R s := by
  obtain ⟨hI0, hfL, hCf, hDf, hCL, hC0, F, ns, N, hoff, hD, hDI, hDC⟩ := K
  have hne : ∀ {a b : Addr}, a < b → a ≠ b := fun {a b} h => Nat.ne_of_lt h
  refine comp_loop_st (σ := CS) (pos := iter.pos) (target := target) (tail := tail1 ifs elt D (compEnvC scope cl C env)) ?_ W (fun c => (D, lisO c.ys c.ys.length) :: c.nx) (fun c => c.nm)
    (fun i c => PP i c.ys c.nx ∧ c.ys.length ≤ i ∧ (∀ p ∈ news, p ∈ c.nx) ∧ (∀ p ∈ c.nx, p.1 ≠ I ∧ p.1 ≠ C ∧ p.1 ≠ D)) ⟨[], news, fun _ => none⟩ T hI0 hfL hCf hCL hC0 hthere hst F ns N hoff
    ⟨hp, Nat.le_refl _, fun _ h => h, fun p hp => ⟨(hoff p (.tail _ hp)).1, (hoff p (.tail _ hp)).2, hD p hp⟩⟩ hlet (fun i v c s Q E hv hP hN hns hQ => ?_) ?_ ?_
  · rw [compTurn_list]
    show (standAt iter.pos >>= fun _ => pyNext (.ref I) >>= fun r => _) = _
    congr 1; funext _; congr 1; funext r
    cases r with
    | none => rfl
    | some v =>
      show (letOwnedTupleGo target (.ref I) v >>= fun _ => _) = _
      congr 1; funext _
      show (assign target (compEnvC scope cl C env) v >>= fun _ => _) = (assign target (compEnvC scope cl C env) v >>= fun _ => _)
      congr 1; funext _
      unfold tail1 tests1
      rw [bind_assoc]
      dsimp only
      congr 1; funext ok
      cases ok <;> simp
  · exact hassign i v c.nx (c.nm) s Q E hv hP.2.2.1 (fun p hp => hN p (.tail _ hp)) hns hQ
  · rintro i v ⟨ys, nx, nm⟩ h tk own oC E' hi hv ⟨h1, h2, h3, h4⟩ hown hI hLoff hoC F' N'
    dsimp only at h1 h2 h3 h4 hLoff hoC N'
    unfold tail1
    refine wpAny_bind (wpAny_mono (turn i v ys nx nm h tk own oC E' hi hv h1 h2 h3 hown hI h4 hoC F' N') (fun ok s₂ h₂ => ?_) fun _ _ e => e)
    cases ok with
    | false =>
      simp only [Bool.false_eq_true, if_false] at h₂ ⊢
      obtain ⟨h', tk', news', nx', rfl, F₃, N₃, g1, g2, g3, g4, g5, g6, g7⟩ := h₂
      refine wpAny_pure ⟨⟨ys, nx', T nm v⟩, h', tk', oC, news', rfl, F₃, N₃, g1, hoC, g3, ?_, ?_, g7, Nat.le_succ_of_le h2, g5, g6⟩
      · intro p hp
        rcases List.mem_cons.mp hp with rfl | hp
        · exact g2
        · exact g4 p hp
      · intro p hp
        rcases List.mem_cons.mp hp with rfl | hp
        · exact ⟨Ne.symm (hne hDI), hne hDC⟩
        · exact ⟨(g6 p hp).1, (g6 p hp).2.1⟩
    | true =>
      simp only [if_true] at h₂ ⊢
      refine wpAny_bind (wpAny_mono h₂ (fun y s₃ h₃ => ?_) fun _ _ e => e)
      obtain ⟨h', tk', news', nx', rfl, F₃, N₃, g1, g2, g3, g4, g5, g6, g7⟩ := h₃
      refine wpAny_bind (append_at (hsz := by rw [show sizeLine = 16777216 from rfl, List.size_toArray]; (first | lia | omega)) (N₃ _ g2).1 fun h₄ hs₄ hD₄ => wpAny_pure ?_)
      have hDL := (N₃ _ g2).2.1
      have hD0 := (N₃ _ g2).2.2
      have eD : ({ cls := .type "list", data := .seq (ys.toArray.push y) (ys.length + 1) } : Obj) = lisO (ys ++ [y]) (ys ++ [y]).length := by
        show ({ cls := .type "list", data := .seq (ys.toArray.push y) (ys.length + 1) } : Obj) = { cls := .type "list", data := .seq (ys ++ [y]).toArray (ys ++ [y]).length }
        rw [List.length_append, List.length_singleton, List.push_toArray]
      rw [eD] at hD₄
      have hownD : ∀ p ∈ own, p.1 ≠ D := fun p hp e => hDf (e ▸ hown p hp)
      have keepN : ∀ p ∈ news', p.1 ≠ D → h₄.get? p.1 = some p.2 ∧ p.1 ≠ L ∧ h₀.get? p.1 = none := fun p hp hpD => ⟨hs₄.extBut _ _ hpD (N₃ p hp).1, (N₃ p hp).2⟩
      refine ⟨⟨ys ++ [y], nx', T nm v⟩, h₄, tk', oC, (D, lisO (ys ++ [y]) (ys ++ [y]).length) :: (C, oC) :: (nx' ++ own), rfl, F₃.change hs₄ hDL hD0, ?_, .tail _ (.head _), hoC, fun p hp => .tail _ (.tail _ (List.mem_append_right _ hp)), ?_, ?_, g7, ?_, g5, g6⟩
      · intro p hp
        rcases List.mem_cons.mp hp with rfl | hp
        · exact ⟨hD₄, hDL, hD0⟩
        · rcases List.mem_cons.mp hp with rfl | hp
          · exact keepN _ g1 (Ne.symm (hne hDC))
          · rcases List.mem_append.mp hp with hp | hp
            · exact keepN p (g4 p hp) (g6 p hp).2.2
            · exact keepN p (g3 p hp) (hownD p hp)
      · intro p hp
        rcases List.mem_cons.mp hp with rfl | hp
        · exact .head _
        · exact .tail _ (.tail _ (List.mem_append_left _ hp))
      · intro p hp
        rcases List.mem_cons.mp hp with rfl | hp
        · exact ⟨Ne.symm (hne hDI), hne hDC⟩
        · exact ⟨(g6 p hp).1, (g6 p hp).2.1⟩
      · rw [List.length_append, List.length_singleton]; exact Nat.succ_le_succ h2
  · rintro ⟨ys, nx, nm⟩ h tk ⟨h1, h2, h3, h4⟩ F' hns' N' hoff'
    exact done ys nx nm h tk h1 h3 F' hns' N' (fun p hp => (hoff' p hp).2) fun p hp => (h4 p hp).2.2
end
end Mine
end
/-! part G7 -/
section
open PySem PySem.W PyProof.Rows
set_option autoImplicit false
namespace Mine
noncomputable section
variable {prog : Program} {w : World} {A : Around} {s : Shared} {base h₀ : Heap} {outer : List Env} {env : Env} {L : Addr} {m : Str → Option Value} {news rest : List (Addr × Obj)} {E : Value → Shared → Prop}
theorem csrc_name {elt iter : PySem.Expr} {x : Str} {px : Pos} {ifs : List PySem.Expr} {scope : Scope} {cl : List (Str × Addr)} {pos : Pos} {RR : Value → Addr → Result → Shared → Prop} {xv : Value} {n : Nat} {PV : Nat → Value → Prop}
    (S : Src s.heap xv n PV) (hn : n < 1000) (hh : A.handled = none) (F : Fr h₀ L s.heap m) (N : News h₀ L s.heap news) (hsv : ∀ b, xv = .ref b → b ≠ L) (hkind : scope.kind = .function) (hx : scope.names.lookup x = some .local)
    (PP : Nat → List Value → List (Addr × Obj) → Prop) (hp : PP 0 [] news)
    (turn : ∀ (I D C : Addr) (i : Nat) (v : Value) (ys : List Value) (nx : List (Addr × Obj)) (nm : Str → Option Value) (h : Heap) (tk : Nat) (own : List (Addr × Obj)) (oC : Obj) (E' : Value → Shared → Prop), i < n → PV i v → PP i ys nx → ys.length ≤ i → (∀ p ∈ news, p ∈ nx) → (∀ p ∈ own, p.1 = I ∨ xv = .ref p.1) → (∃ o, (I, o) ∈ own) → (∀ p ∈ nx, p.1 ≠ I ∧ p.1 ≠ C ∧ p.1 ≠ D) →
      NsObj oC (fun y => if y = x then some v else nm y) → Fr h₀ L h m → News h₀ L h ((C, oC) :: (D, lisO ys ys.length) :: (nx ++ own)) →
      wpAny (model prog w) A (tests1 ifs (compEnvC scope cl C env)) (fun ok s₂ => if ok = true then wpAny (model prog w) A (eval elt (compEnvC scope cl C env)) (fun y s₃ => CE1 h₀ L m news C oC D ys own I (PP (i + 1)) { s with heap := h, toks := tk } (ys ++ [y]) s₃) E' s₂
        else CE1 h₀ L m news C oC D ys own I (PP (i + 1)) { s with heap := h, toks := tk } ys s₂) E' { s with heap := h, toks := tk })
    (done : ∀ D C ys nx m' h tk, PP n ys nx → (∀ p ∈ news, p ∈ nx) → Fr h₀ L h m → h.Ns C m' → News h₀ L h ((D, lisO ys ys.length) :: nx) → (∀ p ∈ (D, lisO ys ys.length) :: nx, p.1 ≠ C) → (∀ p ∈ nx, p.1 ≠ D) → C ≠ L → h₀.get? C = none →
      RR (.ref D) C (.ok .next) { s with heap := h, toks := tk }) :
    wpAny (model prog w) A (pyIter xv) (CSrc prog w A env elt (.Name x px) iter ifs [] scope cl pos RR) E s := by
  have hLlt : L < s.heap.objs.size := F.ns.lt
  refine S.iter hh ?_
  intro o fp St ho W hst hfp hfx hthere
  have hI0 : h₀.get? s.heap.objs.size = none := by
    cases e : h₀.get? s.heap.objs.size with
    | none => rfl
    | some o' => exact absurd (Heap.lt_size (F.keep _ o' e)) (Nat.lt_irrefl _)
  have hfL : ∀ b ∈ fp, b ≠ L := fun b hb => by
    rcases hfx b hb with e | e
    · rw [e]; exact Nat.ne_of_gt hLlt
    · exact hsv b e
  refine ⟨_, fp, n, PV, St, h₀, L, m, news, rfl, W, hst, F.push _, fun p hp => ⟨Heap.get?_push_of_some _ (N p hp).1, (N p hp).2⟩, hI0, hfL, fun p hp => Nat.ne_of_lt (Heap.lt_size (N p hp).1), fun b hb => ?_, ?_⟩
  · show b < (s.heap.push o).objs.size
    rw [Heap.size_push]
    by_cases e : b = s.heap.objs.size
    · rw [e]; exact Nat.lt_succ_self _
    · exact Nat.lt_succ_of_lt (hfp b hb e)
  · intro D C h tk K hst'
    refine comp1_loop K hst' W hn hthere (fun m' v => fun y => if y = x then some v else m' y) PP hp (fun i v s Q E _ _ h => wpAny_pure h) (fun i v nx m' s' Q E _ _ _ hns hQ => ?_) ?_ ?_
    · exact wpAny_assign_Name (wpAny_storeName_local (lookup_relabel_local hx) hns (fun h₂ hn₂ hs₂ => hQ h₂ _ hn₂ fun b o hb e => hs₂.extBut b o hb e) (by simp [compEnvC, relabel, hkind]))
    · intro i v ys nx nm h' tk' own oC E' hi hv hP hl hsub hown hI hoff hoC F' N'
      exact turn _ D C i v ys nx nm h' tk' own oC E' hi hv hP hl hsub (fun p hp => hfx _ (hown p hp)) hI hoff hoC F' N'
    · intro ys nx m' h' tk' hP hsub F' hns' N' hoff hD'
      exact done D C ys nx m' h' tk' hP hsub F' hns' N' hoff hD' K.hCL K.hC0
theorem tup3_assign {env : Env} {a b c : Str} {pa pb pc tp : Pos} {kk : Nat} {T : Addr} {x y z : Value} {m : Str → Option Value} {Q : Unit → Shared → Prop} (hh : A.handled = none) (ht : s.heap.IsTuple T #[x, y, z])
    (ha : env.kindOf a = some .local) (hb : env.kindOf b = some .local) (hc : env.kindOf c = some .local) (hp : (env.scope.kind == .class || (env.scope.kind == .module && env.locals != env.globals)) = false) (hn : s.heap.Ns env.locals m)
    (h : ∀ (h' : Heap) (tk : Nat), h'.Ns env.locals (fun q => if q = c then some z else if q = b then some y else if q = a then some x else m q) → (∀ d o, d ≠ env.locals → s.heap.get? d = some o → h'.get? d = some o) → Q () { s with heap := h', toks := tk }) :
    wpAny (model prog w) A (assign (.Tuple [.Name a pa, .Name b pb, .Name c pc] kk tp) env (.ref T)) Q E s := by
  refine wpAny_assign_Tuple hh ht rfl rfl fun h₁ he₁ => ?_
  have hL : env.locals ≠ s.heap.objs.size := Nat.ne_of_lt hn.lt
  have hn₁ : h₁.Ns env.locals m := hn.at' fun o e => he₁ _ o hL e
  show wpAny _ _ (assignInOrder [assign (.Name a pa) env, assign (.Name b pb) env, assign (.Name c pc) env] [x, y, z]) _ _ _
  refine assignInOrder_cons (wpAny_assign_Name (wpAny_storeName_local ha hn₁ (fun h₂ hn₂ hs₂ => ?_) hp))
  refine assignInOrder_cons (wpAny_assign_Name (wpAny_storeName_local hb hn₂ (fun h₃ hn₃ hs₃ => ?_) hp))
  refine assignInOrder_cons (wpAny_assign_Name (wpAny_storeName_local hc hn₃ (fun h₄ hn₄ hs₄ => ?_) hp))
  refine assignInOrder_nil ?_
  exact h h₄ _ hn₄ fun d o hd e => hs₄.extBut d o hd (hs₃.extBut d o hd (hs₂.extBut d o hd (he₁ d o (Nat.ne_of_lt (Heap.lt_size e)) e)))
noncomputable def tupC (h : Heap) (v : Value) (k : Nat) : Value := match v with
  | .ref r => match h.get? r with
    | some o => match o.data with
      | .seq xs _ => xs.getD k .none
      | _ => .none
    | none => .none
  | _ => .none
theorem csrc_tup3 {elt iter : PySem.Expr} {a b c : Str} {pa pb pc tp : Pos} {kk : Nat} {ifs : List PySem.Expr} {scope : Scope} {cl : List (Str × Addr)} {pos : Pos} {RR : Value → Addr → Result → Shared → Prop} {l : Addr} {vs : List Value}
    (hl : s.heap.IsList l vs.toArray) (hn : vs.length < 1000) (hh : A.handled = none) (F : Fr h₀ L s.heap m) (N : News h₀ L s.heap news) (hlL : l ≠ L) (hkind : scope.kind = .function)
    (ha : scope.names.lookup a = some .local) (hb : scope.names.lookup b = some .local) (hc : scope.names.lookup c = some .local)
    (hv : ∀ (i : Nat) (v : Value), vs[i]? = some v → ∃ (r : Addr) (x y z : Value), v = .ref r ∧ (r, tupO [x, y, z]) ∈ news)
    (PP : Nat → List Value → List (Addr × Obj) → Prop) (hp : PP 0 [] news)
    (turn : ∀ (I D C : Addr) (i : Nat) (r : Addr) (x y z : Value) (ys : List Value) (nx : List (Addr × Obj)) (nm : Str → Option Value) (h : Heap) (tk : Nat) (own : List (Addr × Obj)) (oC : Obj) (E' : Value → Shared → Prop), vs[i]? = some (.ref r) → (r, tupO [x, y, z]) ∈ news → PP i ys nx → ys.length ≤ i → (∀ p ∈ news, p ∈ nx) → (∀ p ∈ own, p.1 = I ∨ p.1 = l) → (∃ o, (I, o) ∈ own) → (∀ p ∈ nx, p.1 ≠ I ∧ p.1 ≠ C ∧ p.1 ≠ D) →
      NsObj oC (fun q => if q = c then some z else if q = b then some y else if q = a then some x else nm q) → Fr h₀ L h m → News h₀ L h ((C, oC) :: (D, lisO ys ys.length) :: (nx ++ own)) →
      wpAny (model prog w) A (tests1 ifs (compEnvC scope cl C env)) (fun ok s₂ => if ok = true then wpAny (model prog w) A (eval elt (compEnvC scope cl C env)) (fun y s₃ => CE1 h₀ L m news C oC D ys own I (PP (i + 1)) { s with heap := h, toks := tk } (ys ++ [y]) s₃) E' s₂
        else CE1 h₀ L m news C oC D ys own I (PP (i + 1)) { s with heap := h, toks := tk } ys s₂) E' { s with heap := h, toks := tk })
    (done : ∀ D C ys nx m' h tk, PP vs.length ys nx → (∀ p ∈ news, p ∈ nx) → Fr h₀ L h m → h.Ns C m' → News h₀ L h ((D, lisO ys ys.length) :: nx) → (∀ p ∈ (D, lisO ys ys.length) :: nx, p.1 ≠ C) → (∀ p ∈ nx, p.1 ≠ D) → C ≠ L → h₀.get? C = none →
      RR (.ref D) C (.ok .next) { s with heap := h, toks := tk }) :
    wpAny (model prog w) A (pyIter (.ref l)) (CSrc prog w A env elt (.Tuple [.Name a pa, .Name b pb, .Name c pc] kk tp) iter ifs [] scope cl pos RR) E s := by
  have hLlt : L < s.heap.objs.size := F.ns.lt
  have hllt : l < s.heap.objs.size := by obtain ⟨o, e, _⟩ := hl; exact Heap.lt_size e
  refine wpAny_pyIter_list hl ?_
  have W := Walks.list (prog := prog) (w := w) hh s.heap.objs.size l (Nat.ne_of_lt hllt) vs.toArray
  have e : vs.toArray.size = vs.length := by simp
  have eP : (fun i v => vs.toArray[i]? = some v) = fun (i : Nat) (v : Value) => vs[i]? = some v := by funext i v; simp
  rw [e, eP] at W
  have hI0 : h₀.get? s.heap.objs.size = none := by
    cases e : h₀.get? s.heap.objs.size with
    | none => rfl
    | some o' => exact absurd (Heap.lt_size (F.keep _ o' e)) (Nat.lt_irrefl _)
  have tc : ∀ (h : Heap), (∀ p ∈ news, h.get? p.1 = some p.2) → ∀ r x y z, (r, tupO [x, y, z]) ∈ news → tupC h (.ref r) 0 = x ∧ tupC h (.ref r) 1 = y ∧ tupC h (.ref r) 2 = z := by
    intro h hk r x y z hm
    simp only [tupC, show h.get? r = some (tupO [x, y, z]) from hk _ hm]
    exact ⟨rfl, rfl, rfl⟩
  have ts := tc s.heap fun p hp => (N p hp).1
  refine ⟨_, [s.heap.objs.size, l], vs.length, _, _, h₀, L, m, news, rfl, W, ⟨⟨_, Heap.get?_push_size _ rfl, rfl, rfl⟩, hl.at fun o e => Heap.get?_push_of_some _ e⟩, F.push _, fun p hp => ⟨Heap.get?_push_of_some _ (N p hp).1, (N p hp).2⟩, hI0, fun b hb => ?_, fun p hp => Nat.ne_of_lt (Heap.lt_size (N p hp).1), fun b hb => ?_, ?_⟩
  · simp only [List.mem_cons, List.not_mem_nil, or_false] at hb
    rcases hb with rfl | rfl
    · exact Nat.ne_of_gt hLlt
    · exact hlL
  · show b < (s.heap.push _).objs.size
    rw [Heap.size_push]
    simp only [List.mem_cons, List.not_mem_nil, or_false] at hb
    rcases hb with rfl | rfl
    · exact Nat.lt_succ_self _
    · exact Nat.lt_succ_of_lt hllt
  · intro D C h tk K hst'
    refine comp1_loop K hst' W hn (fun i h st => let ⟨o, ho, _⟩ := st.1; ⟨o, ho⟩) (fun m' v => fun q => if q = c then some (tupC s.heap v 2) else if q = b then some (tupC s.heap v 1) else if q = a then some (tupC s.heap v 0) else m' q) PP hp
      (fun i v s Q E hv' hst h => ?_) (fun i v nx m' s' Q E hv' hsub hN hns hQ => ?_) ?_ ?_
    · obtain ⟨r, x, y, z, rfl, _⟩ := hv i v hv'
      obtain ⟨o, ho, hcl, hd⟩ := hst.1
      unfold letOwnedTupleGo
      refine wpAny_bind (wpAny_load ho ?_)
      simp only [hcl, hd]
      first | exact wpAny_pure h | (rw [if_neg (by decide)]; exact wpAny_pure h) | (simp; exact wpAny_pure h)
    · obtain ⟨r, x, y, z, rfl, hm⟩ := hv i v hv'
      obtain ⟨t0, t1, t2⟩ := ts r x y z hm
      rw [t0, t1, t2] at hQ
      exact tup3_assign hh ⟨_, (hN _ (hsub _ hm)).1, rfl, 0, rfl⟩ (lookup_relabel_local ha) (lookup_relabel_local hb) (lookup_relabel_local hc) (by simp [compEnvC, relabel, hkind]) hns hQ
    · intro i v ys nx nm h' tk' own oC E' hi hv' hP hl hsub hown hI hoff hoC F' N'
      obtain ⟨r, x, y, z, rfl, hm⟩ := hv i v hv'
      obtain ⟨t0, t1, t2⟩ := ts r x y z hm
      rw [t0, t1, t2] at hoC
      exact turn _ D C i r x y z ys nx nm h' tk' own oC E' hv' hm hP hl hsub (fun p hp => by simpa using hown p hp) hI hoff hoC F' N'
    · intro ys nx m' h' tk' hP hsub F' hns' N' hoff hD'
      exact done D C ys nx m' h' tk' hP hsub F' hns' N' hoff hD' K.hCL K.hC0
end
end Mine
end
/-! part G8 -/
section
open PySem PySem.W PyProof.Rows
set_option autoImplicit false
namespace Mine
noncomputable section
variable {prog : Program} {w : World} {A : Around} {s : Shared} {base h₀ : Heap} {outer : List Env} {env : Env} {L : Addr} {m : Str → Option Value} {news rest : List (Addr × Obj)} {E : Value → Shared → Prop}
noncomputable def intoNext (e iter : PySem.Expr) (d : Nat) (acc : Value) (cenv : Env) : Sem Unit :=
  eval iter cenv >>= fun x => standAt iter.pos >>= fun _ => foldedSetIterable iter cenv x >>= fun x => holding [x] (pyIter x) >>= fun it => runOwn (.compStart e d it acc cenv) cenv >>= fun _ => pure ()
noncomputable def intoEnd (elt : PySem.Expr) (acc : Value) (cenv : Env) : Sem Unit := eval elt cenv >>= fun x => call (.builtin "list.append") [acc, x] >>= fun _ => pure ()
theorem compTurn3_0 (elt t0 i0 t1 i1 t2 i2 : PySem.Expr) (scope : Scope) (pos : Pos) (it acc : Value) (env : Env) :
    compTurn (.ListComp elt [⟨t0, i0, [], 0⟩, ⟨t1, i1, [], 0⟩, ⟨t2, i2, [], 0⟩] scope pos) 0 it acc env = (standAt i0.pos >>= fun _ => pyNext it >>= fun r => match r with
      | none => pure (.done .next)
      | some v => letOwnedTupleGo t0 it v >>= fun _ => assign t0 env v >>= fun _ => intoNext (.ListComp elt [⟨t0, i0, [], 0⟩, ⟨t1, i1, [], 0⟩, ⟨t2, i2, [], 0⟩] scope pos) i1 1 acc env >>= fun _ =>
        again (.compLoop (.ListComp elt [⟨t0, i0, [], 0⟩, ⟨t1, i1, [], 0⟩, ⟨t2, i2, [], 0⟩] scope pos) 0 it acc env)) := by
  unfold compTurn intoNext
  simp only [List.getElem?_cons_zero, List.getElem?_cons_succ, List.forIn_nil, pure_bind, bind_assoc, if_true, bne_self_eq_false, Bool.false_eq_true, if_false]
  rfl
theorem compTurn3_1 (elt t0 i0 t1 i1 t2 i2 : PySem.Expr) (scope : Scope) (pos : Pos) (it acc : Value) (env : Env) :
    compTurn (.ListComp elt [⟨t0, i0, [], 0⟩, ⟨t1, i1, [], 0⟩, ⟨t2, i2, [], 0⟩] scope pos) 1 it acc env = (standAt i1.pos >>= fun _ => pyNext it >>= fun r => match r with
      | none => pure (.done .next)
      | some v => letOwnedTupleGo t1 it v >>= fun _ => assign t1 env v >>= fun _ => intoNext (.ListComp elt [⟨t0, i0, [], 0⟩, ⟨t1, i1, [], 0⟩, ⟨t2, i2, [], 0⟩] scope pos) i2 2 acc env >>= fun _ =>
        again (.compLoop (.ListComp elt [⟨t0, i0, [], 0⟩, ⟨t1, i1, [], 0⟩, ⟨t2, i2, [], 0⟩] scope pos) 1 it acc env)) := by
  unfold compTurn intoNext
  simp only [List.getElem?_cons_zero, List.getElem?_cons_succ, List.forIn_nil, pure_bind, bind_assoc, if_true, bne_self_eq_false, Bool.false_eq_true, if_false]
  rfl
theorem compTurn3_2 (elt t0 i0 t1 i1 t2 i2 : PySem.Expr) (scope : Scope) (pos : Pos) (it acc : Value) (env : Env) :
    compTurn (.ListComp elt [⟨t0, i0, [], 0⟩, ⟨t1, i1, [], 0⟩, ⟨t2, i2, [], 0⟩] scope pos) 2 it acc env = (standAt i2.pos >>= fun _ => pyNext it >>= fun r => match r with
      | none => pure (.done .next)
      | some v => letOwnedTupleGo t2 it v >>= fun _ => assign t2 env v >>= fun _ => intoEnd elt acc env >>= fun _ =>
        again (.compLoop (.ListComp elt [⟨t0, i0, [], 0⟩, ⟨t1, i1, [], 0⟩, ⟨t2, i2, [], 0⟩] scope pos) 2 it acc env)) := by
  unfold compTurn intoEnd
  simp only [List.getElem?_cons_zero, List.getElem?_cons_succ, List.getElem?_nil, List.forIn_nil, pure_bind, bind_assoc, if_true, bne_self_eq_false, Bool.false_eq_true, if_false]
  rfl
theorem Src.iterA {xv : Value} {n : Nat} {P : Nat → Value → Prop} {Q : Value → Shared → Prop} (S : Src s.heap xv n P)
    (h : ∀ (o : Obj) (fp : List Addr) (St : Nat → Heap → Prop), o.isFreed = false → (∀ A' : Around, A'.handled = none → Walks prog w A' s.heap.objs.size fp [s.heap.objs.size] n P St) → St 0 (s.heap.push o) → (∀ b ∈ fp, b ≠ s.heap.objs.size → b < s.heap.objs.size) →
      (∀ b ∈ fp, b = s.heap.objs.size ∨ xv = .ref b) → (∀ i h, St i h → ∃ o, h.get? s.heap.objs.size = some o) → Q (.ref s.heap.objs.size) { s with heap := s.heap.push o }) :
    wpAny (model prog w) A (pyIter xv) Q E s := by
  cases S with
  | list hl =>
    rename_i l vs
    obtain ⟨ol, hol, _⟩ := id hl
    have hlt : l < s.heap.objs.size := Heap.lt_size hol
    refine wpAny_pyIter_list hl ?_
    refine h _ [s.heap.objs.size, l] (fun i h => h.IsListIter s.heap.objs.size l i ∧ h.IsList l vs.toArray) rfl (fun A' hh => ?_) ⟨⟨_, Heap.get?_push_size _ rfl, rfl, rfl⟩, hl.at fun o e => Heap.get?_push_of_some _ e⟩ ?_ ?_ (fun i h st => let ⟨o, ho, _⟩ := st.1; ⟨o, ho⟩)
    · have W := Walks.list (prog := prog) (w := w) hh s.heap.objs.size l (Nat.ne_of_lt hlt) vs.toArray
      have e : vs.toArray.size = vs.length := by simp
      have eP : (fun i v => vs.toArray[i]? = some v) = fun (i : Nat) (v : Value) => vs[i]? = some v := by funext i v; simp
      rw [e, eP] at W
      exact W
    · intro b hb hne
      simp only [List.mem_cons, List.not_mem_nil, or_false] at hb
      rcases hb with rfl | rfl
      · exact absurd rfl hne
      · exact hlt
    · intro b hb
      simp only [List.mem_cons, List.not_mem_nil, or_false] at hb
      rcases hb with rfl | rfl
      · exact .inl rfl
      · exact .inr rfl
  | tuple hl =>
    rename_i l vs
    obtain ⟨ol, hol, _⟩ := id hl
    have hlt : l < s.heap.objs.size := Heap.lt_size hol
    refine wpAny_pyIter_tuple hl ?_
    refine h _ [s.heap.objs.size, l] (fun i h => h.IsTupleIter s.heap.objs.size l i ∧ h.IsTuple l vs.toArray) rfl (fun A' hh => ?_) ⟨⟨_, Heap.get?_push_size _ rfl, rfl, rfl⟩, hl.push _⟩ ?_ ?_ (fun i h st => let ⟨o, ho, _⟩ := st.1; ⟨o, ho⟩)
    · have W := Walks.tuple (prog := prog) (w := w) hh s.heap.objs.size l (Nat.ne_of_lt hlt) vs.toArray
      have e : vs.toArray.size = vs.length := by simp
      have eP : (fun i v => vs.toArray[i]? = some v) = fun (i : Nat) (v : Value) => vs[i]? = some v := by funext i v; simp
      rw [e, eP] at W
      exact W
    · intro b hb hne
      simp only [List.mem_cons, List.not_mem_nil, or_false] at hb
      rcases hb with rfl | rfl
      · exact absurd rfl hne
      · exact hlt
    · intro b hb
      simp only [List.mem_cons, List.not_mem_nil, or_false] at hb
      rcases hb with rfl | rfl
      · exact .inl rfl
      · exact .inr rfl
  | range hr hn =>
    rename_i r t u v
    refine wpAny_pyIter_range hr (small_one (by decide) (by decide) (by (first | lia | omega)) (by (first | lia | omega))) ?_
    have hs : Builtin.Range.rangeSize 0 (n : Int) 1 = (n : Int) := by rw [rangeSize_nat]; (first | lia | omega)
    refine h _ [s.heap.objs.size] (fun i h => IsRangeIter h s.heap.objs.size (0 + (i : Nat) * 1) ((n : Int) - (i : Nat)) 1) rfl (fun A' hh => ?_) (by show IsRangeIter _ _ _ _ _; rw [hs]; simpa using Heap.get?_push_size _ rfl) ?_ ?_ (fun i h st => ⟨_, st⟩)
    · have W := (Walks.range (prog := prog) (w := w) hh s.heap.objs.size 0 1 n).bound
      have eP : (fun (i : Nat) (v : Value) => i < n ∧ ∃ t, v = Value.int (0 + (i : Int) * 1) t) = fun (i : Nat) (v : Value) => i < n ∧ ∃ t, v = Value.int (i : Nat) t := by funext i v; simp
      rw [eP] at W
      exact W
    · intro b hb hne; exact absurd (List.mem_singleton.mp hb) hne
    · intro b hb; exact .inl (List.mem_singleton.mp hb)
theorem mark_none {A : Around} (h : A.handled = none) : (A.mark none).handled = none := by
  simp only [Around.mark, h]; rfl
/-- an inner clause of a comprehension, from its source's value on -/
theorem inner_st {σ : Type} {e elt iter : PySem.Expr} {gens : List Comprehension} {scope : Scope} {epos : Pos} {d : Nat} {acc : Value} {cenv : Env} {x : Str} {px pos : Pos} {ifs : List PySem.Expr} {tail : Sem Unit} {xv : Value} {n : Nat} {PV : Nat → Value → Prop} {C : Addr} {oC : Obj} {Q : Unit → Shared → Prop}
    (he : e = .ListComp elt gens scope epos) (hg : gens[d]? = some ⟨.Name x px, iter, ifs, 0⟩)
    (hturn : ∀ it, compTurn (.ListComp elt gens scope epos) d it acc cenv = (standAt pos >>= fun _ => pyNext it >>= fun r => match r with
      | none => pure (.done .next)
      | some v => letOwnedTupleGo (.Name x px) it v >>= fun _ => assign (.Name x px) cenv v >>= fun _ => tail >>= fun _ => again (.compLoop (.ListComp elt gens scope epos) d it acc cenv)))
    (S : Src s.heap xv n PV) (hh : A.handled = none) (hx : cenv.kindOf x = some .local) (hpk : (cenv.scope.kind == .class || (cenv.scope.kind == .module && cenv.locals != cenv.globals)) = false) (hC : cenv.locals = C)
    (Led : σ → List (Addr × Obj)) (nm : σ → Str → Option Value) (P : Nat → σ → Prop) (c₀ : σ)
    (F : Fr h₀ L s.heap m) (N : News h₀ L s.heap ((C, oC) :: Led c₀)) (hoC : NsObj oC (nm c₀)) (hoff : ∀ p ∈ Led c₀, p.1 ≠ C) (hsv : ∀ b, xv = .ref b → b ≠ L ∧ b ≠ C) (hp : P 0 c₀)
    (turn : ∀ (A' : Around) (I : Addr) (i : Nat) (v : Value) (c : σ) (h : Heap) (tk : Nat) (own : List (Addr × Obj)) (oC : Obj) (E' : Value → Shared → Prop), A' = A.mark none → i < n → PV i v → P i c → (∀ p ∈ own, p.1 ≠ C) → (∀ p ∈ own, p.1 = I ∨ xv = .ref p.1) → (∃ o, (I, o) ∈ own) → (∀ p ∈ Led c, p.1 ≠ I ∧ p.1 ≠ C) →
      NsObj oC (fun y => if y = x then some v else nm c y) → Fr h₀ L h m → News h₀ L h ((C, oC) :: (Led c ++ own)) →
      wpAny (model prog w) A' tail (fun _ s₂ => CEnd h₀ L m C Led nm (P (i + 1)) own I { s with heap := h, toks := tk } s₂) E' { s with heap := h, toks := tk })
    (done : ∀ (c : σ) (h : Heap) (tk : Nat) (oC : Obj), P n c → Fr h₀ L h m → NsObj oC (nm c) → News h₀ L h ((C, oC) :: Led c) → (∀ p ∈ Led c, p.1 ≠ C) → Q () { s with heap := h, toks := tk }) :
    wpAny (model prog w) A (holding [xv] (pyIter xv) >>= fun it => runOwn (.compStart e d it acc cenv) cenv >>= fun _ => pure ()) Q E s := by
  subst he hC
  have hLlt : L < s.heap.objs.size := F.ns.lt
  have hCn := N (cenv.locals, oC) (.head _)
  have hClt : cenv.locals < s.heap.objs.size := Heap.lt_size hCn.1
  have hI0 : h₀.get? s.heap.objs.size = none := by
    cases e : h₀.get? s.heap.objs.size with
    | none => rfl
    | some o' => exact absurd (Heap.lt_size (F.keep _ o' e)) (Nat.lt_irrefl _)
  refine wpAny_bind (wpAny_holding (S.iterA ?_))
  intro o fp St ho W hst hfp hfx hthere
  have WA := W (A.mark none) (mark_none hh)
  have hfL : ∀ b ∈ fp, b ≠ L := fun b hb => by
    rcases hfx b hb with e | e
    · rw [e]; exact Nat.ne_of_gt hLlt
    · exact (hsv b e).1
  have hCf : cenv.locals ∉ fp := fun hb => by
    rcases hfx _ hb with e | e
    · exact absurd hClt (e ▸ Nat.lt_irrefl _)
    · exact (hsv _ e).2 rfl
  have N' : News h₀ L (s.heap.push o) ((cenv.locals, oC) :: Led c₀) := fun p hp => ⟨Heap.get?_push_of_some _ (N p hp).1, (N p hp).2⟩
  have hloop : codeAny (model prog w) (A.mark none) (.compLoop (.ListComp elt gens scope epos) d (.ref s.heap.objs.size) acc cenv) (fun r s' => match r with | .ok f => wpAny (model prog w) A (pure ()) Q E s' | .error e => cameBackBy (model prog w) A cenv E e s') { s with heap := s.heap.push o } := by
    refine comp_loop_st (hturn _) WA Led nm P c₀ (fun m' v => fun y => if y = x then some v else m' y) hI0 hfL hCf hCn.2.1 hCn.2.2 hthere hst (F.push _) (hoC.ns (N' _ (.head _)).1) (fun p hp => N' p (.tail _ hp)) (fun p hp => ⟨Nat.ne_of_lt (Heap.lt_size (N p (.tail _ hp)).1), hoff p hp⟩) hp
      (fun i v s Q E _ _ h => wpAny_pure h) (fun i v c s' Q E _ _ _ hns hQ => ?_) ?_ ?_
    · exact wpAny_assign_Name (wpAny_storeName_local hx hns (fun h₂ hn₂ hs₂ => hQ h₂ _ hn₂ fun b o hb e => hs₂.extBut b o hb e) hpk)
    · intro i v c h tk own oC' E' hi hv hP hown hI hoff' hoC' F' N''
      exact turn (A.mark none) _ i v c h tk own oC' E' rfl hi hv hP (fun p hp e => hCf (e ▸ hown p hp)) (fun p hp => hfx _ (hown p hp)) hI hoff' hoC' F' N''
    · intro c h tk hP F' hns' N'' hoff'
      obtain ⟨oC', e', hoC'⟩ := LCg.ns_obj hns'
      refine wpAny_pure (done c h tk oC' hP F' hoC' (fun p hp => ?_) fun p hp => (hoff' p hp).2)
      rcases List.mem_cons.mp hp with rfl | hp
      · exact ⟨e', hCn.2.1, hCn.2.2⟩
      · exact N'' p hp
  refine wpAny_bind (wpAny_runOwn (compStart_any hg hloop fun E' => WA.self 0 _ _ _ hst hloop))
end
end Mine
end
/-! part G9 -/
section
open PySem PySem.W PyProof.Rows
set_option autoImplicit false
namespace Mine
noncomputable section
variable {prog : Program} {w : World} {A : Around} {s : Shared} {base h₀ : Heap} {outer : List Env} {env : Env} {L : Addr} {m : Str → Option Value} {news rest : List (Addr × Obj)} {E : Value → Shared → Prop}
/-- the triples of a list, item by item -/
inductive Trips (news : List (Addr × Obj)) : List Value → List (Int × Int × Int) → Prop where
  | nil : Trips news [] []
  | cons {r : Addr} {i j k : Int} {t u v : Tok} {vs : List Value} {ts : List (Int × Int × Int)} : (r, tupO [.int i t, .int j u, .int k v]) ∈ news → Trips news vs ts → Trips news (.ref r :: vs) ((i, j, k) :: ts)
theorem Trips.length {vs : List Value} {ts : List (Int × Int × Int)} (h : Trips news vs ts) : vs.length = ts.length := by
  induction h with
  | nil => rfl
  | cons _ _ ih => simp [ih]
theorem Trips.mono {big : List (Addr × Obj)} {vs : List Value} {ts : List (Int × Int × Int)} (h : Trips news vs ts) (hs : ∀ p ∈ news, p ∈ big) : Trips big vs ts := by
  induction h with
  | nil => exact .nil
  | cons hm _ ih => exact .cons (hs _ hm) ih
theorem Trips.snoc {r : Addr} {i j k : Int} {t u v : Tok} {vs : List Value} {ts : List (Int × Int × Int)} (h : Trips news vs ts) (hm : (r, tupO [.int i t, .int j u, .int k v]) ∈ news) : Trips news (vs ++ [.ref r]) (ts ++ [(i, j, k)]) := by
  induction h with
  | nil => exact .cons hm .nil
  | cons h1 _ ih => exact .cons h1 ih
theorem Trips.get {vs : List Value} {ts : List (Int × Int × Int)} (h : Trips news vs ts) : ∀ k : Nat, k < ts.length → ∃ r t u v, vs[k]? = some (.ref r) ∧ (r, tupO [.int (ts[k]?.getD (0, 0, 0)).1 t, .int (ts[k]?.getD (0, 0, 0)).2.1 u, .int (ts[k]?.getD (0, 0, 0)).2.2 v]) ∈ news := by
  induction h with
  | nil => intro k hk; cases hk
  | cons hm _ ih =>
    intro k hk
    cases k with
    | zero => exact ⟨_, _, _, _, rfl, hm⟩
    | succ k => obtain ⟨r, t, u, v, h1, h2⟩ := ih k (by simpa using hk); exact ⟨r, t, u, v, by simpa using h1, by simpa using h2⟩
structure CT where
  ys : List Value
  nw : List (Addr × Obj)
  nm : Str → Option Value
noncomputable def spots (p : Int × Int) (k : Nat) : Int := if k = 0 then p.1 else p.2
noncomputable def blk3 (t : Nat) (sp : Int) (j : Nat) : List (Int × Int × Int) := (List.range j).map fun d : Nat => (sp, (t : Int), (d : Int))
noncomputable def blk2 (ps : List (Int × Int)) (t : Nat) (k : Nat) : List (Int × Int × Int) := (List.range k).flatMap fun i => blk3 t (spots (ps[t]?.getD (0, 0)) i) 2
noncomputable def flat (ps : List (Int × Int)) (n : Nat) : List (Int × Int × Int) := (List.range n).flatMap fun t => blk2 ps t 2
theorem blk3_succ (t : Nat) (sp : Int) (j : Nat) : blk3 t sp (j + 1) = blk3 t sp j ++ [(sp, (t : Int), (j : Int))] := by simp [blk3, List.range_succ]
theorem blk2_succ (ps : List (Int × Int)) (t k : Nat) : blk2 ps t (k + 1) = blk2 ps t k ++ blk3 t (spots (ps[t]?.getD (0, 0)) k) 2 := by simp [blk2, List.range_succ]
theorem flat_succ (ps : List (Int × Int)) (n : Nat) : flat ps (n + 1) = flat ps n ++ blk2 ps n 2 := by simp [flat, List.range_succ]
theorem flat_len (ps : List (Int × Int)) (n : Nat) : (flat ps n).length = 4 * n := by
  induction n with
  | zero => rfl
  | succ n ih => rw [flat_succ, List.length_append, ih, blk2_succ, blk2_succ]; simp [blk2, blk3]; (first | lia | omega)
theorem blk3_len (t : Nat) (sp : Int) (j : Nat) : (blk3 t sp j).length = j := by simp [blk3]
theorem blk2_len (ps : List (Int × Int)) (t k : Nat) : (blk2 ps t k).length = 2 * k := by
  induction k with
  | zero => rfl
  | succ k ih => rw [blk2_succ, List.length_append, ih, blk3_len]; (first | lia | omega)
/-- the two range arms and the pair arm of the nested comprehension, told apart from the code -/
structure Arms (prog : Program) (w : World) (env : Env) (h₀ : Heap) (L : Addr) (m : Str → Option Value) (scope : Scope) (cl : List (Str × Addr)) (x0 x1 x2 : Str) (i1 i2 elt : PySem.Expr) (ps : List (Int × Int)) (news : List (Addr × Obj)) (ok : Around → Prop) : Prop where
  mark : ∀ A, ok A → A.handled = none ∧ ok (A.mark none)
  one : ∀ (A : Around) (C : Addr) (i : Nat) (t : Tok) (m' : Str → Option Value) (s : Shared) (Q : Value → Shared → Prop) (E : Value → Shared → Prop), ok A → i < ps.length → s.heap.Ns C m' → m' x0 = some (.int (i : Nat) t) → Fr h₀ L s.heap m → News h₀ L s.heap news →
    (∀ r t u, (r, tupO [.int (ps[i]?.getD (0, 0)).1 t, .int (ps[i]?.getD (0, 0)).2 u]) ∈ news → Q (.ref r) s) → wpAny (model prog w) A (eval i1 (compEnvC scope cl C env)) Q E s
  two : ∀ (A : Around) (C : Addr) (s : Shared) (Q : Value → Shared → Prop) (E : Value → Shared → Prop), ok A → Fr h₀ L s.heap m →
    (∀ r h' tk t u v, Kept s.heap h' → IsRange h' r 0 2 1 t u v → Q (.ref r) { s with heap := h', toks := tk }) → wpAny (model prog w) A (eval i2 (compEnvC scope cl C env)) Q E s
  elt : ∀ (A : Around) (C : Addr) (va vb vc : Value) (m' : Str → Option Value) (s : Shared) (Q : Value → Shared → Prop) (E : Value → Shared → Prop), ok A → s.heap.Ns C m' → m' x1 = some va → m' x0 = some vb → m' x2 = some vc →
    (∀ h' a, Kept s.heap h' → h'.get? a = some (tupO [va, vb, vc]) → s.heap.get? a = none → Q (.ref a) { s with heap := h' }) → wpAny (model prog w) A (eval elt (compEnvC scope cl C env)) Q E s
  s1 : ∀ C x, foldedSetIterable i1 (compEnvC scope cl C env) x = pure x
  s2 : ∀ C x, foldedSetIterable i2 (compEnvC scope cl C env) x = pure x
theorem fr_kept {h h' : Heap} (F : Fr h₀ L h m) (k : Kept h h') : Fr h₀ L h' m := F.keeps k
theorem news_kept {h h' : Heap} {big : List (Addr × Obj)} (N : News h₀ L h big) (k : Kept h h') : News h₀ L h' big := fun p hp => ⟨k _ _ (N p hp).1, (N p hp).2⟩
theorem news_cons {h : Heap} {a : Addr} {o : Obj} {big : List (Addr × Obj)} (N : News h₀ L h big) (ha : h.get? a = some o) (hL : a ≠ L) (h0 : h₀.get? a = none) : News h₀ L h ((a, o) :: big) := fun p hp => by
  rcases List.mem_cons.mp hp with rfl | hp
  · exact ⟨ha, hL, h0⟩
  · exact N p hp
theorem fresh_off {h : Heap} {a : Addr} {big : List (Addr × Obj)} (N : News h₀ L h big) (F : Fr h₀ L h m) (ha : h.get? a = none) : (∀ p ∈ big, p.1 ≠ a) ∧ a ≠ L ∧ h₀.get? a = none :=
  ⟨fun p hp e => (by have := (N p hp).1; rw [e, ha] at this; cases this), fun e => (by obtain ⟨o, _, _, ho, _⟩ := F.ns; rw [e, ho] at ha; cases ha), (by
    cases q : h₀.get? a with
    | none => rfl
    | some o => rw [F.keep a o q] at ha; cases ha)⟩
theorem csrc_triple {elt i0 i1 i2 : PySem.Expr} {x0 x1 x2 : Str} {p0 p1 p2 : Pos} {scope : Scope} {cl : List (Str × Addr)} {pos : Pos} {RR : Value → Addr → Result → Shared → Prop} {xv : Value} {n : Nat} {ps : List (Int × Int)} {ok : Around → Prop}
    (S : Src s.heap xv n (fun i v => i < n ∧ ∃ t, v = .int (i : Nat) t)) (hn : n = ps.length) (hn1 : n < 100) (hok : ok A) (F : Fr h₀ L s.heap m) (N : News h₀ L s.heap news) (hsv : ∀ b, xv = .ref b → b ≠ L) (hkind : scope.kind = .function)
    (h0 : scope.names.lookup x0 = some .local) (h1 : scope.names.lookup x1 = some .local) (h2 : scope.names.lookup x2 = some .local) (h01 : x0 ≠ x1) (h02 : x0 ≠ x2) (h12 : x1 ≠ x2)
    (arms : Arms prog w env h₀ L m scope cl x0 x1 x2 i1 i2 elt ps news ok)
    (done : ∀ D C ys nw m' h tk, Trips (nw ++ news) ys (flat ps n) → Fr h₀ L h m → h.Ns C m' → News h₀ L h ((D, lisO ys ys.length) :: (nw ++ news)) → (∀ p ∈ (D, lisO ys ys.length) :: (nw ++ news), p.1 ≠ C) → (∀ p ∈ nw ++ news, p.1 ≠ D) → C ≠ L → h₀.get? C = none →
      RR (.ref D) C (.ok .next) { s with heap := h, toks := tk }) :
    wpAny (model prog w) A (pyIter xv) (CSrc prog w A env elt (.Name x0 p0) i0 [] [⟨.Name x1 p1, i1, [], 0⟩, ⟨.Name x2 p2, i2, [], 0⟩] scope cl pos RR) E s := by
  have hh := (arms.mark A hok).1
  have hLlt : L < s.heap.objs.size := F.ns.lt
  refine S.iter hh ?_
  intro o fp St ho W hst hfp hfx hthere
  have hI0 : h₀.get? s.heap.objs.size = none := by
    cases e : h₀.get? s.heap.objs.size with
    | none => rfl
    | some o' => exact absurd (Heap.lt_size (F.keep _ o' e)) (Nat.lt_irrefl _)
  have hfL : ∀ b ∈ fp, b ≠ L := fun b hb => by
    rcases hfx b hb with e | e
    · rw [e]; exact Nat.ne_of_gt hLlt
    · exact hsv b e
  refine ⟨_, fp, n, _, St, h₀, L, m, news, rfl, W, hst, F.push _, fun p hp => ⟨Heap.get?_push_of_some _ (N p hp).1, (N p hp).2⟩, hI0, hfL, fun p hp => Nat.ne_of_lt (Heap.lt_size (N p hp).1), fun b hb => ?_, ?_⟩
  · show b < (s.heap.push o).objs.size
    rw [Heap.size_push]
    by_cases e : b = s.heap.objs.size
    · rw [e]; exact Nat.lt_succ_self _
    · exact Nat.lt_succ_of_lt (hfp b hb e)
  intro D C h tk K hst'
  generalize hI : s.heap.objs.size = I at *
  have hDC : D ≠ C := Nat.ne_of_lt K.hDC
  have hDI : D ≠ I := Nat.ne_of_gt K.hDI
  have knd : ∀ x, scope.names.lookup x = some .local → (compEnvC scope cl C env).kindOf x = some .local := fun x hx => lookup_relabel_local hx
  have hpk : ((compEnvC scope cl C env).scope.kind == .class || ((compEnvC scope cl C env).scope.kind == .module && (compEnvC scope cl C env).locals != (compEnvC scope cl C env).globals)) = false := by simp [compEnvC, relabel, hkind]
  refine comp_loop_st (σ := CT) (compTurn3_0 ..) W (fun c => (D, lisO c.ys c.ys.length) :: (c.nw ++ news)) (fun c => c.nm) (fun i c => Trips (c.nw ++ news) c.ys (flat ps i) ∧ (∀ p ∈ c.nw, p.1 ≠ D)) ⟨[], [], fun _ => none⟩ (fun m' v => fun y => if y = x0 then some v else m' y)
    K.hI0 K.hfL K.hCf K.hCL K.hC0 hthere hst' K.F K.ns K.N K.hoff ⟨.nil, fun _ h => nomatch h⟩ (fun i v s Q E _ _ h => wpAny_pure h) (fun i v c s' Q E _ _ _ hns hQ => ?_) ?_ ?_
  · exact wpAny_assign_Name (wpAny_storeName_local (knd _ h0) hns (fun h₂ hn₂ hs₂ => hQ h₂ _ hn₂ fun b o hb e => hs₂.extBut b o hb e) hpk)
  · -- a tie
    rintro i v ⟨ys, nw, nm⟩ h' tk' own oC E' hi ⟨_, t, rfl⟩ ⟨hT, hnwD⟩ hown hIown hoff hoC F' N'
    dsimp only at hT hnwD hoff hoC N'
    obtain ⟨oI, hoI⟩ := hIown
    have hlen := hT.length
    rw [flat_len] at hlen
    unfold intoNext
    refine wpAny_bind (arms.one A C i t _ _ _ _ hok (by (first | lia | omega)) (hoC.ns (N' _ (.head _)).1) (by simp) F' (news_sub N' fun p hp => .tail _ (.tail _ (List.mem_append_left _ (List.mem_append_right _ hp)))) fun r tr ur hr => ?_)
    refine wpAny_bind (wpAny_standAt (wpAny_bind (wpAny_of_eq (arms.s1 C _) ?_)))
    have hrn := N' (r, _) (.tail _ (.tail _ (List.mem_append_left _ (List.mem_append_right _ hr))))
    refine inner_st (σ := CT) (C := C) (oC := oC) rfl rfl (compTurn3_1 _ _ _ _ _ _ _ _ _ · _ _) (Src.tuple (l := r) (vs := [.int (ps[i]?.getD (0, 0)).1 tr, .int (ps[i]?.getD (0, 0)).2 ur]) ⟨_, hrn.1, rfl, 0, rfl⟩) hh (knd _ h1) hpk rfl
      (fun c => (D, lisO c.ys c.ys.length) :: (c.nw ++ (news ++ own))) (fun c => c.nm) (fun k c => Trips (c.nw ++ news) c.ys (flat ps i ++ blk2 ps i k) ∧ (∀ p ∈ c.nw, p.1 ≠ D ∧ p.1 ≠ I) ∧ c.nm x0 = some (.int (i : Nat) t)) ⟨ys, nw, fun y => if y = x0 then some (.int (i : Nat) t) else nm y⟩
      F' (fun p hp => N' p (by simpa [List.append_assoc] using hp)) hoC (fun p hp => ?_) (fun b e => ?_) ⟨by simpa [blk2] using hT, fun p hp => ⟨hnwD p hp, (hoff p (.tail _ (List.mem_append_left _ hp))).1⟩, by simp⟩ ?_ ?_
    · rcases List.mem_cons.mp hp with rfl | hp
      · exact hDC
      · rcases List.mem_append.mp hp with hp | hp
        · exact (hoff p (.tail _ (List.mem_append_left _ hp))).2
        · rcases List.mem_append.mp hp with hp | hp
          · exact (hoff p (.tail _ (List.mem_append_right _ hp))).2
          · exact fun e => K.hCf (e ▸ hown p hp)
    · cases e
      exact ⟨hrn.2.1, (hoff (r, _) (.tail _ (List.mem_append_right _ hr))).2⟩
    · -- a spot
      rintro A1 I1 k v ⟨ys1, nw1, nm1⟩ h1' tk1 own1 oC1 E1 hA1 hk hv ⟨hT1, hnw1, hx01⟩ hown1 hown1' ⟨oI1, hoI1⟩ hoff1 hoC1 F1 N1
      subst hA1
      dsimp only at hT1 hnw1 hx01 hoff1 hoC1 N1
      have hok1 := (arms.mark A hok).2
      have hk2 : k < 2 := hk
      have hlen1 := hT1.length
      have hvk : ∃ tv, v = .int (spots (ps[i]?.getD (0, 0)) k) tv := by
        match k, hk2 with
        | 0, _ => exact ⟨tr, by simpa [spots] using hv.symm⟩
        | 1, _ => exact ⟨ur, by simpa [spots] using hv.symm⟩
      obtain ⟨tv, rfl⟩ := hvk
      unfold intoNext
      refine wpAny_bind (arms.two _ C _ _ _ hok1 F1 fun r2 h2' tk2 t2 u2 v2 k2 hR2 => ?_)
      dsimp only at k2
      refine wpAny_bind (wpAny_standAt (wpAny_bind (wpAny_of_eq (arms.s2 C _) ?_)))
      have N2 := news_kept N1 k2
      have F2 : Fr h₀ L h2' m := fr_kept F1 k2
      have hrC : r2 ≠ C := fun e => by
        obtain ⟨es, ep, hd, _⟩ := hoC1
        have e1 := (N2 (C, oC1) (.head _)).1
        have e2 : h2'.get? r2 = some _ := hR2
        rw [e] at e2
        rw [e2] at e1
        cases e1
        cases hd
      have hrL : r2 ≠ L := fun e => by
        obtain ⟨o', es, ep, e1, hd, _⟩ := F2.ns
        have e2 : h2'.get? r2 = some _ := hR2
        rw [e] at e2
        rw [e2] at e1
        cases e1
        cases hd
      refine inner_st (σ := CT) (C := C) (oC := oC1) rfl rfl (compTurn3_2 _ _ _ _ _ _ _ _ _ · _ _) (Src.range (r := r2) (n := 2) hR2 (by decide)) (mark_none hh) (knd _ h2) hpk rfl
        (fun c => (D, lisO c.ys c.ys.length) :: (c.nw ++ (news ++ own ++ own1))) (fun c => c.nm) (fun j c => Trips (c.nw ++ news) c.ys (flat ps i ++ blk2 ps i k ++ blk3 i (spots (ps[i]?.getD (0, 0)) k) j) ∧ (∀ p ∈ c.nw, p.1 ≠ D ∧ p.1 ≠ I ∧ p.1 ≠ I1) ∧ c.nm x0 = some (.int (i : Nat) t) ∧ c.nm x1 = some (.int (spots (ps[i]?.getD (0, 0)) k) tv))
        ⟨ys1, nw1, fun y => if y = x1 then some (.int (spots (ps[i]?.getD (0, 0)) k) tv) else nm1 y⟩
        F2 (fun p hp => N2 p (by simpa [List.append_assoc] using hp)) hoC1 (fun p hp => ?_) (fun b e => by cases e; exact ⟨hrL, hrC⟩) ⟨by simpa [blk3] using hT1, fun p hp => ⟨(hnw1 p hp).1, (hnw1 p hp).2, (hoff1 p (.tail _ (List.mem_append_left _ hp))).1⟩, by simp [h01, hx01], by simp⟩ ?_ ?_
      · rcases List.mem_cons.mp hp with rfl | hp
        · exact hDC
        · rcases List.mem_append.mp hp with hp | hp
          · exact (hoff1 p (.tail _ (List.mem_append_left _ hp))).2
          · rcases List.mem_append.mp hp with hp | hp
            · exact (hoff1 p (.tail _ (List.mem_append_right _ hp))).2
            · exact hown1 p hp
      · -- a side
        rintro A2 I2 j v ⟨ys2, nw2, nm2⟩ h3' tk3 own2 oC2 E2 hA2 hj ⟨_, tj, rfl⟩ ⟨hT2, hnw2, hx02, hx12⟩ hown2 hown2' ⟨oI2, hoI2⟩ hoff2 hoC2 F3 N3
        subst hA2
        dsimp only at hT2 hnw2 hx02 hx12 hoff2 hoC2 N3
        have hlen2 := hT2.length
        have hlen2' : ys2.length ≤ 500 := by
          rw [hlen2, List.length_append, List.length_append, flat_len, blk2_len, blk3_len]; (first | lia | omega)
        unfold intoEnd
        refine wpAny_bind (arms.elt _ C (.int (spots (ps[i]?.getD (0, 0)) k) tv) (.int (i : Nat) t) (.int (j : Nat) tj) _ _ _ _ (arms.mark _ hok1).2 (hoC2.ns (N3 _ (.head _)).1) (by simp [h12, hx12]) (by simp [h02, hx02]) (by simp) fun h4' a k4 ha ha0 => ?_)
        dsimp only at k4 ha0
        have N4 := news_kept N3 k4
        have F4 : Fr h₀ L h4' m := fr_kept F3 k4
        obtain ⟨a1, a2, a3⟩ := fresh_off N3 F3 ha0
        have hDm := N4 (D, lisO ys2 ys2.length) (.tail _ (.head _))
        refine wpAny_bind (append_at (hsz := by rw [List.size_toArray, show sizeLine = 16777216 from rfl]; (first | lia | omega)) hDm.1 fun h5' hs5 hD5 => wpAny_pure ?_)
        have eD : ({ cls := .type "list", data := .seq (ys2.toArray.push (Value.ref a)) (ys2.length + 1) } : Obj) = lisO (ys2 ++ [Value.ref a]) (ys2 ++ [Value.ref a]).length := by
          show ({ cls := .type "list", data := .seq (ys2.toArray.push (Value.ref a)) (ys2.length + 1) } : Obj) = { cls := .type "list", data := .seq (ys2 ++ [Value.ref a]).toArray (ys2 ++ [Value.ref a]).length }
          rw [List.length_append, List.length_singleton, List.push_toArray]
        rw [eD] at hD5
        have ownD : ∀ p ∈ own, p.1 ≠ D := fun p hp e => K.hDf (e ▸ hown p hp)
        have own1D : ∀ p ∈ own1, p.1 ≠ D := fun p hp => by
          rcases hown1' p hp with e | e
          · rw [e]; exact Ne.symm (hoff1 (D, lisO ys1 ys1.length) (.head _)).1
          · have e' : r = p.1 := Value.ref.inj e
            rw [← e']; exact K.hD (r, _) hr
        have own2D : ∀ p ∈ own2, p.1 ≠ D := fun p hp => by
          rcases hown2' p hp with e | e
          · rw [e]; exact Ne.symm (hoff2 (D, lisO ys2 ys2.length) (.head _)).1
          · have e' : r2 = p.1 := Value.ref.inj e
            rw [← e']
            intro e
            have e1 := (N2 (D, lisO ys1 ys1.length) (.tail _ (List.mem_append_left _ (.head _)))).1
            have e2 : h2'.get? r2 = some _ := hR2
            rw [e] at e2
            rw [e2] at e1
            have e4 := congrArg (fun o : Option Obj => (o.map Obj.cls).getD .none) e1
            have e5 : "range" = "list" := Value.type.inj e4
            exact absurd e5 (by decide)
        have keepN : ∀ p : Addr × Obj, p ∈ (C, oC2) :: ((D, lisO ys2 ys2.length) :: (nw2 ++ (news ++ own ++ own1)) ++ own2) → p.1 ≠ D → h5'.get? p.1 = some p.2 ∧ p.1 ≠ L ∧ h₀.get? p.1 = none := fun p hp hpD => ⟨hs5.extBut _ _ hpD (N4 p hp).1, (N4 p hp).2⟩
        have haD : a ≠ D := fun e => a1 (D, lisO ys2 ys2.length) (.tail _ (.head _)) e.symm
        refine ⟨⟨ys2 ++ [Value.ref a], (a, tupO [.int (spots (ps[i]?.getD (0, 0)) k) tv, .int (i : Nat) t, .int (j : Nat) tj]) :: nw2, fun y => if y = x2 then some (.int (j : Nat) tj) else nm2 y⟩, h5', tk3, oC2, (C, oC2) :: (D, lisO (ys2 ++ [Value.ref a]) (ys2 ++ [Value.ref a]).length) :: (a, tupO [.int (spots (ps[i]?.getD (0, 0)) k) tv, .int (i : Nat) t, .int (j : Nat) tj]) :: (nw2 ++ (news ++ own ++ own1) ++ own2), rfl, F4.change hs5 hDm.2.1 hDm.2.2, ?_, .head _, hoC2,
          fun p hp => .tail _ (.tail _ (.tail _ (List.mem_append_right _ hp))), ?_, ?_, ?_, ?_, ?_, ?_⟩
        · intro p hp
          rcases List.mem_cons.mp hp with rfl | hp
          · exact keepN _ (.head _) (Ne.symm hDC)
          · rcases List.mem_cons.mp hp with rfl | hp
            · exact ⟨hD5, hDm.2⟩
            · rcases List.mem_cons.mp hp with rfl | hp
              · exact ⟨hs5.extBut _ _ haD ha, a2, a3⟩
              · refine keepN p (.tail _ (.tail _ hp)) ?_
                rcases List.mem_append.mp hp with hp | hp
                · rcases List.mem_append.mp hp with hp | hp
                  · exact (hnw2 p hp).1
                  · rcases List.mem_append.mp hp with hp | hp
                    · rcases List.mem_append.mp hp with hp | hp
                      · exact K.hD p hp
                      · exact ownD p hp
                    · exact own1D p hp
                · exact own2D p hp
        · intro p hp
          rcases List.mem_cons.mp hp with rfl | hp
          · exact .tail _ (.head _)
          · rcases List.mem_cons.mp hp with rfl | hp
            · exact .tail _ (.tail _ (.head _))
            · exact .tail _ (.tail _ (.tail _ (List.mem_append_left _ hp)))
        · intro p hp
          rcases List.mem_cons.mp hp with rfl | hp
          · exact hoff2 (D, lisO ys2 ys2.length) (.head _)
          · rcases List.mem_cons.mp hp with rfl | hp
            · exact ⟨Ne.symm (a1 (I2, oI2) (.tail _ (List.mem_append_right _ hoI2))), Ne.symm (a1 (C, oC2) (.head _))⟩
            · exact hoff2 p (.tail _ hp)
        · dsimp only
          rw [blk3_succ, ← List.append_assoc]
          exact (hT2.mono fun p hp => .tail _ hp).snoc (.head _)
        · intro p hp
          rcases List.mem_cons.mp hp with rfl | hp
          · exact ⟨haD, Ne.symm (a1 (I, oI) (.tail _ (List.mem_append_left _ (.tail _ (List.mem_append_right _ (List.mem_append_left _ (List.mem_append_right _ hoI))))))), Ne.symm (a1 (I1, oI1) (.tail _ (List.mem_append_left _ (.tail _ (List.mem_append_right _ (List.mem_append_right _ hoI1))))))⟩
          · exact hnw2 p hp
        · simp [h02, hx02]
        · simp [h12, hx12]
      · -- the sides are done
        rintro ⟨ys2, nw2, nm2⟩ h3' tk3 oC2 ⟨hT2, hnw2, hx02, hx12⟩ F3 hoC2 N3 hoff2
        dsimp only at hT2 hnw2 hx02 hx12 hoC2 N3 hoff2
        refine ⟨⟨ys2, nw2, nm2⟩, h3', tk3, oC2, _, rfl, F3, N3, .head _, hoC2, fun p hp => .tail _ (.tail _ (List.mem_append_right _ (List.mem_append_right _ hp))), ?_, ?_, ?_, fun p hp => ⟨(hnw2 p hp).1, (hnw2 p hp).2.1⟩, hx02⟩
        · intro p hp
          rcases List.mem_cons.mp hp with rfl | hp
          · exact .tail _ (.head _)
          · refine .tail _ (.tail _ ?_)
            rcases List.mem_append.mp hp with hp | hp
            · exact List.mem_append_left _ hp
            · exact List.mem_append_right _ (List.mem_append_left _ hp)
        · intro p hp
          rcases List.mem_cons.mp hp with rfl | hp
          · exact hoff1 (D, lisO ys1 ys1.length) (.head _)
          · rcases List.mem_append.mp hp with hp | hp
            · exact ⟨(hnw2 p hp).2.2, hoff2 p (.tail _ (List.mem_append_left _ hp))⟩
            · exact hoff1 p (.tail _ (List.mem_append_right _ hp))
        · dsimp only
          rw [blk2_succ, ← List.append_assoc]
          exact hT2
    · -- the spots are done
      rintro ⟨ys1, nw1, nm1⟩ h1' tk1 oC1 ⟨hT1, hnw1, hx01⟩ F1 hoC1 N1 hoff1
      dsimp only at hT1 hnw1 hx01 hoC1 N1 hoff1
      refine ⟨⟨ys1, nw1, nm1⟩, h1', tk1, oC1, _, rfl, F1, N1, .head _, hoC1, fun p hp => .tail _ (.tail _ (List.mem_append_right _ (List.mem_append_right _ hp))), ?_, ?_, ?_, fun p hp => (hnw1 p hp).1⟩
      · intro p hp
        rcases List.mem_cons.mp hp with rfl | hp
        · exact .tail _ (.head _)
        · refine .tail _ (.tail _ ?_)
          rcases List.mem_append.mp hp with hp | hp
          · exact List.mem_append_left _ hp
          · exact List.mem_append_right _ (List.mem_append_left _ hp)
      · intro p hp
        rcases List.mem_cons.mp hp with rfl | hp
        · exact ⟨hDI, hDC⟩
        · rcases List.mem_append.mp hp with hp | hp
          · exact ⟨(hnw1 p hp).2, hoff1 p (.tail _ (List.mem_append_left _ hp))⟩
          · exact hoff p (.tail _ (List.mem_append_right _ hp))
      · dsimp only
        rw [flat_succ]
        exact hT1
  · rintro ⟨ys, nw, nm⟩ h' tk' ⟨hT, hnwD⟩ F' hns' N' hoff
    dsimp only at hT hnwD hns' N' hoff
    refine done D C ys nw nm h' tk' hT F' hns' N' (fun p hp => (hoff p hp).2) (fun p hp => ?_) K.hCL K.hC0
    rcases List.mem_append.mp hp with hp | hp
    · exact hnwD p hp
    · exact K.hD p hp
end
end Mine
end
/-! part S2 -/
section
open PySem PySem.W PyProof.Rows
set_option autoImplicit false
namespace Mine
/-! the sort's questions answered by a rank -/
noncomputable def pw {α : Type} (o : Nat → Nat → Bool) (N : Nat) : KasT α → (α → Prop) → Prop
  | .ret a, Q => Q a
  | .ask i j k, Q => i < N ∧ j < N ∧ pw o N (k (o i j)) Q
theorem pw_bind {α β : Type} {o : Nat → Nat → Bool} {N : Nat} {f : α → KasT β} {Q : β → Prop} : ∀ (t : KasT α), pw o N t (fun a => pw o N (f a) Q) → pw o N (t.bind f) Q
  | .ret _, h => h
  | .ask _ _ k, h => ⟨h.1, h.2.1, pw_bind (k _) h.2.2⟩
theorem pw_mono {α : Type} {o : Nat → Nat → Bool} {N : Nat} {Q Q' : α → Prop} (hq : ∀ a, Q a → Q' a) : ∀ (t : KasT α), pw o N t Q → pw o N t Q'
  | .ret a, h => hq a h
  | .ask _ _ k, h => ⟨h.1, h.2.1, pw_mono hq (k _) h.2.2⟩
theorem pw_kas {α : Type} {o : Nat → Nat → Bool} {N : Nat} {cmp : Nat → Nat → (Bool → Shared → Prop) → Shared → Prop} {Q : α → Shared → Prop} {s : Shared} (hc : ∀ i j (C : Bool → Shared → Prop), i < N → j < N → C (o i j) s → cmp i j C s) : ∀ (t : KasT α), pw o N t (fun a => Q a s) → t.kasWp cmp Q s
  | .ret _, h => h
  | .ask i j k, h => hc i j _ h.1 h.2.1 (pw_kas hc (k _) h.2.2)
/-- a rearrangement of 0 .. N-1 -/
noncomputable def Pm (N : Nat) (p : Array Nat) : Prop := p.Perm (List.range N).toArray
noncomputable def Rk (r : Nat → Int) (p : Array Nat) (k : Nat) : Int := r (p.getD k 0)
noncomputable def Inc (r : Nat → Int) (p : Array Nat) (n : Nat) : Prop := ∀ i j, i < j → j < n → Rk r p i < Rk r p j
noncomputable def Dec (r : Nat → Int) (p : Array Nat) (n : Nat) : Prop := ∀ i j, i < j → j < n → Rk r p j < Rk r p i
theorem Pm.size {N : Nat} {p : Array Nat} (h : Pm N p) : p.size = N := by have := h.size_eq; simpa using this
theorem getD_opt (p : Array Nat) (k : Nat) : p.getD k 0 = p[k]?.getD 0 := by simp [Array.getD]; split <;> simp_all
theorem Pm.lt {N : Nat} {p : Array Nat} (h : Pm N p) (hN : 0 < N) (k : Nat) : p.getD k 0 < N := by
  rw [getD_opt]
  by_cases hk : k < p.size
  · rw [Array.getElem?_eq_getElem hk, Option.getD_some]
    have : p[k] ∈ (List.range N).toArray.toList := (Array.perm_iff_toList_perm.mp h).mem_iff.mp (by simp)
    simpa using this
  · rw [Array.getElem?_eq_none (by (first | lia | omega))]; exact hN
theorem Pm.inj {N : Nat} {p : Array Nat} (h : Pm N p) {i j : Nat} (hi : i < N) (hj : j < N) (e : p.getD i 0 = p.getD j 0) : i = j := by
  have hs := h.size
  have hn : p.toList.Nodup := (Array.perm_iff_toList_perm.mp h).nodup_iff.mpr (by simpa using List.nodup_range)
  rw [getD_opt, getD_opt, Array.getElem?_eq_getElem (by (first | lia | omega)), Array.getElem?_eq_getElem (by (first | lia | omega))] at e
  simp only [Option.getD_some] at e
  have e1 : p.toList[i]'(by simpa [hs] using hi) = p.toList[j]'(by simpa [hs] using hj) := by simpa using e
  have hp := List.pairwise_iff_getElem.mp hn
  rcases Nat.lt_trichotomy i j with h1 | h1 | h1
  · exact absurd e1 (hp i j _ _ h1)
  · exact h1
  · exact absurd e1.symm (hp j i _ _ h1)
section
variable {r : Nat → Int} {N : Nat}
theorem rk_ne (hr : ∀ i j, i < N → j < N → r i = r j → i = j) {p : Array Nat} (h : Pm N p) (hN : 0 < N) {i j : Nat} (hi : i < N) (hj : j < N) (hij : i ≠ j) : Rk r p i ≠ Rk r p j := fun e =>
  hij (h.inj hi hj (hr _ _ (h.lt hN i) (h.lt hN j) e))
noncomputable abbrev ord (r : Nat → Int) : Nat → Nat → Bool := fun i j => decide (r i < r j)
theorem pw_asc {p : Array Nat} (h : Pm N p) (hN : 0 < N) {Q : Nat → Prop} : ∀ (f n : Nat), 1 ≤ n → n + f ≤ N → Inc r p n → (∀ m, n ≤ m → m ≤ n + f → Inc r p m → (m = n + f ∨ Rk r p m ≤ Rk r p (m - 1)) → Q m) → (hr : ∀ i j, i < N → j < N → r i = r j → i = j) → pw (ord r) N (kas_asc p f n) Q
  | 0, n, h1, hn, hi, hQ, _ => hQ n (Nat.le_refl _) (Nat.le_refl _) hi (.inl rfl)
  | f + 1, n, h1, hn, hi, hQ, hr => by
    refine ⟨h.lt hN _, h.lt hN _, ?_⟩
    show pw _ N (if decide (Rk r p n < Rk r p (n - 1)) = true then _ else _) Q
    by_cases hc : Rk r p n < Rk r p (n - 1)
    · rw [if_pos (decide_eq_true hc)]
      exact hQ n (Nat.le_refl _) (by (first | lia | omega)) hi (.inr (Int.le_of_lt hc))
    · rw [if_neg (by simpa using hc)]
      have hne := rk_ne hr h hN (show n < N by (first | lia | omega)) (show n - 1 < N by (first | lia | omega)) (by (first | lia | omega))
      refine pw_asc h hN f (n + 1) (by (first | lia | omega)) (by (first | lia | omega)) ?_ (fun m a b c d => hQ m (by (first | lia | omega)) (by (first | lia | omega)) c (d.imp (by (first | lia | omega)) id)) hr
      intro i j hij hj
      by_cases hjn : j < n
      · exact hi i j hij hjn
      · have : j = n := by (first | lia | omega)
        subst this
        by_cases hi' : i = j - 1
        · subst hi'; (first | lia | omega)
        · have := hi i (j - 1) (by (first | lia | omega)) (by (first | lia | omega))
          (first | lia | omega)
theorem pw_desc {p : Array Nat} (h : Pm N p) (hN : 0 < N) {Q : Array Nat × Nat × Nat → Prop} (hr : ∀ i j, i < N → j < N → r i = r j → i = j) : ∀ (f n : Nat), 1 ≤ n → n + f ≤ N → Dec r p n → (∀ m, n ≤ m → m ≤ n + f → Dec r p m → Q (p, m, 0)) → pw (ord r) N (kas_desc f p n 0) Q
  | 0, n, h1, hn, hi, hQ => hQ n (Nat.le_refl _) (Nat.le_refl _) hi
  | f + 1, n, h1, hn, hi, hQ => by
    refine ⟨h.lt hN _, h.lt hN _, ?_⟩
    show pw _ N (if decide (Rk r p n < Rk r p (n - 1)) = true then _ else _) Q
    by_cases hc : Rk r p n < Rk r p (n - 1)
    · rw [if_pos (decide_eq_true hc), if_neg (by (first | lia | omega))]
      refine pw_desc h hN hr f (n + 1) (by (first | lia | omega)) (by (first | lia | omega)) ?_ fun m a b c => hQ m (by (first | lia | omega)) (by (first | lia | omega)) c
      intro i j hij hj
      by_cases hjn : j < n
      · exact hi i j hij hjn
      · have : j = n := by (first | lia | omega)
        subst this
        by_cases hi' : i = j - 1
        · subst hi'; exact hc
        · have := hi i (j - 1) (by (first | lia | omega)) (by (first | lia | omega))
          (first | lia | omega)
    · rw [if_neg (by simpa using hc)]
      have hne := rk_ne hr h hN (show n < N by (first | lia | omega)) (show n - 1 < N by (first | lia | omega)) (by (first | lia | omega))
      refine ⟨h.lt hN _, h.lt hN _, ?_⟩
      show pw _ N (if decide (Rk r p (n - 1) < Rk r p n) = true then _ else _) Q
      rw [if_pos (decide_eq_true (by (first | lia | omega)))]
      exact hQ n (Nat.le_refl _) (by (first | lia | omega)) hi
theorem Pm.rev {p : Array Nat} (h : Pm N p) (i j : Nat) : Pm N (kas_rev p i j) := (mirror_perm _ _ _ _).trans h
theorem Pm.bub {p : Array Nat} (h : Pm N p) (i j : Nat) : Pm N (bubble p i j) := (bubble_perm _ _ _).trans h
theorem rk_rev {p : Array Nat} (h : Pm N p) {n : Nat} (hn : n ≤ N) (k : Nat) (hk : k < n) : Rk r (kas_rev p 0 n) k = Rk r p (n - 1 - k) := by
  unfold Rk kas_rev
  rw [getD_opt, getD_opt, getElem?_mirror_all (by rw [h.size]; exact hn), if_pos (by (first | lia | omega))]
  congr 3; (first | lia | omega)
theorem pw_tail3 {p : Array Nat} (h : Pm N p) (hN : 0 < N) (hr : ∀ i j, i < N → j < N → r i = r j → i = j) {Q : Nat × Array Nat → Prop} {n : Nat} (h1 : 1 ≤ n) (hn : n ≤ N) (hd : Dec r p n) (hQ : ∀ m p', Pm N p' → 1 ≤ m → m ≤ N → Inc r p' m → Q (m, p')) : pw (ord r) N (kas_tail3 n N p) Q := by
  unfold kas_tail3
  refine pw_bind _ (pw_asc (h.rev 0 n) hN (N - n) n h1 (by (first | lia | omega)) ?_ (fun m a b c _ => hQ m _ (h.rev 0 n) (by (first | lia | omega)) (by (first | lia | omega)) c) hr)
  intro i j hij hj
  rw [rk_rev h hn i (by (first | lia | omega)), rk_rev h hn j hj]
  exact hd _ _ (by (first | lia | omega)) (by (first | lia | omega))
theorem pw_descPart {p : Array Nat} (h : Pm N p) (hN : 0 < N) (hr : ∀ i j, i < N → j < N → r i = r j → i = j) {Q : Nat × Array Nat → Prop} {n : Nat} (hn : n + 1 ≤ N) (hd : Dec r p (n + 1)) (hQ : ∀ m p', Pm N p' → 1 ≤ m → m ≤ N → Inc r p' m → Q (m, p')) : pw (ord r) N (kas_descPart n N p) Q := by
  unfold kas_descPart
  refine pw_bind _ (pw_desc h hN hr _ (n + 1) (by (first | lia | omega)) (by (first | lia | omega)) hd fun m a b c => ?_)
  dsimp only
  rw [if_neg (by (first | lia | omega))]
  exact pw_tail3 h hN hr (by (first | lia | omega)) (by (first | lia | omega)) c hQ
theorem pw_count {p : Array Nat} (h : Pm N p) (hN : 0 < N) (hr : ∀ i j, i < N → j < N → r i = r j → i = j) {Q : Nat × Array Nat → Prop} (hQ : ∀ m p', Pm N p' → 1 ≤ m → m ≤ N → Inc r p' m → Q (m, p')) : pw (ord r) N (kas_count N p) Q := by
  unfold kas_count
  refine pw_bind _ (pw_asc h hN (N - 1) 1 (by (first | lia | omega)) (by (first | lia | omega)) (fun i j hij hj => by (first | lia | omega)) (fun n a b c d => ?_) hr)
  by_cases e1 : (n == N) = true
  · rw [if_pos e1]; exact hQ n p h a (by (first | lia | omega)) c
  · rw [if_neg e1]
    have e1' : n ≠ N := by simpa using e1
    by_cases e2 : n > 1
    · rw [if_pos e2]
      refine ⟨h.lt hN _, h.lt hN _, ?_⟩
      show pw _ N (if decide (Rk r p 0 < Rk r p (n - 1)) = true then _ else _) Q
      rw [if_pos (decide_eq_true (c 0 (n - 1) (by (first | lia | omega)) (by (first | lia | omega))))]
      exact hQ n p h a (by (first | lia | omega)) c
    · rw [if_neg e2]
      have e3 : n = 1 := by (first | lia | omega)
      subst e3
      refine pw_descPart h hN hr (by (first | lia | omega)) ?_ hQ
      intro i j hij hj
      have hi : i = 0 := by (first | lia | omega)
      have hj : j = 1 := by (first | lia | omega)
      subst hi hj
      have hne := rk_ne hr h hN (show 1 < N by (first | lia | omega)) (show 0 < N by (first | lia | omega)) (by (first | lia | omega))
      rcases d with d | d
      · (first | lia | omega)
      · have : Rk r p 1 ≤ Rk r p 0 := d
        (first | lia | omega)
theorem pw_place {p : Array Nat} (h : Pm N p) (hN : 0 < N) (hr : ∀ i j, i < N → j < N → r i = r j → i = j) {Q : Nat → Prop} {k : Nat} (hk : k < N) (hi : Inc r p k) : ∀ (f l q : Nat), l ≤ q → q ≤ k → q - l ≤ f → (∀ i, i < l → Rk r p i < Rk r p k) → (∀ i, q ≤ i → i < k → Rk r p k < Rk r p i) →
    (∀ l, l ≤ k → (∀ i, i < l → Rk r p i < Rk r p k) → (∀ i, l ≤ i → i < k → Rk r p k < Rk r p i) → Q l) → pw (ord r) N (kas_place p k f l q) Q
  | 0, l, q, h1, h2, h3, h4, h5, hQ => hQ l (by (first | lia | omega)) h4 (by have : l = q := (by (first | lia | omega)); subst this; exact h5)
  | f + 1, l, q, h1, h2, h3, h4, h5, hQ => by
    unfold kas_place
    by_cases e : l ≥ q
    · rw [if_pos e]; exact hQ l (by (first | lia | omega)) h4 (by have : l = q := (by (first | lia | omega)); subst this; exact h5)
    · rw [if_neg e]
      refine ⟨h.lt hN _, h.lt hN _, ?_⟩
      show pw _ N (if decide (Rk r p k < Rk r p ((l + q) / 2)) = true then _ else _) Q
      by_cases hc : Rk r p k < Rk r p ((l + q) / 2)
      · rw [if_pos (decide_eq_true hc)]
        refine pw_place h hN hr hk hi f l _ (by (first | lia | omega)) (by (first | lia | omega)) (by (first | lia | omega)) h4 (fun i a b => ?_) hQ
        by_cases e2 : i = (l + q) / 2
        · rw [e2]; exact hc
        · have := hi ((l + q) / 2) i (by (first | lia | omega)) b
          (first | lia | omega)
      · rw [if_neg (by simpa using hc)]
        have hne := rk_ne hr h hN (show k < N by (first | lia | omega)) (show (l + q) / 2 < N by (first | lia | omega)) (by (first | lia | omega))
        refine pw_place h hN hr hk hi f _ q (by (first | lia | omega)) h2 (by (first | lia | omega)) (fun i a => ?_) h5 hQ
        by_cases e2 : i = (l + q) / 2
        · rw [e2]; (first | lia | omega)
        · have := hi i ((l + q) / 2) (by (first | lia | omega)) (by (first | lia | omega))
          (first | lia | omega)
theorem rk_bub {p : Array Nat} (h : Pm N p) {k l : Nat} (hk : k < N) (hl : l ≤ k) (i : Nat) : Rk r (bubble p k (k - l)) i = if i = l then Rk r p k else if l < i ∧ i ≤ k then Rk r p (i - 1) else Rk r p i := by
  unfold Rk
  rw [getD_opt, getElem?_bubble (by rw [h.size]; exact hk) (k - l) (by (first | lia | omega)), show k - (k - l) = l by (first | lia | omega)]
  split
  · rw [getD_opt]
  · split <;> rw [getD_opt]
theorem pw_bin (hN : 0 < N) (hr : ∀ i j, i < N → j < N → r i = r j → i = j) {Q : Array Nat → Prop} (hQ : ∀ p, Pm N p → Inc r p N → Q p) : ∀ (f : Nat) (p : Array Nat) (k : Nat), Pm N p → k + f = N → Inc r p k → pw (ord r) N (kas_bin f p k) Q
  | 0, p, k, h, hk, hi => hQ p h (by have : k = N := (by (first | lia | omega)); exact this ▸ hi)
  | f + 1, p, k, h, hk, hi => by
    unfold kas_bin
    refine pw_bind _ (pw_place h hN hr (by (first | lia | omega)) hi k 0 k (by (first | lia | omega)) (by (first | lia | omega)) (by (first | lia | omega)) (fun i a => by (first | lia | omega)) (fun i a b => by (first | lia | omega)) fun l hl h4 h5 => ?_)
    refine pw_bin hN hr hQ f _ (k + 1) (h.bub _ _) (by (first | lia | omega)) ?_
    intro i j hij hj
    rw [rk_bub h (by (first | lia | omega)) hl, rk_bub h (by (first | lia | omega)) hl]
    repeat' split
    all_goals first
      | (exfalso; (first | lia | omega))
      | exact h4 _ (by (first | lia | omega))
      | exact h5 _ (by (first | lia | omega)) (by (first | lia | omega))
      | exact hi _ _ (by (first | lia | omega)) (by (first | lia | omega))
theorem pw_sort (hN : 0 < N) (hr : ∀ i j, i < N → j < N → r i = r j → i = j) {Q : Array Nat → Prop} (hQ : ∀ p, Pm N p → Inc r p N → Q p) : pw (ord r) N (kas_sort N) Q := by
  unfold kas_sort
  refine pw_bind _ (pw_count (Array.Perm.refl _) hN hr fun m p h h1 h2 hi => ?_)
  dsimp only
  by_cases e : m < N
  · rw [if_pos e, show max m 1 = m by (first | lia | omega)]
    exact pw_bin hN hr hQ _ p m h (by (first | lia | omega)) hi
  · rw [if_neg e]
    have : m = N := by (first | lia | omega)
    exact hQ p h (this ▸ hi)
end
end Mine
end
/-! part S3 -/
section
open PySem PySem.W PyProof.Rows
set_option autoImplicit false
namespace Mine
noncomputable section
variable {prog : Program} {w : World} {A : Around} {s : Shared} {h₀ : Heap} {L : Addr} {m : Str → Option Value} {news : List (Addr × Obj)} {E : Value → Shared → Prop} {Q : Value → Shared → Prop}
noncomputable def code3 (t : Int × Int × Int) : Int := (t.1 * 64 + t.2.1) * 2 + t.2.2
noncomputable def Bd (t : Int × Int × Int) : Prop := 0 ≤ t.2.1 ∧ t.2.1 < 64 ∧ 0 ≤ t.2.2 ∧ t.2.2 < 2
theorem trips_firsts {h : Heap} (N : News h₀ L h news) : ∀ {vs : List Value} {ts : List (Int × Int × Int)}, Trips news vs ts → ∃ fs, KatTups h vs fs ∧ fs.length = vs.length ∧ ∀ v ∈ fs, ∃ i t, v = .int i t
  | _, _, .nil => ⟨[], .nil, rfl, fun _ h => nomatch h⟩
  | _, _, .cons (r := r) (i := i) (j := j) (k := k) (t := t) (u := u) (v := v) hm h => by
    obtain ⟨fs, h1, h2, h3⟩ := trips_firsts N h
    refine ⟨.int i t :: fs, KatTups.cons (N _ hm).1 rfl rfl rfl h1, by simp [h2], fun x hx => ?_⟩
    rcases List.mem_cons.mp hx with rfl | hx
    · exact ⟨i, t, rfl⟩
    · exact h3 x hx
theorem lex3 {x y : Addr} {a b : Int × Int × Int} {t1 t2 t3 u1 u2 u3 : Tok} {C : Bool → Shared → Prop} (hx : s.heap.get? x = some (tupO [.int a.1 t1, .int a.2.1 t2, .int a.2.2 t3])) (hy : s.heap.get? y = some (tupO [.int b.1 u1, .int b.2.1 u2, .int b.2.2 u3]))
    (ha : Bd a) (hb : Bd b) (h : ∀ bb : Bool, (bb = true ↔ code3 a < code3 b) → C bb s) : wpAny (model prog w) A (keyLt' (tuples' true) (.ref x) (.ref y)) C E s := by
  obtain ⟨a1, a2, a3⟩ := a
  obtain ⟨b1, b2, b3⟩ := b
  simp only [Bd, code3] at ha hb h
  refine kat_lt hx rfl hy rfl ?_
  show KatLex prog w A true false C [(.int a1 t1, .int b1 u1), (.int a2 t2, .int b2 u2), (.int a3 t3, .int b3 u3)] 0 s
  refine kat_cons (wpAny_eqBool_int (kat_go (fun e1 => kat_yes ?_) fun e1 => kat_no ?_))
  · have e1 : a1 = b1 := by simpa using e1
    refine kat_cons (wpAny_eqBool_int (kat_go (fun e2 => kat_yes ?_) fun e2 => kat_no ?_))
    · have e2 : a2 = b2 := by simpa using e2
      refine kat_cons (wpAny_eqBool_int (kat_go (fun e3 => kat_yes ?_) fun e3 => kat_no ?_))
      · have e3 : a3 = b3 := by simpa using e3
        refine kat_nil (h _ ?_)
        constructor
        · intro q; cases q
        · intro q; (first | lia | omega)
      · refine kat_one _ _ (lt_int (h _ ?_))
        rw [decide_eq_true_eq]; (first | lia | omega)
    · have e2 : a2 ≠ b2 := by simpa using e2
      refine kat_one _ _ (lt_int (h _ ?_))
      rw [decide_eq_true_eq]; (first | lia | omega)
  · have e1 : a1 ≠ b1 := by simpa using e1
    refine oneLt_int (h _ ?_)
    rw [decide_eq_true_eq]; (first | lia | omega)
theorem trips_at {vs : List Value} {ts : List (Int × Int × Int)} (hat : ∀ i, i < ts.length → ∃ r t u v, vs.getD i .none = .ref r ∧ (r, tupO [.int (ts[i]?.getD (0, 0, 0)).1 t, .int (ts[i]?.getD (0, 0, 0)).2.1 u, .int (ts[i]?.getD (0, 0, 0)).2.2 v]) ∈ news) :
    ∀ l : List Nat, (∀ i ∈ l, i < ts.length) → Trips news (l.map fun i => vs.getD i .none) (l.map fun i => ts[i]?.getD (0, 0, 0))
  | [], _ => .nil
  | i :: l, hl => by
    obtain ⟨r, t, u, v, a, b⟩ := hat i (hl i (List.mem_cons_self ..))
    rw [List.map_cons, List.map_cons, a]
    exact .cons b (trips_at hat l fun j hj => hl j (List.mem_cons_of_mem _ hj))
theorem sorted_trips {l : Addr} {vs : List Value} {ts : List (Int × Int × Int)} {n : Nat} (F : Fr h₀ L s.heap m) (N : News h₀ L s.heap news) (hl : (l, lisO vs n) ∈ news) (hT : Trips news vs ts) (h2 : 2 ≤ vs.length) (h64 : vs.length < 64)
    (hbd : ∀ t ∈ ts, Bd t) (hinj : ∀ i j : Nat, i < ts.length → j < ts.length → code3 (ts[i]?.getD (0, 0, 0)) = code3 (ts[j]?.getD (0, 0, 0)) → i = j)
    (h : ∀ D c h' ys ts', Trips news ys ts' → (∀ t, t ∈ ts' ↔ t ∈ ts) → ts'.Pairwise (fun a b => code3 a < code3 b) → Fr h₀ L h' m → News h₀ L h' ((D, lisO ys c) :: news) → (∀ q ∈ news, q.1 < D) → Q (.ref D) { s with heap := h' }) :
    wpAny (model prog w) A (call (.builtin "sorted") [.ref l]) Q E s := by
  have hlen := hT.length
  refine kat_sorted F N (list_at N hl) h2 h64 ?_
  intro D e1 h' F' N' l1
  have N0 : News h₀ L h' news := fun p hp => N' p (.tail _ hp)
  obtain ⟨fs, k1, k2, k3⟩ := trips_firsts N0 hT
  refine kat_kind k1 (by (first | lia | omega)) (T := .type "int") (fun v hv => ?_) (by rfl) ?_
  · obtain ⟨i, t, rfl⟩ := k3 v hv
    kas_ty
  · have hk : (Value.type "int" != Value.type "tuple") = true := by rfl
    rw [hk]
    have hat : ∀ i, i < ts.length → ∃ r t u v, vs.getD i .none = .ref r ∧ (r, tupO [.int (ts[i]?.getD (0, 0, 0)).1 t, .int (ts[i]?.getD (0, 0, 0)).2.1 u, .int (ts[i]?.getD (0, 0, 0)).2.2 v]) ∈ news := fun i hi => by
      obtain ⟨r, t, u, v, a, b⟩ := hT.get i hi
      exact ⟨r, t, u, v, by rw [List.getD_eq_getElem?_getD, a]; rfl, b⟩
    have hb : ∀ i, i < ts.length → Bd (ts[i]?.getD (0, 0, 0)) := fun i hi => hbd _ (by simp [hi])
    refine pw_kas (o := ord fun i => code3 (ts[i]?.getD (0, 0, 0))) (N := vs.length) (fun i j C hi hj hC => ?_) _ ?_
    · obtain ⟨r, t, u, v, a, b⟩ := hat i (by (first | lia | omega))
      obtain ⟨r', t', u', v', a', b'⟩ := hat j (by (first | lia | omega))
      show wpAny (model prog w) _ (keyLt' (tuples' true) (vs.getD i .none) (vs.getD j .none)) C (fun _ _ => False) _
      rw [a, a']
      exact lex3 (N0 _ b).1 (N0 _ b').1 (hb i (by (first | lia | omega))) (hb j (by (first | lia | omega))) fun bb e => by
        have : bb = ord (fun i => code3 (ts[i]?.getD (0, 0, 0))) i j := by
          rw [Bool.eq_iff_iff, e, decide_eq_true_eq]
        rw [this]; exact hC
    · refine pw_sort (by (first | lia | omega)) (fun i j hi hj e => hinj i j (by (first | lia | omega)) (by (first | lia | omega)) e) fun p hp hi => ?_
      have hps := hp.size
      have hpl : p.toList.Perm (List.range vs.length) := by simpa using Array.perm_iff_toList_perm.mp hp
      refine KasFin.intro F' N' (.head fun q hq => Nat.ne_of_lt (l1 q hq)) fun h'' c F'' N'' => ?_
      refine h D c h'' (p.toList.map fun i => vs.getD i .none) (p.toList.map fun i => ts[i]?.getD (0, 0, 0)) (trips_at hat _ fun i hi => ?_) (fun t => ?_) ?_ F'' N'' l1
      · have := List.mem_range.mp (hpl.mem_iff.mp hi)
        (first | lia | omega)
      · rw [List.mem_map]
        constructor
        · rintro ⟨i, hi, rfl⟩
          have := List.mem_range.mp (hpl.mem_iff.mp hi)
          have hi' : i < ts.length := by (first | lia | omega)
          rw [List.getElem?_eq_getElem hi']
          simp
        · intro ht
          obtain ⟨i, hi, e⟩ := List.mem_iff_getElem.mp ht
          refine ⟨i, hpl.mem_iff.mpr (List.mem_range.mpr (by (first | lia | omega))), ?_⟩
          rw [List.getElem?_eq_getElem hi, Option.getD_some, e]
      · rw [List.pairwise_map, List.pairwise_iff_getElem]
        intro i j h1 h3 hij
        have := hi i j hij (by simpa [hps] using h3)
        simp only [Rk, getD_opt] at this
        rw [← Array.getElem?_toList, ← Array.getElem?_toList, List.getElem?_eq_getElem h1, List.getElem?_eq_getElem h3] at this
        simpa using this
end
end Mine
end
/-! part E1 -/
section
open PySem PySem.W PyProof.Rows
set_option autoImplicit false
namespace Mine
noncomputable section
variable {prog : Program} {w : World} {A : Around} {s : Shared} {h₀ : Heap} {L : Addr} {m : Str → Option Value} {news big : List (Addr × Obj)} {E : Value → Shared → Prop} {Q : Value → Shared → Prop}
noncomputable def csOk (K : Frag) : Bool := match K.lookup 2 with
  | some ⟨_, _, .dict es _, _⟩ => es.size == 0
  | _ => false
theorem cs_ok (p : Params) : csOk (Mine.hd.heap_39 p) = true := by rfl
theorem booked_of {K : Frag} {h : Heap} (X : K.In h) (e : csOk K = true) : NoneBooked h := by
  unfold csOk at e
  split at e
  · rename_i c d es ep sl q
    have e0 : es = #[] := by simpa using e
    subst e0
    exact ⟨_, ⟨_, #[], ep, X _ _ q, rfl, fun x hx => by simp at hx, fun _ => rfl⟩, by simp [nsFind, findBy]⟩
  · cases e
theorem none_booked {h : Heap} (X : (Mine.hd.heap_39 w.params).In h) : NoneBooked h := booked_of X (cs_ok _)
theorem booked_kept {h h' : Heap} (x : NoneBooked h) (k : Kept h h') : NoneBooked h' := let ⟨mc, a, b⟩ := x; ⟨mc, a.keeps k, b⟩
theorem eq_float {x : UInt64} {t u : Tok} (ht : t ≠ 0) (hu : u ≠ 0) (hb : NoneBooked s.heap) (hx : Float64.isNaN x = false) : SeqAt.EqAt A s (.float x t) (.float x u) true := fun prog w E Q hq => by
  have fin : wpAny (model prog w) A (richCompare .Eq (.float x t) (.float x u) >>= truthOfDropped) Q E s := by
    refine wpAny_bind ?_
    have hc : (Float64.cmp x x == some Ordering.eq) = true := by rw [Flt.cmp_self, hx]; rfl
    refine wpAny_mono (show wpAny (model prog w) A (richCompare .Eq (.float x t) (.float x u)) (fun v s' => v = .bool true ∧ s' = s) E s from AutoFloatOps.eq_0 (by rw [hc]; exact ⟨rfl, rfl⟩)) (fun v s' hv => ?_) fun _ _ e => e
    obtain ⟨rfl, rfl⟩ := hv
    exact wpAny_truthy_bool hq
  unfold eqBool
  refine wpAny_holding ?_
  refine wpAny_ite_split (fun _ => wpAny_bind (wpAny_rule (wpAny_pure hq))) (fun _ => ?_)
  show wpAny _ _ (isSame.created (x == x && !Float64.isNaN x) t u >>= fun b => if b = true then pure true else _) _ _ s
  refine wpAny_bind ?_
  unfold isSame.created
  have h0 : (t == 0 || u == 0) = false := by simp [ht, hu]
  refine wpAny_ite ?_
  split
  · rename_i h; rw [h0] at h; exact absurd h Bool.false_ne_true
  refine wpAny_ite ?_
  split
  · exact wpAny_pure (wpAny_pure hq)
  refine wpAny_ite ?_
  split
  · exact wpAny_pure fin
  refine wpAny_bind (wpAny_sharingNotTold_none hb ?_)
  first | rw [if_neg Bool.false_ne_true] | simp only [Bool.false_eq_true, if_false]
  refine wpAny_bind (wpAny_sharingNotTold_none hb ?_)
  first | rw [if_neg Bool.false_ne_true] | simp only [Bool.false_eq_true, if_false]
  refine wpAny_bind (wpAny_rule (wpAny_bind (wpAny_askSetting (wpAny_pure ?_))))
  split
  · exact wpAny_pure hq
  · exact fin
/-- lists of an int and two floats, item by item -/
inductive Dues (news : List (Addr × Obj)) : List Value → List (Int × UInt64 × UInt64) → Prop where
  | nil : Dues news [] []
  | cons {r : Addr} {i : Int} {x y : UInt64} {t u v : Tok} {n : Nat} {vs : List Value} {ds : List (Int × UInt64 × UInt64)} : (r, lisO [.int i t, .float x u, .float y v] n) ∈ news → u ≠ 0 → v ≠ 0 → Dues news vs ds → Dues news (.ref r :: vs) ((i, x, y) :: ds)
theorem Dues.length {vs : List Value} {ds : List (Int × UInt64 × UInt64)} (h : Dues news vs ds) : vs.length = ds.length := by
  induction h with
  | nil => rfl
  | cons _ _ _ _ ih => simp [ih]
theorem Dues.mono {vs : List Value} {ds : List (Int × UInt64 × UInt64)} (h : Dues news vs ds) (hs : ∀ p ∈ news, p ∈ big) : Dues big vs ds := by
  induction h with
  | nil => exact .nil
  | cons hm a b _ ih => exact .cons (hs _ hm) a b ih
theorem Dues.snoc {r : Addr} {i : Int} {x y : UInt64} {t u v : Tok} {n : Nat} {vs : List Value} {ds : List (Int × UInt64 × UInt64)} (h : Dues news vs ds) (hm : (r, lisO [.int i t, .float x u, .float y v] n) ∈ news) (hu : u ≠ 0) (hv : v ≠ 0) : Dues news (vs ++ [.ref r]) (ds ++ [(i, x, y)]) := by
  induction h with
  | nil => exact .cons hm hu hv .nil
  | cons h1 a b _ ih => exact .cons h1 a b ih
theorem Dues.get {vs : List Value} {ds : List (Int × UInt64 × UInt64)} (h : Dues news vs ds) : ∀ k : Nat, k < ds.length → ∃ r t u v n, vs[k]? = some (.ref r) ∧ (r, lisO [.int (ds[k]?.getD (0, 0, 0)).1 t, .float (ds[k]?.getD (0, 0, 0)).2.1 u, .float (ds[k]?.getD (0, 0, 0)).2.2 v] n) ∈ news ∧ u ≠ 0 ∧ v ≠ 0 := by
  induction h with
  | nil => intro k hk; cases hk
  | cons hm a b _ ih =>
    intro k hk
    cases k with
    | zero => exact ⟨_, _, _, _, _, rfl, hm, a, b⟩
    | succ k => obtain ⟨r, t, u, v, n, h1, h2, h3, h4⟩ := ih k (by simpa using hk); exact ⟨r, t, u, v, n, by simpa using h1, by simpa using h2, h3, h4⟩
theorem Dues.insert {r : Addr} {i : Int} {x y : UInt64} {t u v : Tok} {n : Nat} (hm : (r, lisO [.int i t, .float x u, .float y v] n) ∈ news) (hu : u ≠ 0) (hv : v ≠ 0) {vs : List Value} {ds : List (Int × UInt64 × UInt64)} (h : Dues news vs ds) : ∀ k : Nat, Dues news (vs.take k ++ .ref r :: vs.drop k) (ds.take k ++ (i, x, y) :: ds.drop k) := by
  induction h with
  | nil => intro k; simpa using Dues.cons hm hu hv .nil
  | cons h1 a b h2 ih =>
    intro k
    cases k with
    | zero => exact .cons hm hu hv (.cons h1 a b h2)
    | succ k => exact .cons h1 a b (ih k)
theorem Dues.sides {vs : List Value} {ds : List (Int × UInt64 × UInt64)} (h : Dues news vs ds) : Sides news vs (ds.map (·.1)) := by
  induction h with
  | nil => exact .nil
  | cons hm _ _ _ ih => exact .cons hm ih
theorem eq_due {A : Around} {s : Shared} {r r' : Addr} {i : Int} {x y : UInt64} {t u v t' u' v' : Tok} {n n' : Nat} (hb : NoneBooked s.heap) (hr : s.heap.get? r = some (lisO [.int i t, .float x u, .float y v] n)) (hr' : s.heap.get? r' = some (lisO [.int i t', .float x u', .float y v'] n'))
    (hu : u ≠ 0) (hv : v ≠ 0) (hu' : u' ≠ 0) (hv' : v' ≠ 0) (hx : Float64.isNaN x = false) (hy : Float64.isNaN y = false) (hA : A.units < cLine) : SeqAt.EqAt A s (.ref r) (.ref r') true := by
  by_cases e : r = r'
  · subst e; exact SeqAt.EqAt.same _
  · have l1 : s.heap.IsList r #[.int i t, .float x u, .float y v] := ⟨_, hr, rfl, n, rfl⟩
    have l2 : s.heap.IsList r' #[.int i t', .float x u', .float y v'] := ⟨_, hr', rfl, n', rfl⟩
    have := SeqAt.RcAt.lists (A := A) (e := fun _ => true) l1 l2 rfl hA (fun j h1 h2 => by
      match j, h1 with
      | 0, _ => have := SeqAt.EqAt.int_int (A := A.in1) (s := s) i t i t'; simpa using this
      | 1, _ => exact eq_float hu hu' hb hx
      | 2, _ => exact eq_float hv hv' hb hy)
    exact SeqAt.EqAt.of_refs e this
theorem ne_dues {A : Around} {a b : Addr} {vs us : List Value} {ds : List (Int × UInt64 × UInt64)} {n k : Nat} (hb : NoneBooked s.heap) (N : News h₀ L s.heap big) (ha : (a, lisO vs n) ∈ big) (hb' : (b, lisO us k) ∈ big) (hv : Dues big vs ds) (hw : Dues big us ds)
    (hnan : ∀ d ∈ ds, Float64.isNaN d.2.1 = false ∧ Float64.isNaN d.2.2 = false) (hA : A.units < cLine) (hA2 : A.in1.units < cLine) (h : Q (.bool false) s) :
    wpAny (model prog w) A (compareOp .NotEq (.ref a) (.ref b)) Q E s := by
  have hl : vs.length = us.length := by rw [hv.length, hw.length]
  have := SeqAt.RcNeAt.lists (A := A) (s := s) (e := fun _ => true) (list_at N ha) (list_at N hb') (by simp [hl]) hA (fun j h1 h2 => by
    have hj : j < ds.length := by rw [← hv.length]; simpa using h1
    obtain ⟨r, t, u, v, n', e1, e2, z1, z2⟩ := hv.get j hj
    obtain ⟨r', t', u', v', k', f1, f2, y1, y2⟩ := hw.get j hj
    have g1 : vs.toArray[j] = .ref r := by
      have h1' : j < vs.length := by simpa using h1
      rw [List.getElem?_eq_getElem h1'] at e1
      simpa using Option.some.inj e1
    have g2 : us.toArray[j] = .ref r' := by
      have h2' : j < us.length := by simpa using h2
      rw [List.getElem?_eq_getElem h2'] at f1
      simpa using Option.some.inj f1
    have hd := hnan (ds[j]?.getD (0, 0, 0)) (by simp [hj])
    rw [g1, g2]
    exact eq_due hb (N _ e2).1 (N _ f2).1 z1 z2 y1 y2 hd.1 hd.2 hA2)
  refine this prog w E Q ?_
  have e : (List.range vs.toArray.size).all (fun _ => true) = true := by simp
  rw [e]; exact h
end
end Mine
end
/-! part P1 -/
section
open PySem PySem.W PyProof.Rows
set_option autoImplicit false
namespace Mine
/-! what the laying loop keeps, in plain Lean -/
noncomputable abbrev Tri := Int × Int × Int
noncomputable def hueI (e : Tri) : Int := ((hueN e.1.toNat : Nat) : Int)
noncomputable def Ok3 (e : Tri) : Prop := 0 ≤ e.1 ∧ e.1 < 16 ∧ 0 ≤ e.2.1 ∧ e.2.1 < 64 ∧ 0 ≤ e.2.2 ∧ e.2.2 < 2
noncomputable def ins {α : Type} (K : List α) (p : Nat) (e : α) : List α := K.take p ++ e :: K.drop p
noncomputable def Ord3 (K : List Tri) : Prop := K.Pairwise fun a b => code3 a < code3 b
theorem hue_lt {a b : Tri} (ha : Ok3 a) (hb : Ok3 b) : hueI a < hueI b ↔ a.1 < b.1 := by
  unfold hueI hueN Ok3 at *
  have e1 := Int.toNat_of_nonneg ha.1
  have e2 := Int.toNat_of_nonneg hb.1
  constructor <;> intro h <;> (first | lia | omega)
theorem code_of_lt {a b : Tri} (ha : Ok3 a) (hb : Ok3 b) (h : a.1 < b.1) : code3 a < code3 b := by
  unfold Ok3 at ha hb; unfold code3; (first | lia | omega)
theorem code_inj {a b : Tri} (ha : Ok3 a) (hb : Ok3 b) (h : code3 a = code3 b) : a = b := by
  obtain ⟨a1, a2, a3⟩ := a
  obtain ⟨b1, b2, b3⟩ := b
  simp only [Ok3, code3] at ha hb h
  simp only [Prod.mk.injEq]; (first | lia | omega)
theorem mem_ins {α : Type} {K : List α} {p : Nat} {e x : α} : x ∈ ins K p e ↔ x = e ∨ x ∈ K := by
  unfold ins
  rw [List.mem_append, List.mem_cons]
  constructor
  · rintro (h | h | h)
    · exact .inr (List.mem_of_mem_take h)
    · exact .inl h
    · exact .inr (List.mem_of_mem_drop h)
  · rintro (h | h)
    · exact .inr (.inl h)
    · rw [← List.take_append_drop p K, List.mem_append] at h
      rcases h with h | h
      · exact .inl h
      · exact .inr (.inr h)
theorem ins_ord {K : List Tri} {p : Nat} {e : Tri} (hK : Ord3 K) (h1 : ∀ k ∈ K.take p, code3 k < code3 e) (h2 : ∀ k ∈ K.drop p, code3 e < code3 k) : Ord3 (ins K p e) := by
  unfold Ord3 ins at *
  rw [List.pairwise_append]
  refine ⟨hK.sublist (List.take_sublist ..), List.pairwise_cons.mpr ⟨h2, hK.sublist (List.drop_sublist ..)⟩, ?_⟩
  intro a ha b hb
  rcases List.mem_cons.mp hb with rfl | hb
  · exact h1 a ha
  · exact Int.lt_trans (h1 a ha) (h2 b hb)
theorem mem_take {α : Type} {K : List α} {p : Nat} {x : α} (h : x ∈ K.take p) : ∃ k : Nat, k < p ∧ K[k]? = some x := by
  obtain ⟨k, hk, e⟩ := List.mem_iff_getElem.mp h
  simp only [List.length_take] at hk
  exact ⟨k, by (first | lia | omega), by rw [List.getElem?_eq_getElem (by (first | lia | omega))]; simpa using e⟩
theorem mem_drop {α : Type} {K : List α} {p : Nat} {x : α} (h : x ∈ K.drop p) : ∃ k : Nat, p ≤ k ∧ k < K.length ∧ K[k]? = some x := by
  obtain ⟨k, hk, e⟩ := List.mem_iff_getElem.mp h
  simp only [List.length_drop] at hk
  exact ⟨p + k, by (first | lia | omega), by (first | lia | omega), by rw [List.getElem?_eq_getElem (by (first | lia | omega))]; simpa using e⟩
theorem ins_right {K : List Tri} {p : Nat} {e : Tri} (hK : Ord3 K) (ho : ∀ k ∈ K, Ok3 k) (he : Ok3 e) (hs : ∀ k ∈ K, k.1 = e.1 → code3 k < code3 e) (h : RightAt (K.map hueI) (hueI e) p) : Ord3 (ins K p e) := by
  refine ins_ord hK (fun k hk => ?_) (fun k hk => ?_)
  · obtain ⟨j, hj, e1⟩ := mem_take hk
    have h1 := h.2.1 j hj
    have hk' := List.mem_of_mem_take hk
    rw [List.getElem?_map, e1] at h1
    have h1' : hueI k ≤ hueI e := h1
    have : ¬ e.1 < k.1 := fun q => absurd ((hue_lt he (ho k hk')).mpr q) (by (first | lia | omega))
    by_cases q : k.1 = e.1
    · exact hs k hk' q
    · exact code_of_lt (ho k hk') he (by (first | lia | omega))
  · obtain ⟨j, hj, hj2, e1⟩ := mem_drop hk
    have h1 := h.2.2 j hj (by simpa using hj2)
    have hk' := List.mem_of_mem_drop hk
    rw [List.getElem?_map, e1] at h1
    exact code_of_lt he (ho k hk') ((hue_lt he (ho k hk')).mp h1)
theorem ins_left {K : List Tri} {p : Nat} {e : Tri} (hK : Ord3 K) (ho : ∀ k ∈ K, Ok3 k) (he : Ok3 e) (hs : ∀ k ∈ K, k.1 = e.1 → code3 e < code3 k) (h : LeftAt (K.map hueI) (hueI e) p) : Ord3 (ins K p e) := by
  refine ins_ord hK (fun k hk => ?_) (fun k hk => ?_)
  · obtain ⟨j, hj, e1⟩ := mem_take hk
    have h1 := h.2.1 j hj
    have hk' := List.mem_of_mem_take hk
    rw [List.getElem?_map, e1] at h1
    exact code_of_lt (ho k hk') he ((hue_lt (ho k hk') he).mp h1)
  · obtain ⟨j, hj, hj2, e1⟩ := mem_drop hk
    have h1 := h.2.2 j hj (by simpa using hj2)
    have hk' := List.mem_of_mem_drop hk
    rw [List.getElem?_map, e1] at h1
    have h1' : hueI e ≤ hueI k := h1
    have : ¬ k.1 < e.1 := fun q => absurd ((hue_lt (ho k hk') he).mpr q) (by (first | lia | omega))
    by_cases q : k.1 = e.1
    · exact hs k hk' q
    · exact code_of_lt he (ho k hk') (by (first | lia | omega))
theorem hues_sorted {K : List Tri} (hK : Ord3 K) (ho : ∀ k ∈ K, Ok3 k) : Sorted (K.map hueI) := by
  intro i j hij hj
  simp only [List.length_map] at hj
  have hi : i < K.length := by (first | lia | omega)
  rw [List.getElem?_map, List.getElem?_map, List.getElem?_eq_getElem hi, List.getElem?_eq_getElem hj]
  show hueI K[i] ≤ hueI K[j]
  by_cases e : i = j
  · subst e; exact Int.le_refl _
  · have h := List.pairwise_iff_getElem.mp hK i j hi hj (by (first | lia | omega))
    have hoi := ho K[i] (by simp)
    have hoj := ho K[j] (by simp)
    rcases Int.lt_or_le (hueI K[j]) (hueI K[i]) with q | q
    · have := code_of_lt hoj hoi ((hue_lt hoj hoi).mp q)
      (first | lia | omega)
    · exact q
noncomputable def spotsOf (ps : List (Nat × Nat)) : List Nat := ps.flatMap fun p => [p.1, p.2]
structure Abs (i : Nat) (free : List Nat) (ps : List (Nat × Nat)) (K : List Tri) : Prop where
  flen : free.length + 2 * i = 16
  plen : ps.length = i
  nodup : (free ++ spotsOf ps).Nodup
  lt : ∀ x ∈ free ++ spotsOf ps, x < 16
  ord : Ord3 K
  klen : K.length = 4 * i
  mem : ∀ e : Tri, e ∈ K ↔ ∃ t d : Nat, t < i ∧ d < 2 ∧ (e = (((ps[t]?.getD (0, 0)).1 : Int), (t : Int), (d : Int)) ∨ e = (((ps[t]?.getD (0, 0)).2 : Int), (t : Int), (d : Int)))
theorem Abs.first : Abs 0 (List.range 16) [] [] where
  flen := rfl
  plen := rfl
  nodup := by simpa [spotsOf] using List.nodup_range
  lt := fun x hx => by simpa [spotsOf] using hx
  ord := List.Pairwise.nil
  klen := rfl
  mem := fun e => ⟨fun h => (nomatch h), fun ⟨t, d, h, _⟩ => absurd h (by (first | lia | omega))⟩
theorem spots_mem {ps : List (Nat × Nat)} {t : Nat} (ht : t < ps.length) : (ps[t]?.getD (0, 0)).1 ∈ spotsOf ps ∧ (ps[t]?.getD (0, 0)).2 ∈ spotsOf ps := by
  rw [List.getElem?_eq_getElem ht, Option.getD_some]
  unfold spotsOf
  constructor <;> exact List.mem_flatMap.mpr ⟨ps[t], by simp, by simp⟩
theorem Abs.ok {i : Nat} {free : List Nat} {ps : List (Nat × Nat)} {K : List Tri} (h : Abs i free ps K) : ∀ k ∈ K, Ok3 k := by
  intro k hk
  obtain ⟨t, d, ht, hd, e⟩ := (h.mem k).mp hk
  have hi : i ≤ 8 := by have := h.flen; (first | lia | omega)
  have hm := spots_mem (ps := ps) (t := t) (by rw [h.plen]; exact ht)
  have h1 := h.lt _ (List.mem_append_right _ hm.1)
  have h2 := h.lt _ (List.mem_append_right _ hm.2)
  unfold Ok3
  rcases e with rfl | rfl
  · dsimp only; (first | lia | omega)
  · dsimp only; (first | lia | omega)
theorem Abs.spot {i : Nat} {free : List Nat} {ps : List (Nat × Nat)} {K : List Tri} (h : Abs i free ps K) {k : Tri} (hk : k ∈ K) : k.1.toNat ∈ spotsOf ps := by
  obtain ⟨t, d, ht, hd, e⟩ := (h.mem k).mp hk
  have hm := spots_mem (ps := ps) (t := t) (by rw [h.plen]; exact ht)
  rcases e with rfl | rfl
  · simpa using hm.1
  · simpa using hm.2
theorem erase_perm {l : List Nat} {j : Nat} (hj : j < l.length) : l.Perm (l[j] :: l.eraseIdx j) := by
  rw [List.eraseIdx_eq_take_drop_succ]
  have : l = l.take j ++ l[j] :: l.drop (j + 1) := by rw [← List.drop_eq_getElem_cons hj, List.take_append_drop]
  conv => lhs; rw [this]
  exact List.perm_middle
theorem Abs.next {i : Nat} {free : List Nat} {ps : List (Nat × Nat)} {K : List Tri} (h : Abs i free ps K) {one other j1 j2 p1 p2 p3 p4 : Nat} (h1 : free[j1]? = some one) (h2 : (free.eraseIdx j1)[j2]? = some other)
    {e1 e2 e3 e4 : Tri} (q1 : e1 = ((one : Int), (i : Int), 1)) (q2 : e2 = ((one : Int), (i : Int), 0)) (q3 : e3 = ((other : Int), (i : Int), 0)) (q4 : e4 = ((other : Int), (i : Int), 1))
    (r1 : RightAt (K.map hueI) (hueI e1) p1) (r2 : LeftAt ((ins K p1 e1).map hueI) (hueI e2) p2) (r3 : LeftAt ((ins (ins K p1 e1) p2 e2).map hueI) (hueI e3) p3) (r4 : RightAt ((ins (ins (ins K p1 e1) p2 e2) p3 e3).map hueI) (hueI e4) p4) :
    Abs (i + 1) ((free.eraseIdx j1).eraseIdx j2) (ps ++ [(one, other)]) (ins (ins (ins (ins K p1 e1) p2 e2) p3 e3) p4 e4) := by
  have hj1 : j1 < free.length := (List.getElem?_eq_some_iff.mp h1).1
  have hj2 : j2 < (free.eraseIdx j1).length := (List.getElem?_eq_some_iff.mp h2).1
  have g1 : free[j1] = one := (List.getElem?_eq_some_iff.mp h1).2
  have g2 : (free.eraseIdx j1)[j2] = other := (List.getElem?_eq_some_iff.mp h2).2
  have hl1 : (free.eraseIdx j1).length = free.length - 1 := List.length_eraseIdx_of_lt hj1
  have hl2 : ((free.eraseIdx j1).eraseIdx j2).length = (free.eraseIdx j1).length - 1 := List.length_eraseIdx_of_lt hj2
  have hfl := h.flen
  have pm : free.Perm (one :: other :: (free.eraseIdx j1).eraseIdx j2) := by
    have a := erase_perm hj1
    have b := erase_perm hj2
    rw [g1] at a; rw [g2] at b
    exact a.trans (b.cons one)
  have sp : spotsOf (ps ++ [(one, other)]) = spotsOf ps ++ [one, other] := by simp [spotsOf]
  have pm2 : (free ++ spotsOf ps).Perm ((free.eraseIdx j1).eraseIdx j2 ++ spotsOf (ps ++ [(one, other)])) := by
    rw [sp]
    refine (pm.append_right _).trans ?_
    rw [← List.append_assoc]
    exact (List.perm_append_comm (l₁ := [one, other]) (l₂ := (free.eraseIdx j1).eraseIdx j2 ++ spotsOf ps))
  have hnd := pm2.nodup_iff.mp h.nodup
  have hlt : ∀ x ∈ (free.eraseIdx j1).eraseIdx j2 ++ spotsOf (ps ++ [(one, other)]), x < 16 := fun x hx => h.lt x (pm2.mem_iff.mpr hx)
  have hnd2 := (pm.append_right (spotsOf ps)).nodup_iff.mp h.nodup
  rw [List.cons_append, List.cons_append, List.nodup_cons, List.nodup_cons] at hnd2
  obtain ⟨hn1, hn2, _⟩ := hnd2
  have one16 : one < 16 := h.lt one (List.mem_append_left _ (pm.mem_iff.mpr (by simp)))
  have oth16 : other < 16 := h.lt other (List.mem_append_left _ (pm.mem_iff.mpr (by simp)))
  have hne : one ≠ other := fun e => hn1 (by simp [e])
  have hnK1 : ∀ k ∈ K, k.1 ≠ (one : Int) := fun k hk e => hn1 (by
    have := h.spot hk
    rw [e, Int.toNat_natCast] at this
    simp [this])
  have hnK2 : ∀ k ∈ K, k.1 ≠ (other : Int) := fun k hk e => hn2 (by
    have := h.spot hk
    rw [e, Int.toNat_natCast] at this
    simp [this])
  have ok0 := h.ok
  have ok1 : Ok3 e1 := by subst q1; unfold Ok3; dsimp only; (first | lia | omega)
  have ok2 : Ok3 e2 := by subst q2; unfold Ok3; dsimp only; (first | lia | omega)
  have ok3 : Ok3 e3 := by subst q3; unfold Ok3; dsimp only; (first | lia | omega)
  have ok4 : Ok3 e4 := by subst q4; unfold Ok3; dsimp only; (first | lia | omega)
  have oki1 : ∀ k ∈ ins K p1 e1, Ok3 k := fun k hk => by
    rcases mem_ins.mp hk with rfl | hk
    · exact ok1
    · exact ok0 k hk
  have oki2 : ∀ k ∈ ins (ins K p1 e1) p2 e2, Ok3 k := fun k hk => by
    rcases mem_ins.mp hk with rfl | hk
    · exact ok2
    · exact oki1 k hk
  have oki3 : ∀ k ∈ ins (ins (ins K p1 e1) p2 e2) p3 e3, Ok3 k := fun k hk => by
    rcases mem_ins.mp hk with rfl | hk
    · exact ok3
    · exact oki2 k hk
  have s1 : Ord3 (ins K p1 e1) := ins_right h.ord ok0 ok1 (fun k hk e => absurd (by rw [e, q1]) (hnK1 k hk)) r1
  have s2 : Ord3 (ins (ins K p1 e1) p2 e2) := ins_left s1 oki1 ok2 (fun k hk e => by
    rcases mem_ins.mp hk with rfl | hk
    · rw [q1, q2]; unfold code3; dsimp only; (first | lia | omega)
    · exact absurd (by rw [e, q2]) (hnK1 k hk)) r2
  have s3 : Ord3 (ins (ins (ins K p1 e1) p2 e2) p3 e3) := ins_left s2 oki2 ok3 (fun k hk e => by
    rcases mem_ins.mp hk with rfl | hk
    · rw [q2, q3] at e; exact absurd e (by dsimp only; (first | lia | omega))
    · rcases mem_ins.mp hk with rfl | hk
      · rw [q1, q3] at e; exact absurd e (by dsimp only; (first | lia | omega))
      · exact absurd (by rw [e, q3]) (hnK2 k hk)) r3
  have s4 : Ord3 (ins (ins (ins (ins K p1 e1) p2 e2) p3 e3) p4 e4) := ins_right s3 oki3 ok4 (fun k hk e => by
    rcases mem_ins.mp hk with rfl | hk
    · rw [q3, q4]; unfold code3; dsimp only; (first | lia | omega)
    · rcases mem_ins.mp hk with rfl | hk
      · rw [q2, q4] at e; exact absurd e (by dsimp only; (first | lia | omega))
      · rcases mem_ins.mp hk with rfl | hk
        · rw [q1, q4] at e; exact absurd e (by dsimp only; (first | lia | omega))
        · exact absurd (by rw [e, q4]) (hnK2 k hk)) r4
  have li : ∀ (K : List Tri) (p : Nat) (e : Tri), (ins K p e).length = K.length + 1 := fun K p e => by
    unfold ins
    rw [List.length_append, List.length_cons, ← Nat.add_assoc, ← List.length_append, List.take_append_drop]
  refine ⟨by (first | lia | omega), by simp [h.plen], hnd, hlt, s4, by rw [li, li, li, li, h.klen]; (first | lia | omega), fun e => ?_⟩
  rw [mem_ins, mem_ins, mem_ins, mem_ins, h.mem]
  have hold : ∀ t, t < i → (ps ++ [(one, other)])[t]?.getD (0, 0) = ps[t]?.getD (0, 0) := fun t ht => by rw [List.getElem?_append_left (by rw [h.plen]; exact ht)]
  have hnew : (ps ++ [(one, other)])[i]?.getD (0, 0) = (one, other) := by rw [List.getElem?_append_right (by rw [h.plen]; exact Nat.le_refl _), h.plen]; simp
  subst q1 q2 q3 q4
  constructor
  · rintro (rfl | rfl | rfl | rfl | ⟨t, d, ht, hd, e⟩)
    · exact ⟨i, 1, by (first | lia | omega), by (first | lia | omega), .inr (by rw [hnew]; rfl)⟩
    · exact ⟨i, 0, by (first | lia | omega), by (first | lia | omega), .inr (by rw [hnew]; rfl)⟩
    · exact ⟨i, 0, by (first | lia | omega), by (first | lia | omega), .inl (by rw [hnew]; rfl)⟩
    · exact ⟨i, 1, by (first | lia | omega), by (first | lia | omega), .inl (by rw [hnew]; rfl)⟩
    · exact ⟨t, d, by (first | lia | omega), hd, by rw [hold t ht]; exact e⟩
  · rintro ⟨t, d, ht, hd, e⟩
    by_cases q : t < i
    · rw [hold t q] at e
      exact .inr (.inr (.inr (.inr ⟨t, d, q, hd, e⟩)))
    · have : t = i := by (first | lia | omega)
      subst this
      rw [hnew] at e
      have hd' : d = 0 ∨ d = 1 := by (first | lia | omega)
      rcases hd' with rfl | rfl
      · rcases e with e | e
        · exact .inr (.inr (.inl e))
        · exact .inr (.inl e)
      · rcases e with e | e
        · exact .inr (.inr (.inr (.inl e)))
        · exact .inl e
end Mine
end
/-! part N6 -/
section
set_option autoImplicit false
namespace Mine
/-! the masks' count, in plain Lean -/
theorem xor_and (a b : Nat) : a + b = (a ^^^ b) + 2 * (a &&& b) := by
  induction a using Nat.strongRecOn generalizing b with
  | ind a ih =>
    by_cases h0 : a = 0
    · subst h0; simp
    · have h := ih (a / 2) (by (first | lia | omega)) (b / 2)
      have x1 : (a ^^^ b) / 2 = a / 2 ^^^ b / 2 := Nat.xor_div_two
      have x2 : (a &&& b) / 2 = a / 2 &&& b / 2 := Nat.and_div_two
      have ha : a % 2 = 0 ∨ a % 2 = 1 := by (first | lia | omega)
      have hb : b % 2 = 0 ∨ b % 2 = 1 := by (first | lia | omega)
      have t3 := Nat.testBit_xor (x := a) (y := b) (i := 0)
      have t4 := Nat.testBit_and a b 0
      simp only [Nat.testBit_zero] at t3 t4
      have y3 : (a ^^^ b) % 2 = 0 ∨ (a ^^^ b) % 2 = 1 := by (first | lia | omega)
      have y4 : (a &&& b) % 2 = 0 ∨ (a &&& b) % 2 = 1 := by (first | lia | omega)
      rw [← x1, ← x2] at h
      rcases ha with ha | ha <;> rcases hb with hb | hb <;> rcases y3 with y3 | y3 <;> rcases y4 with y4 | y4 <;> simp [ha, hb, y3, y4] at t3 t4 <;> (first | lia | omega)
/-- the sum of the masks that b picks -/
noncomputable def mixX (M : Nat → Nat) : List Bool → List Nat → Nat
  | [], _ => 0
  | _, [] => 0
  | c :: b, t :: l => (if c = true then M t else 0) ^^^ mixX M b l
theorem mix_count (M : Nat → Nat) : ∀ (l : List Nat) (acc : List Nat) (v : Nat),
    (l.foldl (fun mixed t => mixed ++ mixed.map fun one => one ^^^ M t) acc).count v = ((bools l.length).map fun b => acc.count (v ^^^ mixX M b l)).sum
  | [], acc, v => by simp [bools, mixX]
  | t :: l, acc, v => by
    rw [List.foldl_cons, mix_count M l]
    have hc : ∀ u, (acc ++ acc.map fun one => one ^^^ M t).count u = acc.count u + acc.count (u ^^^ M t) := fun u => by
      rw [List.count_append]
      congr 1
      rw [List.count_eq_countP, List.countP_map, List.count_eq_countP]
      apply List.countP_congr
      intro x _
      simp only [Function.comp, beq_iff_eq]
      constructor
      · intro h; rw [← h, Nat.xor_assoc, Nat.xor_self, Nat.xor_zero]
      · intro h; rw [h, Nat.xor_assoc, Nat.xor_self, Nat.xor_zero]
    show _ = ((bools (l.length + 1)).map _).sum
    rw [bools, List.map_append, List.sum_append, List.map_map, List.map_map]
    have e1 : ∀ b, v ^^^ mixX M (false :: b) (t :: l) = v ^^^ mixX M b l := fun b => by simp [mixX]
    have e2 : ∀ b, v ^^^ mixX M (true :: b) (t :: l) = (v ^^^ mixX M b l) ^^^ M t := fun b => by
      simp only [mixX, if_true]
      rw [Nat.xor_comm (M t), ← Nat.xor_assoc]
    have : ∀ L : List (List Bool), (L.map fun b => (acc ++ acc.map fun one => one ^^^ M t).count (v ^^^ mixX M b l)).sum =
        (L.map ((fun b => acc.count (v ^^^ mixX M b (t :: l))) ∘ (false :: ·))).sum + (L.map ((fun b => acc.count (v ^^^ mixX M b (t :: l))) ∘ (true :: ·))).sum := by
      intro L
      induction L with
      | nil => rfl
      | cons b L ih =>
        simp only [List.map_cons, List.sum_cons, Function.comp, e1, e2, hc] at ih ⊢
        (first | lia | omega)
    exact this _
theorem mix_zero (M : Nat → Nat) (l : List Nat) : (l.foldl (fun mixed t => mixed ++ mixed.map fun one => one ^^^ M t) [0]).count 0 = ((bools l.length).filter fun b => mixX M b l == 0).length := by
  rw [mix_count]
  have e : ∀ b, ([0] : List Nat).count (0 ^^^ mixX M b l) = if (mixX M b l == 0) = true then 1 else 0 := fun b => by
    rw [Nat.zero_xor]
    by_cases h : mixX M b l = 0
    · rw [h]; rfl
    · rw [if_neg (by simpa using h)]
      simp [List.count_cons]
      exact fun q => h q.symm
  simp only [e]
  generalize bools l.length = L
  induction L with
  | nil => rfl
  | cons b L ih =>
    rw [List.map_cons, List.sum_cons, ih, List.filter_cons]
    split <;> simp <;> (first | lia | omega)
/-- bit by bit -/
noncomputable def xb (f : Nat → Bool) : List Bool → List Nat → Bool
  | [], _ => false
  | _, [] => false
  | c :: b, t :: l => (c && f t) ^^ xb f b l
theorem mix_bit (M : Nat → Nat) (i : Nat) : ∀ (b : List Bool) (l : List Nat), (mixX M b l).testBit i = xb (fun t => (M t).testBit i) b l
  | [], _ => by simp [mixX, xb]
  | _ :: _, [] => by simp [mixX, xb]
  | c :: b, t :: l => by
    rw [mixX, xb, Nat.testBit_xor, mix_bit M i b l]
    cases c <;> simp
end Mine
end
/-! part N7 -/
section
set_option autoImplicit false
namespace Mine
/-! even meets, summed tie by tie -/
theorem xf_congr {f g : Nat → Bool} : ∀ {l : List Nat}, (∀ j ∈ l, f j = g j) → xf f l = xf g l
  | [], _ => rfl
  | k :: t, h => by rw [xf, xf, h k (List.mem_cons_self ..), xf_congr fun j hj => h j (List.mem_cons_of_mem _ hj)]
theorem xf_xor (f g : Nat → Bool) : ∀ l : List Nat, xf (fun j => f j ^^ g j) l = (xf f l ^^ xf g l)
  | [] => rfl
  | k :: t => by
    rw [xf, xf, xf, xf_xor f g t]
    cases f k <;> cases g k <;> cases xf f t <;> cases xf g t <;> rfl
theorem xf_false : ∀ l : List Nat, xf (fun _ => false) l = false
  | [] => rfl
  | _ :: t => by rw [xf, xf_false t]; rfl
theorem xf_single (g : Nat → Bool) (k : Nat) : ∀ n : Nat, xf (fun j => decide (j = k) && g j) (List.range n) = (decide (k < n) && g k)
  | 0 => by simp [xf]
  | n + 1 => by
    rw [List.range_succ, xf_append, xf_single g k n]
    simp only [xf]
    by_cases h : n = k
    · subst h
      rw [decide_eq_false (Nat.lt_irrefl n), decide_eq_true rfl, decide_eq_true (Nat.lt_succ_self n)]
      cases g n <;> rfl
    · by_cases h2 : k < n
      · rw [decide_eq_true h2, decide_eq_true (show k < n + 1 by (first | lia | omega)), decide_eq_false h]
        cases g k <;> rfl
      · rw [decide_eq_false h2, decide_eq_false (show ¬ k < n + 1 by (first | lia | omega)), decide_eq_false h]
        cases g n <;> cases g k <;> rfl
theorem xf_prefix (g : Nat → Bool) {a : Nat} : ∀ {n : Nat}, a ≤ n → xf (fun j => decide (j < a) && g j) (List.range n) = xf g (List.range a)
  | 0, h => by
    have : a = 0 := by (first | lia | omega)
    subst this; rfl
  | n + 1, h => by
    by_cases e : a = n + 1
    · subst e
      refine xf_congr fun j hj => ?_
      rw [decide_eq_true (List.mem_range.mp hj), Bool.true_and]
    · rw [List.range_succ, xf_append, xf_prefix g (show a ≤ n by (first | lia | omega))]
      simp only [xf]
      rw [decide_eq_false (show ¬ n < a by (first | lia | omega))]
      cases xf g (List.range a) <;> rfl
noncomputable def Disc.btw (d : Disc) (k j : Nat) : Bool := decide (min k (d.mate k) < j) && decide (j < max k (d.mate k))
theorem Disc.even_xf (d : Disc) (S : Nat → Bool) {k : Nat} (hk : k < d.E) : d.even S k ↔ xf (fun j => d.btw k j && S (d.tieOf j)) (List.range d.E) = (d.turned (d.tieOf k) && S (d.tieOf k)) := by
  have hm := d.mate_lt k hk
  have hne := d.mate_ne k hk
  unfold Disc.even
  rw [d.pre_xf, d.pre_xf, ← xf_prefix _ (show k + 1 ≤ d.E by (first | lia | omega)), ← xf_prefix _ (show d.mate k ≤ d.E by (first | lia | omega)), ← xf_xor]
  have : xf (fun j => (decide (j < k + 1) && S (d.tieOf j)) ^^ (decide (j < d.mate k) && S (d.tieOf j))) (List.range d.E) = xf (fun j => d.btw k j && S (d.tieOf j)) (List.range d.E) := by
    by_cases h : k < d.mate k
    · refine xf_congr fun j _ => ?_
      unfold Disc.btw
      rw [Nat.min_eq_left (by (first | lia | omega)), Nat.max_eq_right (by (first | lia | omega))]
      by_cases h1 : j < k + 1
      · rw [decide_eq_true h1, decide_eq_true (show j < d.mate k by (first | lia | omega)), decide_eq_false (show ¬ k < j by (first | lia | omega))]
        cases S (d.tieOf j) <;> rfl
      · rw [decide_eq_false h1, decide_eq_true (show k < j by (first | lia | omega))]
        cases decide (j < d.mate k) <;> cases S (d.tieOf j) <;> rfl
    · have e : xf (fun j => (decide (j < k + 1) && S (d.tieOf j)) ^^ (decide (j < d.mate k) && S (d.tieOf j))) (List.range d.E) =
          xf (fun j => ((d.btw k j && S (d.tieOf j)) ^^ (decide (j = k) && S (d.tieOf j))) ^^ (decide (j = d.mate k) && S (d.tieOf j))) (List.range d.E) := by
        refine xf_congr fun j _ => ?_
        unfold Disc.btw
        rw [Nat.min_eq_right (by (first | lia | omega)), Nat.max_eq_left (by (first | lia | omega))]
        by_cases h1 : j < d.mate k
        · rw [decide_eq_true h1, decide_eq_true (show j < k + 1 by (first | lia | omega)), decide_eq_false (show ¬ d.mate k < j by (first | lia | omega)), decide_eq_false (show ¬ j = k by (first | lia | omega)), decide_eq_false (show ¬ j = d.mate k by (first | lia | omega))]
          cases S (d.tieOf j) <;> rfl
        · rw [decide_eq_false h1]
          by_cases h2 : j = d.mate k
          · rw [decide_eq_true h2, decide_eq_true (show j < k + 1 by (first | lia | omega)), decide_eq_false (show ¬ d.mate k < j by (first | lia | omega)), decide_eq_false (show ¬ j = k by (first | lia | omega))]
            cases S (d.tieOf j) <;> rfl
          · rw [decide_eq_false h2, decide_eq_true (show d.mate k < j by (first | lia | omega))]
            by_cases h3 : j = k
            · rw [decide_eq_true h3, decide_eq_true (show j < k + 1 by (first | lia | omega)), decide_eq_false (show ¬ j < k by (first | lia | omega))]
              cases S (d.tieOf j) <;> rfl
            · rw [decide_eq_false h3]
              by_cases h4 : j < k
              · rw [decide_eq_true h4, decide_eq_true (show j < k + 1 by (first | lia | omega))]
                cases S (d.tieOf j) <;> rfl
              · rw [decide_eq_false h4, decide_eq_false (show ¬ j < k + 1 by (first | lia | omega))]
                cases S (d.tieOf j) <;> rfl
      rw [e, xf_xor, xf_xor, xf_single, xf_single, decide_eq_true hk, decide_eq_true hm, d.tie_mate k hk]
      cases xf (fun j => d.btw k j && S (d.tieOf j)) (List.range d.E) <;> cases S (d.tieOf k) <;> rfl
  rw [this]
theorem swap_xf (bt : Nat → Bool) (S : Nat → Bool) (tie : Nat → Nat) (t : Nat) : ∀ l : List Nat, (∀ j ∈ l, tie j < t) →
    xf (fun j => bt j && S (tie j)) l = xf (fun i => S i && xf (fun j => bt j && decide (tie j = i)) l) (List.range t)
  | [], _ => by
    have : xf (fun i => S i && xf (fun j => bt j && decide (tie j = i)) []) (List.range t) = xf (fun _ => false) (List.range t) := xf_congr fun i _ => by simp [xf]
    rw [this, xf_false]; rfl
  | j :: l, h => by
    have e : xf (fun i => S i && xf (fun j => bt j && decide (tie j = i)) (j :: l)) (List.range t) =
        xf (fun i => (decide (i = tie j) && (S i && bt j)) ^^ (S i && xf (fun j => bt j && decide (tie j = i)) l)) (List.range t) := xf_congr fun i _ => by
      simp only [xf]
      by_cases q : tie j = i
      · rw [decide_eq_true q, decide_eq_true q.symm]
        cases S i <;> cases bt j <;> simp
      · rw [decide_eq_false q, decide_eq_false fun x => q x.symm]
        cases S i <;> cases bt j <;> simp
    rw [e, xf_xor, xf_single (fun i => S i && bt j), decide_eq_true (h j (List.mem_cons_self ..)), xf, swap_xf bt S tie t l fun x hx => h x (List.mem_cons_of_mem _ hx)]
    cases bt j <;> cases S (tie j) <;> rfl
theorem Disc.tie_xf (d : Disc) (bt : Nat → Bool) {e : Nat} (he : e < d.E) : xf (fun j => bt j && decide (d.tieOf j = d.tieOf e)) (List.range d.E) = (bt e ^^ bt (d.mate e)) := by
  have hm := d.mate_lt e he
  have hne := d.mate_ne e he
  have : xf (fun j => bt j && decide (d.tieOf j = d.tieOf e)) (List.range d.E) = xf (fun j => (decide (j = e) && bt j) ^^ (decide (j = d.mate e) && bt j)) (List.range d.E) := by
    refine xf_congr fun j hj => ?_
    have hj := List.mem_range.mp hj
    by_cases h1 : j = e
    · rw [decide_eq_true h1, decide_eq_false (show ¬ j = d.mate e by rw [h1]; exact fun q => hne q.symm), decide_eq_true (show d.tieOf j = d.tieOf e by rw [h1])]
      cases bt j <;> rfl
    · by_cases h2 : j = d.mate e
      · rw [decide_eq_true h2, decide_eq_false h1, decide_eq_true (show d.tieOf j = d.tieOf e by rw [h2, d.tie_mate e he])]
        cases bt j <;> rfl
      · rw [decide_eq_false h1, decide_eq_false h2, decide_eq_false (fun q => by rcases d.tie_inj j e hj he q with r | r; exact h1 r; exact h2 r)]
        cases bt j <;> rfl
  rw [this, xf_xor, xf_single, xf_single, decide_eq_true he, decide_eq_true hm]
  rfl
theorem xb_xf (f : Nat → Bool) : ∀ (b : List Bool) (l : List Nat), b.length = l.length → xb f b l = xf (fun i => b[i]?.getD false && f (l[i]?.getD 0)) (List.range l.length)
  | [], [], _ => rfl
  | c :: b, t :: l, h => by
    rw [xb, xb_xf f b l (by simpa using h), List.length_cons, List.range_succ_eq_map, xf]
    congr 1
    have : ∀ (g : Nat → Bool) (L : List Nat), xf g (L.map Nat.succ) = xf (fun i => g (i + 1)) L := fun g L => by
      induction L with
      | nil => rfl
      | cons x L ih => rw [List.map_cons, xf, xf, ih]
    rw [this]
    rfl
  | [], _ :: _, h => by cases h
  | _ :: _, [], h => by cases h
/-- the masks' zeros are the even choices -/
theorem Disc.zeros (d : Disc) (M : Nat → Nat) (real : List Nat) (ht : ∀ k, k < d.E → d.tieOf k < real.length) (e : Nat → Nat) (he : ∀ i, i < real.length → e i < d.E ∧ d.tieOf (e i) = i)
    (hM : ∀ i k, i < real.length → k < d.E → (M (real[i]?.getD 0)).testBit (real[d.tieOf k]?.getD 0) = ((d.btw k (e i) ^^ d.btw k (d.mate (e i))) ^^ (decide (i = d.tieOf k) && d.turned i)))
    (hM0 : ∀ i o, i < real.length → (M (real[i]?.getD 0)).testBit o = true → ∃ k, k < d.E ∧ o = real[d.tieOf k]?.getD 0) {b : List Bool} (hb : b.length = real.length) :
    (mixX M b real == 0) = true ↔ ∀ k, k < d.E → d.even (pick b) k := by
  have bit : ∀ k, k < d.E → ((mixX M b real).testBit (real[d.tieOf k]?.getD 0) = false ↔ d.even (pick b) k) := fun k hk => by
    rw [mix_bit, xb_xf _ _ _ hb, d.even_xf _ hk, swap_xf _ _ _ real.length _ fun j hj => ht j (List.mem_range.mp hj)]
    have e1 : xf (fun i => b[i]?.getD false && (M (real[i]?.getD 0)).testBit (real[d.tieOf k]?.getD 0)) (List.range real.length) =
        xf (fun i => (pick b i && xf (fun j => d.btw k j && decide (d.tieOf j = i)) (List.range d.E)) ^^ (decide (i = d.tieOf k) && (d.turned i && pick b i))) (List.range real.length) := xf_congr fun i hi => by
      have hi := List.mem_range.mp hi
      obtain ⟨h1, h2⟩ := he i hi
      have h3 := d.tie_xf (d.btw k) h1
      rw [h2] at h3
      rw [hM i k hi hk, h3]
      show (pick b i && _) = _
      cases pick b i <;> cases d.btw k (e i) <;> cases d.btw k (d.mate (e i)) <;> cases decide (i = d.tieOf k) <;> cases d.turned i <;> rfl
    rw [e1, xf_xor, xf_single, decide_eq_true (ht k hk)]
    cases xf (fun i => pick b i && xf (fun j => d.btw k j && decide (d.tieOf j = i)) (List.range d.E)) (List.range real.length) <;> cases d.turned (d.tieOf k) <;> cases pick b (d.tieOf k) <;> simp
  constructor
  · intro h k hk
    have : mixX M b real = 0 := by simpa using h
    exact (bit k hk).mp (by rw [this]; simp)
  · intro h
    have : mixX M b real = 0 := by
      apply Nat.eq_of_testBit_eq
      intro o
      rw [Nat.zero_testBit]
      cases q : (mixX M b real).testBit o with
      | false => rfl
      | true =>
        exfalso
        have q' := q
        rw [mix_bit, xb_xf _ _ _ hb] at q'
        obtain ⟨i, hi, hq⟩ : ∃ i, i < real.length ∧ (M (real[i]?.getD 0)).testBit o = true := by
          refine Classical.byContradiction fun hno => ?_
          have : xf (fun i => b[i]?.getD false && (M (real[i]?.getD 0)).testBit o) (List.range real.length) = xf (fun _ => false) (List.range real.length) := xf_congr fun i hi => by
            cases r : (M (real[i]?.getD 0)).testBit o with
            | false => simp
            | true => exact absurd ⟨i, List.mem_range.mp hi, r⟩ hno
          rw [this, xf_false] at q'
          cases q'
        obtain ⟨k, hk, rfl⟩ := hM0 i o hi hq
        have := (bit k hk).mpr (h k hk)
        rw [q] at this; cases this
    rw [this]; rfl
end Mine
end
/-! part N8 -/
section
set_option autoImplicit false
namespace Mine
/-! the disc of the real ties -/
noncomputable def sp (ps : List (Nat × Nat)) (t : Nat) (a : Bool) : Nat := if a = true then (ps[t]?.getD (0, 0)).2 else (ps[t]?.getD (0, 0)).1
theorem sp_mem {ps : List (Nat × Nat)} {t : Nat} (ht : t < ps.length) (a : Bool) : sp ps t a ∈ spotsOf ps := by
  obtain ⟨h1, h2⟩ := spots_mem ht
  cases a
  · exact h1
  · exact h2
theorem sp_inj : ∀ {ps : List (Nat × Nat)}, (spotsOf ps).Nodup → ∀ {t t' : Nat} {a b : Bool}, t < ps.length → t' < ps.length → sp ps t a = sp ps t' b → t = t' ∧ a = b
  | [], _, t, _, _, _, h, _, _ => absurd h (by simp)
  | p :: ps, hn, t, t', a, b, h, h', e => by
    have hn' : (p.1 :: p.2 :: spotsOf ps).Nodup := by simpa [spotsOf] using hn
    rw [List.nodup_cons, List.nodup_cons] at hn'
    obtain ⟨h1, h2, h3⟩ := hn'
    have s0 : ∀ c, sp (p :: ps) 0 c = if c = true then p.2 else p.1 := fun c => by simp [sp]
    have s1 : ∀ (x : Nat) c, sp (p :: ps) (x + 1) c = sp ps x c := fun x c => by simp [sp]
    cases t with
    | zero =>
      cases t' with
      | zero =>
        refine ⟨rfl, ?_⟩
        rw [s0, s0] at e
        cases a <;> cases b <;> simp at e ⊢
        · exact h1 (by rw [e]; simp)
        · exact h1 (by rw [← e]; simp)
      | succ x =>
        exfalso
        rw [s0, s1] at e
        have := sp_mem (ps := ps) (t := x) (by simpa using h') b
        rw [← e] at this
        cases a <;> simp at this
        · exact h1 (by simp [this])
        · exact h2 this
    | succ y =>
      cases t' with
      | zero =>
        exfalso
        rw [s0, s1] at e
        have := sp_mem (ps := ps) (t := y) (by simpa using h) a
        rw [e] at this
        cases b <;> simp at this
        · exact h1 (by simp [this])
        · exact h2 this
      | succ x =>
        rw [s1, s1] at e
        obtain ⟨r1, r2⟩ := sp_inj h3 (by simpa using h) (by simpa using h') e
        exact ⟨by (first | lia | omega), r2⟩
noncomputable def endsOf (ps : List (Nat × Nat)) (real : List Nat) : List (Nat × Nat) := (List.range 16).filterMap fun s => (real.find? fun t => sp ps t false == s || sp ps t true == s).map fun t => (s, t)
structure Ties (ps : List (Nat × Nat)) (real : List Nat) : Prop where
  nd : (spotsOf ps).Nodup
  lt : ∀ x ∈ spotsOf ps, x < 16
  rl : ∀ t ∈ real, t < ps.length
  rn : real.Nodup
section
variable {ps : List (Nat × Nat)} {real : List Nat}
theorem ends_mem (T : Ties ps real) {s t : Nat} : (s, t) ∈ endsOf ps real ↔ t ∈ real ∧ ∃ a, s = sp ps t a := by
  unfold endsOf
  rw [List.mem_filterMap]
  constructor
  · rintro ⟨x, _, hx⟩
    cases q : real.find? fun t => sp ps t false == x || sp ps t true == x with
    | none => rw [q] at hx; cases hx
    | some y =>
      rw [q] at hx
      cases hx
      refine ⟨List.mem_of_find?_eq_some q, ?_⟩
      have := List.find?_some q
      simp only [Bool.or_eq_true, beq_iff_eq] at this
      rcases this with h | h
      · exact ⟨false, h.symm⟩
      · exact ⟨true, h.symm⟩
  · rintro ⟨ht, a, rfl⟩
    have htl := T.rl t ht
    refine ⟨sp ps t a, List.mem_range.mpr (T.lt _ (sp_mem htl a)), ?_⟩
    cases q : real.find? fun t' => sp ps t' false == sp ps t a || sp ps t' true == sp ps t a with
    | none =>
      rw [List.find?_eq_none] at q
      exact absurd (q t ht) (by cases a <;> simp)
    | some y =>
      have h1 := List.find?_some q
      have h2 := T.rl y (List.mem_of_find?_eq_some q)
      simp only [Bool.or_eq_true, beq_iff_eq] at h1
      have : y = t := by
        rcases h1 with h | h
        · exact (sp_inj T.nd h2 htl h).1
        · exact (sp_inj T.nd h2 htl h).1
      rw [this]; rfl
theorem ends_sorted : (endsOf ps real).Pairwise fun a b => a.1 < b.1 := by
  unfold endsOf
  refine List.Pairwise.filterMap _ ?_ List.pairwise_lt_range
  intro a a' h b hb b' hb'
  cases q : real.find? fun t => sp ps t false == a || sp ps t true == a with
  | none => simp [q] at hb
  | some y =>
    cases q' : real.find? fun t => sp ps t false == a' || sp ps t true == a' with
    | none => simp [q'] at hb'
    | some y' =>
      simp [q] at hb; simp [q'] at hb'
      rw [← hb, ← hb']; exact h
/-- the place of an end -/
noncomputable def posOf (ps : List (Nat × Nat)) (real : List Nat) (t : Nat) (a : Bool) : Nat := (endsOf ps real).idxOf (sp ps t a, t)
noncomputable def sg (ps : List (Nat × Nat)) (real : List Nat) (k : Nat) : Nat := ((endsOf ps real)[k]?.getD (0, 0)).1
noncomputable def ti (ps : List (Nat × Nat)) (real : List Nat) (k : Nat) : Nat := ((endsOf ps real)[k]?.getD (0, 0)).2
noncomputable def ab (ps : List (Nat × Nat)) (real : List Nat) (k : Nat) : Bool := decide (sg ps real k = sp ps (ti ps real k) true)
theorem pos_at (T : Ties ps real) {t : Nat} (ht : t ∈ real) (a : Bool) : posOf ps real t a < (endsOf ps real).length ∧ sg ps real (posOf ps real t a) = sp ps t a ∧ ti ps real (posOf ps real t a) = t := by
  have hm : (sp ps t a, t) ∈ endsOf ps real := (ends_mem T).mpr ⟨ht, a, rfl⟩
  have hl : posOf ps real t a < (endsOf ps real).length := List.idxOf_lt_length_iff.mpr hm
  have he : (endsOf ps real)[posOf ps real t a]? = some (sp ps t a, t) := by
    rw [List.getElem?_eq_getElem hl]
    congr 1
    exact List.getElem_idxOf hl
  refine ⟨hl, ?_, ?_⟩
  · unfold sg; rw [he]; rfl
  · unfold ti; rw [he]; rfl
theorem sg_lt {j k : Nat} (hk : k < (endsOf ps real).length) (h : j < k) : sg ps real j < sg ps real k := by
  have := List.pairwise_iff_getElem.mp (ends_sorted (ps := ps) (real := real)) j k (by (first | lia | omega)) hk h
  unfold sg
  rw [List.getElem?_eq_getElem (by (first | lia | omega)), List.getElem?_eq_getElem hk]
  exact this
theorem sg_inj {j k : Nat} (hj : j < (endsOf ps real).length) (hk : k < (endsOf ps real).length) (e : sg ps real j = sg ps real k) : j = k := by
  rcases Nat.lt_trichotomy j k with h | h | h
  · have := sg_lt (ps := ps) (real := real) hk h; (first | lia | omega)
  · exact h
  · have := sg_lt (ps := ps) (real := real) hj h; (first | lia | omega)
theorem end_at (T : Ties ps real) {k : Nat} (hk : k < (endsOf ps real).length) : ti ps real k ∈ real ∧ sg ps real k = sp ps (ti ps real k) (ab ps real k) ∧ posOf ps real (ti ps real k) (ab ps real k) = k := by
  have hm : (sg ps real k, ti ps real k) ∈ endsOf ps real := by
    unfold sg ti
    rw [List.getElem?_eq_getElem hk]
    exact List.getElem_mem hk
  obtain ⟨ht, a, e⟩ := (ends_mem T).mp hm
  have hab : ab ps real k = a := by
    unfold ab
    cases a with
    | true => exact decide_eq_true e
    | false =>
      refine decide_eq_false fun q => ?_
      rw [e] at q
      have := (sp_inj T.nd (T.rl _ ht) (T.rl _ ht) q).2
      cases this
  rw [hab]
  refine ⟨ht, e, ?_⟩
  obtain ⟨p1, p2, p3⟩ := pos_at T ht a
  exact sg_inj p1 hk (by rw [p2, e])
noncomputable def discOf (ps : List (Nat × Nat)) (real : List Nat) (is : List Int) (T : Ties ps real) : Disc where
  E := (endsOf ps real).length
  tieOf k := real.idxOf (ti ps real k)
  mate k := posOf ps real (ti ps real k) (!ab ps real k)
  turned i := decide (256 ≤ is[real[i]?.getD 0]?.getD 0)
  mate_lt k hk := (pos_at T (end_at T hk).1 _).1
  mate_mate k hk := by
    obtain ⟨h1, h2, h3⟩ := end_at T hk
    obtain ⟨p1, p2, p3⟩ := pos_at T h1 (!ab ps real k)
    have hab : ab ps real (posOf ps real (ti ps real k) (!ab ps real k)) = !ab ps real k := by
      unfold ab at *
      rw [p2, p3]
      generalize decide (sg ps real k = sp ps (ti ps real k) true) = a at *
      cases a with
      | false => simp
      | true =>
        refine decide_eq_false fun q => ?_
        have := (sp_inj T.nd (T.rl _ h1) (T.rl _ h1) q).2
        cases this
    rw [p3, hab, Bool.not_not, h3]
  mate_ne k hk := by
    obtain ⟨h1, h2, h3⟩ := end_at T hk
    obtain ⟨p1, p2, p3⟩ := pos_at T h1 (!ab ps real k)
    intro e
    rw [e, h2] at p2
    have := (sp_inj T.nd (T.rl _ h1) (T.rl _ h1) p2).2
    cases h : ab ps real k <;> rw [h] at this <;> cases this
  tie_mate k hk := by
    obtain ⟨h1, h2, h3⟩ := end_at T hk
    obtain ⟨p1, p2, p3⟩ := pos_at T h1 (!ab ps real k)
    rw [p3]
  tie_inj j k hj hk e := by
    obtain ⟨a1, a2, a3⟩ := end_at T hj
    obtain ⟨b1, b2, b3⟩ := end_at T hk
    have l1 := List.idxOf_lt_length_iff.mpr a1
    have l2 := List.idxOf_lt_length_iff.mpr b1
    have g1 := List.getElem_idxOf l1
    have g2 := List.getElem_idxOf l2
    have ht : ti ps real j = ti ps real k := by
      rw [← g1, ← g2]
      congr 1
    by_cases q : ab ps real j = ab ps real k
    · left; rw [← a3, ← b3, ht, q]
    · right
      rw [← a3, ht]
      congr 1
      revert q; cases ab ps real j <;> cases ab ps real k <;> simp
end
end Mine
end
/-! part N9 -/
section
set_option autoImplicit false
namespace Mine
open PyProof.Rows
theorem ord_uniq : ∀ {l₁ l₂ : List Tri}, Ord3 l₁ → Ord3 l₂ → (∀ x, x ∈ l₁ ↔ x ∈ l₂) → l₁ = l₂
  | [], [], _, _, _ => rfl
  | [], y :: _, _, _, h => absurd ((h y).mpr (List.mem_cons_self ..)) (by simp)
  | x :: _, [], _, _, h => absurd ((h x).mp (List.mem_cons_self ..)) (by simp)
  | x :: l₁, y :: l₂, h1, h2, h => by
    obtain ⟨a1, a2⟩ := List.pairwise_cons.mp h1
    obtain ⟨b1, b2⟩ := List.pairwise_cons.mp h2
    have e : x = y := by
      rcases List.mem_cons.mp ((h x).mp (List.mem_cons_self ..)) with q | q
      · exact q
      · rcases List.mem_cons.mp ((h y).mpr (List.mem_cons_self ..)) with r | r
        · exact r.symm
        · have := a1 y r; have := b1 x q; (first | lia | omega)
    subst e
    congr 1
    refine ord_uniq a2 b2 fun z => ?_
    constructor
    · intro hz
      rcases List.mem_cons.mp ((h z).mp (List.mem_cons_of_mem _ hz)) with q | q
      · subst q; have := a1 z hz; (first | lia | omega)
      · exact q
    · intro hz
      rcases List.mem_cons.mp ((h z).mpr (List.mem_cons_of_mem _ hz)) with q | q
      · subst q; have := b1 z hz; (first | lia | omega)
      · exact q
noncomputable def two (e : Nat × Nat) : List Tri := [((e.1 : Int), (e.2 : Int), 0), ((e.1 : Int), (e.2 : Int), 1)]
noncomputable def krOf (l : List (Nat × Nat)) : List Tri := l.flatMap two
theorem kr_len (l : List (Nat × Nat)) : (krOf l).length = 2 * l.length := by
  induction l with
  | nil => rfl
  | cons e l ih => simp only [krOf, List.flatMap_cons, List.length_append, List.length_cons] at ih ⊢; rw [ih]; simp [two]; (first | lia | omega)
theorem kr_get : ∀ (l : List (Nat × Nat)) (k : Nat), k < l.length → (krOf l)[2 * k]? = some (((l[k]?.getD (0, 0)).1 : Int), ((l[k]?.getD (0, 0)).2 : Int), 0) ∧ (krOf l)[2 * k + 1]? = some (((l[k]?.getD (0, 0)).1 : Int), ((l[k]?.getD (0, 0)).2 : Int), 1)
  | e :: l, 0, _ => by simp [krOf, two]
  | e :: l, k + 1, h => by
    obtain ⟨h1, h2⟩ := kr_get l k (by simpa using h)
    have e1 : krOf (e :: l) = ((e.1 : Int), (e.2 : Int), 0) :: ((e.1 : Int), (e.2 : Int), 1) :: krOf l := rfl
    rw [e1, show 2 * (k + 1) = (2 * k) + 1 + 1 by (first | lia | omega), show 2 * k + 1 + 1 + 1 = (2 * k + 1) + 1 + 1 by (first | lia | omega)]
    simp only [List.getElem?_cons_succ]
    exact ⟨by simpa using h1, by simpa using h2⟩
theorem kr_ord {l : List (Nat × Nat)} (hs : l.Pairwise fun a b => a.1 < b.1) (hb : ∀ e ∈ l, e.2 < 64) : Ord3 (krOf l) := by
  induction l with
  | nil => exact List.Pairwise.nil
  | cons e l ih =>
    obtain ⟨h1, h2⟩ := List.pairwise_cons.mp hs
    have ih := ih h2 fun x hx => hb x (List.mem_cons_of_mem _ hx)
    have he := hb e (List.mem_cons_self ..)
    have hrest : ∀ z ∈ krOf l, (e.1 : Int) < z.1 ∧ 0 ≤ z.2.1 ∧ 0 ≤ z.2.2 := fun z hz => by
      obtain ⟨x, hx, hz⟩ := List.mem_flatMap.mp hz
      have := h1 x hx
      simp only [two, List.mem_cons, List.not_mem_nil, or_false] at hz
      rcases hz with rfl | rfl <;> dsimp only <;> (first | lia | omega)
    have e1 : krOf (e :: l) = ((e.1 : Int), (e.2 : Int), 0) :: ((e.1 : Int), (e.2 : Int), 1) :: krOf l := rfl
    unfold Ord3
    rw [e1, List.pairwise_cons, List.pairwise_cons]
    refine ⟨fun z hz => ?_, fun z hz => ?_, ih⟩
    · rcases List.mem_cons.mp hz with rfl | hz
      · unfold code3; dsimp only; (first | lia | omega)
      · have := hrest z hz; unfold code3; dsimp only; (first | lia | omega)
    · have := hrest z hz; unfold code3; dsimp only; (first | lia | omega)
theorem kr_mem {l : List (Nat × Nat)} {z : Tri} : z ∈ krOf l ↔ ∃ e ∈ l, ∃ d : Nat, d < 2 ∧ z = ((e.1 : Int), (e.2 : Int), (d : Int)) := by
  unfold krOf
  rw [List.mem_flatMap]
  constructor
  · rintro ⟨e, he, hz⟩
    simp only [two, List.mem_cons, List.not_mem_nil, or_false] at hz
    rcases hz with rfl | rfl
    · exact ⟨e, he, 0, by (first | lia | omega), rfl⟩
    · exact ⟨e, he, 1, by (first | lia | omega), rfl⟩
  · rintro ⟨e, he, d, hd, rfl⟩
    refine ⟨e, he, ?_⟩
    have : d = 0 ∨ d = 1 := by (first | lia | omega)
    rcases this with rfl | rfl <;> simp [two]
/-- what the walk along the rims is handed -/
noncomputable def hsOf (l : List (Nat × Nat)) : List Int := (krOf l).map hueI
noncomputable def msOf (l : List (Nat × Nat)) : List (Int × Int) := (krOf l).map fun e => (e.2.1, e.2.2)
theorem hs_len (l : List (Nat × Nat)) : (hsOf l).length = 2 * l.length := by rw [hsOf, List.length_map, kr_len]
theorem ms_len (l : List (Nat × Nat)) : (msOf l).length = 2 * l.length := by rw [msOf, List.length_map, kr_len]
theorem kr_at {l : List (Nat × Nat)} {p : Nat} (hp : p < 2 * l.length) : (krOf l)[p]? = some (((l[p / 2]?.getD (0, 0)).1 : Int), ((l[p / 2]?.getD (0, 0)).2 : Int), ((p % 2 : Nat) : Int)) := by
  obtain ⟨h1, h2⟩ := kr_get l (p / 2) (by (first | lia | omega))
  have : p % 2 = 0 ∨ p % 2 = 1 := by (first | lia | omega)
  rcases this with h | h
  · rw [h]
    have e : p = 2 * (p / 2) := by (first | lia | omega)
    conv => lhs; rw [e]
    exact h1
  · rw [h]
    have e : p = 2 * (p / 2) + 1 := by (first | lia | omega)
    conv => lhs; rw [e]
    exact h2
theorem hs_at {l : List (Nat × Nat)} {p : Nat} (hp : p < 2 * l.length) : (hsOf l)[p]?.getD 0 = ((hueN (l[p / 2]?.getD (0, 0)).1 : Nat) : Int) := by
  unfold hsOf
  rw [List.getElem?_map, kr_at hp]
  simp [hueI]
theorem ms_at {l : List (Nat × Nat)} {p : Nat} (hp : p < 2 * l.length) : (msOf l)[p]?.getD (0, 0) = (((l[p / 2]?.getD (0, 0)).2 : Int), ((p % 2 : Nat) : Int)) := by
  unfold msOf
  rw [List.getElem?_map, kr_at hp]
  rfl
theorem hueN_lt {a b : Nat} : hueN a < hueN b ↔ a < b := by unfold hueN; (first | lia | omega)
section
variable {ps : List (Nat × Nat)} {real : List Nat} {is : List Int}
theorem sg_mono {p q : Nat} (hq : q < 2 * (endsOf ps real).length) (h : p / 2 < q / 2) : (hsOf (endsOf ps real))[p]?.getD 0 < (hsOf (endsOf ps real))[q]?.getD 0 := by
  rw [hs_at (show p < 2 * (endsOf ps real).length by (first | lia | omega)), hs_at hq]
  have := sg_lt (ps := ps) (real := real) (show q / 2 < (endsOf ps real).length by (first | lia | omega)) h
  unfold sg at this
  have := hueN_lt.mpr this
  (first | lia | omega)
theorem sg_same {p q : Nat} (hp : p < 2 * (endsOf ps real).length) (hq : q < 2 * (endsOf ps real).length) (h : p / 2 = q / 2) : (hsOf (endsOf ps real))[p]?.getD 0 = (hsOf (endsOf ps real))[q]?.getD 0 := by
  rw [hs_at hp, hs_at hq, h]
theorem rims_A (T : Ties ps real) {p q : Nat} (hp : p < 2 * (endsOf ps real).length) (h1 : p % 2 = 1) (h : RightAt (hsOf (endsOf ps real)) ((hsOf (endsOf ps real))[p]?.getD 0) q) :
    Int.fmod (q : Int) ((2 * (endsOf ps real).length : Nat) : Int) = (((discOf ps real is T).disc p : Nat) : Int) := by
  have hq : q = p + 1 := by
    obtain ⟨a, b, c⟩ := h
    rw [hs_len] at a c
    have q1 : ¬ q ≤ p := fun q1 => by have := c p q1 hp; (first | lia | omega)
    have q2 : ¬ p + 1 < q := fun q2 => by
      have := b (p + 1) q2
      have := sg_mono (ps := ps) (real := real) (p := p) (q := p + 1) (by (first | lia | omega)) (by (first | lia | omega))
      (first | lia | omega)
    (first | lia | omega)
  show _ = ((if p % 2 = 1 then (p + 1) % (2 * (endsOf ps real).length) else _ : Nat) : Int)
  rw [if_pos h1, hq, Int.fmod_eq_emod_of_nonneg _ (by (first | lia | omega))]
  rfl
theorem rims_B (T : Ties ps real) {p q : Nat} (hp : p < 2 * (endsOf ps real).length) (h1 : ¬ p % 2 = 1) (h : LeftAt (hsOf (endsOf ps real)) ((hsOf (endsOf ps real))[p]?.getD 0) q) :
    Int.fmod ((q : Int) - 1) ((2 * (endsOf ps real).length : Nat) : Int) = (((discOf ps real is T).disc p : Nat) : Int) := by
  have hq : q = p := by
    obtain ⟨a, b, c⟩ := h
    rw [hs_len] at a c
    have q1 : ¬ p < q := fun q1 => by have := b p q1; (first | lia | omega)
    have q2 : ¬ q < p := fun q2 => by
      have := c (p - 1) (by (first | lia | omega)) (by (first | lia | omega))
      have := sg_mono (ps := ps) (real := real) (p := p - 1) (q := p) hp (by (first | lia | omega))
      (first | lia | omega)
    (first | lia | omega)
  show _ = ((if p % 2 = 1 then _ else (p + 2 * (endsOf ps real).length - 1) % (2 * (endsOf ps real).length) : Nat) : Int)
  rw [if_neg h1, hq, Int.fmod_eq_emod_of_nonneg _ (by (first | lia | omega))]
  generalize hn : 2 * (endsOf ps real).length = n at *
  have e : ((p + n - 1 : Nat) : Int) = ((p : Int) - 1) + n := by (first | lia | omega)
  rw [Int.natCast_emod, e, Int.add_emod_right]
theorem filter_one {n x : Nat} {f : Int → Bool} (hx : x < n) (h : ∀ a : Nat, a < n → (f (a : Int) = true ↔ a = x)) : ∃ r, (rangeI n).filter f = (x : Int) :: r := by
  have hm : (x : Int) ∈ (rangeI n).filter f := List.mem_filter.mpr ⟨mem_rangeI.mpr ⟨by (first | lia | omega), by (first | lia | omega)⟩, (h x hx).mpr rfl⟩
  cases q : (rangeI n).filter f with
  | nil => rw [q] at hm; cases hm
  | cons y r =>
    have hy : y ∈ (rangeI n).filter f := by rw [q]; exact List.mem_cons_self ..
    obtain ⟨h1, h2⟩ := List.mem_filter.mp hy
    obtain ⟨h3, h4⟩ := mem_rangeI.mp h1
    have : y = ((y.toNat : Nat) : Int) := by (first | lia | omega)
    rw [this] at h2
    have := (h y.toNat (by (first | lia | omega))).mp h2
    exact ⟨r, by rw [show (x : Int) = y by (first | lia | omega)]⟩
theorem rims_C (T : Ties ps real) (hil : is.length = ps.length) {p : Nat} (hp : p < 2 * (endsOf ps real).length) :
    0 ≤ ((msOf (endsOf ps real))[p]?.getD (0, 0)).1 ∧ ((msOf (endsOf ps real))[p]?.getD (0, 0)).1 < is.length ∧
      ∃ r, overF (hsOf (endsOf ps real)) is (msOf (endsOf ps real)) (2 * (endsOf ps real).length) ((msOf (endsOf ps real))[p]?.getD (0, 0)).1
        (if is[((msOf (endsOf ps real))[p]?.getD (0, 0)).1.toNat]?.getD 0 < 256 then 1 - ((msOf (endsOf ps real))[p]?.getD (0, 0)).2 else ((msOf (endsOf ps real))[p]?.getD (0, 0)).2) ((hsOf (endsOf ps real))[p]?.getD 0) = (((discOf ps real is T).over p : Nat) : Int) :: r := by
  have hk : p / 2 < (endsOf ps real).length := by (first | lia | omega)
  obtain ⟨g1, g2, g3⟩ := end_at T hk
  have hti : (endsOf ps real)[p / 2]?.getD (0, 0) = (sg ps real (p / 2), ti ps real (p / 2)) := rfl
  rw [ms_at hp, hti]
  dsimp only
  have hlt := T.rl _ g1
  refine ⟨by (first | lia | omega), by (first | lia | omega), ?_⟩
  rw [Int.toNat_natCast]
  have htu : (discOf ps real is T).turned ((discOf ps real is T).tieOf (p / 2)) = decide (256 ≤ is[ti ps real (p / 2)]?.getD 0) := by
    show decide (256 ≤ is[real[real.idxOf (ti ps real (p / 2))]?.getD 0]?.getD 0) = _
    have l1 := List.idxOf_lt_length_iff.mpr g1
    rw [List.getElem?_eq_getElem l1, List.getElem_idxOf l1, Option.getD_some]
  obtain ⟨m1, m2, m3⟩ := pos_at T g1 (!ab ps real (p / 2))
  have hov : (discOf ps real is T).over p = 2 * posOf ps real (ti ps real (p / 2)) (!ab ps real (p / 2)) + (if 256 ≤ is[ti ps real (p / 2)]?.getD 0 then p % 2 else 1 - p % 2) := by
    show 2 * posOf ps real (ti ps real (p / 2)) (!ab ps real (p / 2)) + (if (discOf ps real is T).turned ((discOf ps real is T).tieOf (p / 2)) = true then p % 2 else 1 - p % 2) = _
    rw [htu]
    by_cases q : 256 ≤ is[ti ps real (p / 2)]?.getD 0 <;> simp [q]
  rw [hov]
  have hpm : p % 2 = 0 ∨ p % 2 = 1 := by (first | lia | omega)
  unfold overF
  refine filter_one ?_ fun a ha => ?_
  · split <;> (first | lia | omega)
  · rw [Int.toNat_natCast, ms_at ha, hs_at ha, hs_at hp]
    rw [Bool.and_eq_true, decide_eq_true_eq, bne_iff_ne, Prod.mk.injEq]
    have ka : a / 2 < (endsOf ps real).length := by (first | lia | omega)
    obtain ⟨a1, a2, a3⟩ := end_at T ka
    have hta : (endsOf ps real)[a / 2]?.getD (0, 0) = (sg ps real (a / 2), ti ps real (a / 2)) := rfl
    rw [hta, hti]
    dsimp only
    constructor
    · rintro ⟨⟨c1, c2⟩, c3⟩
      have c1 : ti ps real (a / 2) = ti ps real (p / 2) := by (first | lia | omega)
      have hne : a / 2 ≠ p / 2 := fun e => c3 (by rw [e])
      have hab : ab ps real (a / 2) = !ab ps real (p / 2) := by
        by_cases q : ab ps real (a / 2) = ab ps real (p / 2)
        · exact absurd (by rw [← a3, ← g3, c1, q]) hne
        · revert q; cases ab ps real (a / 2) <;> cases ab ps real (p / 2) <;> simp
      have e2 : a / 2 = posOf ps real (ti ps real (p / 2)) (!ab ps real (p / 2)) := by rw [← a3, c1, hab]
      by_cases q : is[ti ps real (p / 2)]?.getD 0 < 256
      · rw [if_pos q] at c2
        rw [if_neg (by (first | lia | omega))]; (first | lia | omega)
      · rw [if_neg q] at c2
        rw [if_pos (by (first | lia | omega))]; (first | lia | omega)
    · intro e
      have e2 : a / 2 = posOf ps real (ti ps real (p / 2)) (!ab ps real (p / 2)) := by
        rw [e]; split <;> (first | lia | omega)
      have c1 : ti ps real (a / 2) = ti ps real (p / 2) := by rw [e2, m3]
      refine ⟨⟨by (first | lia | omega), ?_⟩, fun c3 => ?_⟩
      · by_cases q : is[ti ps real (p / 2)]?.getD 0 < 256
        · rw [if_pos q]
          rw [if_neg (by (first | lia | omega))] at e; (first | lia | omega)
        · rw [if_neg q]
          rw [if_pos (by (first | lia | omega))] at e; (first | lia | omega)
      · have c4 : hueN (sg ps real (a / 2)) = hueN (sg ps real (p / 2)) := by (first | lia | omega)
        have c5 : sg ps real (a / 2) = sg ps real (p / 2) := by unfold hueN at c4; (first | lia | omega)
        rw [e2, m2, g2] at c5
        have := (sp_inj T.nd hlt hlt c5).2
        cases h : ab ps real (p / 2) <;> rw [h] at this <;> cases this
end
end Mine
end
/-! part Q1 -/
section
open PySem PySem.W PyProof.Rows
set_option autoImplicit false
namespace Mine
noncomputable section
variable {prog : Program} {w : World} {A : Around} {s : Shared} {base h₀ : Heap} {outer : List Env} {env : Env} {L : Addr} {m : Str → Option Value} {news rest : List (Addr × Obj)} {Q : Value → Shared → Prop} {E : Value → Shared → Prop}
theorem toI_get {xs : List Nat} {j : Nat} (hj : j < xs.length) : (toI xs)[j]? = some (((xs[j]?.getD 0 : Nat)) : Int) := by simp [toI, hj]
theorem toI_eraseIdx : ∀ (xs : List Nat) (j : Nat), toI (xs.eraseIdx j) = (toI xs).eraseIdx j
  | [], _ => rfl
  | _ :: _, 0 => rfl
  | x :: xs, j + 1 => by
    have := toI_eraseIdx xs j
    simp only [toI] at this
    simp [toI, this]
theorem cut_at : ∀ {vs : List Value} {j : Nat} {y : Value}, vs[j]? = some y → kl_cut vs j = some (vs.take j, y, vs.drop (j + 1))
  | [], _, _, h => by simp at h
  | x :: r, 0, y, h => by cases h; rfl
  | x :: r, j + 1, y, h => by
    rw [kl_cut, cut_at (by simpa using h)]
    rfl
theorem ints_eraseIdx : ∀ {vs : List Value} {xs : List Int} (j : Nat), IntsAre vs xs → IntsAre (vs.eraseIdx j) (xs.eraseIdx j)
  | _, _, _, .nil => .nil
  | _, _, 0, .cons _ _ h => h
  | _, _, j + 1, .cons n t h => .cons n t (ints_eraseIdx j h)
theorem pop_at {a : Addr} {vs : List Value} {xs : List Nat} {n : Nat} {k : Int} {u : Tok} {news' : List (Addr × Obj)} (F : Fr h₀ L s.heap m) (N : News h₀ L s.heap news) (hv : IntsAre vs (toI xs)) (h0 : 0 ≤ k) (h1 : k < (xs.length : Int)) (hz : xs.length < 1000)
    (U : Upd a (lisO vs n) (lisO (vs.eraseIdx k.toNat) (n + 1)) news news')
    (h : ∀ y t h', xs[k.toNat]? = some y → IntsAre (vs.eraseIdx k.toNat) (toI (xs.eraseIdx k.toNat)) → Fr h₀ L h' m → News h₀ L h' news' → Q (.int (y : Nat) t) { s with heap := h' }) :
    wpAny (model prog w) A (call (.builtin "list.pop") [.ref a, .int k u]) Q E s := by
  have hl : vs.length = xs.length := by rw [hv.length, toI_length]
  have hj : k.toNat < xs.length := by (first | lia | omega)
  obtain ⟨t, ht⟩ := hv.get k.toNat _ (toI_get hj)
  have hj' : k.toNat < vs.length := by (first | lia | omega)
  refine kl_popAt (its := vs.toArray) (k := k.toNat) (p := vs.take k.toNat) (q := vs.drop (k.toNat + 1)) (y := .int ((xs[k.toNat]?.getD 0 : Nat) : Int) t) F N ?_ ?_ ?_ (by rw [← List.eraseIdx_eq_take_drop_succ]; exact U) (by show vs.length ≤ sizeLine; rw [show sizeLine = 16777216 from rfl]; (first | lia | omega)) fun h' F' N' => ?_
  · unfold Builtin.List.listFitsIndex
    simp; (first | lia | omega)
  · unfold seqIndex?
    have : ¬ k < 0 := by (first | lia | omega)
    simp [this]; (first | lia | omega)
  · exact cut_at ht
  · refine h _ t h' (by rw [List.getElem?_eq_getElem hj]; simp) ?_ F' N'
    rw [toI_eraseIdx]
    exact ints_eraseIdx _ hv
theorem append_upd {a : Addr} {vs : List Value} {n : Nat} {y : Value} {news' : List (Addr × Obj)} (F : Fr h₀ L s.heap m) (N : News h₀ L s.heap news) (hz : vs.length < 1000) (U : Upd a (lisO vs n) (lisO (vs ++ [y]) (n + 1)) news news')
    (h : ∀ h', Fr h₀ L h' m → News h₀ L h' news' → Q .none { s with heap := h' }) : wpAny (model prog w) A (call (.builtin "list.append") [.ref a, y]) Q E s := by
  obtain ⟨pre, post, rfl, rfl, ha, hb⟩ := U.split
  have z := N (a, lisO vs n) (List.mem_append.mpr (.inr (.head _)))
  refine append_at (hsz := by rw [List.size_toArray, show sizeLine = 16777216 from rfl]; (first | lia | omega)) z.1 fun h' hs hD => h h' (F.change hs z.2.1 z.2.2) fun p hp => ?_
  rw [List.push_toArray] at hD
  rcases List.mem_append.mp hp with hp | hp
  · exact ⟨hs.extBut _ _ (ha p hp) (N p (List.mem_append_left _ hp)).1, (N p (List.mem_append_left _ hp)).2⟩
  · rcases List.mem_cons.mp hp with rfl | hp
    · exact ⟨hD, z.2⟩
    · exact ⟨hs.extBut _ _ (hb p hp) (N p (List.mem_append_right _ (.tail _ hp))).1, (N p (List.mem_append_right _ (.tail _ hp))).2⟩
theorem told2 {a b c : Int} {spot turn number : Nat} {t1 t2 t3 : Tok} (ea : a = (spot : Int)) (eb : b = (turn : Int) - 2) (ec : c = (number : Int))
   (C : Cx w A 460 base env outer h₀ L) (F : Fr h₀ L s.heap m) (N : News h₀ L s.heap news)
   (hs : spot < 16) (ht : turn < 5) (hn : number < 16)
   (h : ∀ a t1 t2 t3 h' tk', t2 ≠ 0 → t3 ≠ 0 → (∀ p ∈ news, p.1 < a) → Fr h₀ L h' m → News h₀ L h' ((a, lisO [.int ((hueN spot : Nat) : Int) t1, .float (lightN number) t2, .float (shareN number) t3] 0) :: news) → Q (.ref a) { s with heap := h', toks := tk' }) :
   wpAny (model PySem.Challenge.rw_rs0100_01.prog w) A (call (.ref 106) [.int a t1, .int b t2, .int c t3]) Q E s := by
  subst ea eb ec
  refine told_spec C F N hs ht hn ?_
  intro a i x1 x2 t1 t2 t3 h' tk' e1 e2 e3 z2 z3 l1 F' N'
  subst e1 e2 e3
  exact h a t1 t2 t3 h' tk' z2 z3 l1 F' N'
noncomputable def castP (p : Nat × Nat) : Int × Int := ((p.1 : Int), (p.2 : Int))
noncomputable def symF (x : Int) : Int := ([255, 256, 1, 257, 0, 511, -1, 256] : List Int)[((x.fdiv 256).fmod 8).toNat]?.getD 0
noncomputable def numOf (sh : Int) (e : Tri) : Nat := (Int.fmod (2 * e.2.1 + e.2.2 + sh) 16).toNat
noncomputable def dueOf (sh : Int) (e : Tri) : Int × UInt64 × UInt64 := (hueI e, lightN (numOf sh e), shareN (numOf sh e))
structure LS where
  vF : List Value
  nF : Nat
  free : List Nat
  vP : List Value
  nP : Nat
  ps : List (Nat × Nat)
  vY : List Value
  nY : Nat
  is : List Int
  vL : List Value
  nL : Nat
  K : List Tri
  tups : List (Addr × Obj)
theorem fmod_bd {a b : Int} (hb : 0 < b) : 0 ≤ a.fmod b ∧ a.fmod b < b := by
  rw [Int.fmod_eq_emod_of_nonneg _ (Int.le_of_lt hb)]
  exact ⟨Int.emod_nonneg _ (by (first | lia | omega)), Int.emod_lt_of_pos _ hb⟩
/-- the lists, the cells and what is behind them -/
noncomputable abbrev Led0 (aY aP aF aN L : Addr) (oY oP oF oN c5 c4 c3 c2 c1 : Obj) (tl : List (Addr × Obj)) : List (Addr × Obj) :=
  (aY, oY) :: (aP, oP) :: (aF, oF) :: (aN, oN) :: (L + 1 + 1 + 1 + 1 + 1, c5) :: (L + 1 + 1 + 1 + 1, c4) :: (L + 1 + 1 + 1, c3) :: (L + 1 + 1, c2) :: (L + 1, c1) :: tl
theorem led0_ne {aL aY aP aF aN L : Addr} {oY oP oF oN c5 c4 c3 c2 c1 : Obj} {tl : List (Addr × Obj)} (m3 : aY < aL ∧ aP < aL ∧ aF < aL ∧ aN < aL ∧ L + 1 + 1 + 1 + 1 + 1 < aL ∧ L + 1 + 1 + 1 + 1 < aL ∧ L + 1 + 1 + 1 < aL ∧ L + 1 + 1 < aL ∧ L + 1 < aL) (ht : ∀ q ∈ tl, aL < q.1) :
    ∀ q ∈ Led0 aY aP aF aN L oY oP oF oN c5 c4 c3 c2 c1 tl, q.1 ≠ aL := by
  obtain ⟨g1, g2, g3, g4, g5, g6, g7, g8, g9⟩ := m3
  intro q hq
  simp only [Led0, List.mem_cons] at hq
  rcases hq with rfl | rfl | rfl | rfl | rfl | rfl | rfl | rfl | rfl | hq
  · exact Nat.ne_of_lt g1
  · exact Nat.ne_of_lt g2
  · exact Nat.ne_of_lt g3
  · exact Nat.ne_of_lt g4
  · exact Nat.ne_of_lt g5
  · exact Nat.ne_of_lt g6
  · exact Nat.ne_of_lt g7
  · exact Nat.ne_of_lt g8
  · exact Nat.ne_of_lt g9
  · exact Nat.ne_of_gt (ht q hq)
theorem sort1 {h : Heap} {x1 x2 x3 xL : Addr × Obj} {tl : List (Addr × Obj)} {aY aP aF aN L' : Addr} {oY oP oF oN c5 c4 c3 c2 c1 : Obj} (N : News h₀ L h (x1 :: x2 :: x3 :: xL :: Led0 aY aP aF aN L' oY oP oF oN c5 c4 c3 c2 c1 tl)) :
    News h₀ L h (xL :: Led0 aY aP aF aN L' oY oP oF oN c5 c4 c3 c2 c1 (x1 :: x3 :: tl)) := news_sub N fun p hp => by
  simp only [Led0, List.mem_cons] at hp ⊢
  rcases hp with h | h | h | h | h | h | h | h | h | h | h | h | h
  · exact .inr (.inr (.inr (.inl h)))
  · exact .inr (.inr (.inr (.inr (.inl h))))
  · exact .inr (.inr (.inr (.inr (.inr (.inl h)))))
  · exact .inr (.inr (.inr (.inr (.inr (.inr (.inl h))))))
  · exact .inr (.inr (.inr (.inr (.inr (.inr (.inr (.inl h)))))))
  · exact .inr (.inr (.inr (.inr (.inr (.inr (.inr (.inr (.inl h))))))))
  · exact .inr (.inr (.inr (.inr (.inr (.inr (.inr (.inr (.inr (.inl h)))))))))
  · exact .inr (.inr (.inr (.inr (.inr (.inr (.inr (.inr (.inr (.inr (.inl h))))))))))
  · exact .inr (.inr (.inr (.inr (.inr (.inr (.inr (.inr (.inr (.inr (.inr (.inl h)))))))))))
  · exact .inr (.inr (.inr (.inr (.inr (.inr (.inr (.inr (.inr (.inr (.inr (.inr (.inl h))))))))))))
  · exact .inl h
  · exact .inr (.inr (.inl h))
  · exact .inr (.inr (.inr (.inr (.inr (.inr (.inr (.inr (.inr (.inr (.inr (.inr (.inr h))))))))))))
theorem sort2 {h : Heap} {x1 xL : Addr × Obj} {tl : List (Addr × Obj)} {aY aP aF aN L' : Addr} {oY oP oF oN c5 c4 c3 c2 c1 : Obj} (N : News h₀ L h (x1 :: xL :: Led0 aY aP aF aN L' oY oP oF oN c5 c4 c3 c2 c1 tl)) :
    News h₀ L h (xL :: Led0 aY aP aF aN L' oY oP oF oN c5 c4 c3 c2 c1 (x1 :: tl)) := news_sub N fun p hp => by
  simp only [Led0, List.mem_cons] at hp ⊢
  rcases hp with h | h | h | h | h | h | h | h | h | h | h | h
  · exact .inr (.inl h)
  · exact .inr (.inr (.inl h))
  · exact .inr (.inr (.inr (.inl h)))
  · exact .inr (.inr (.inr (.inr (.inl h))))
  · exact .inr (.inr (.inr (.inr (.inr (.inl h)))))
  · exact .inr (.inr (.inr (.inr (.inr (.inr (.inl h))))))
  · exact .inr (.inr (.inr (.inr (.inr (.inr (.inr (.inl h)))))))
  · exact .inr (.inr (.inr (.inr (.inr (.inr (.inr (.inr (.inl h))))))))
  · exact .inr (.inr (.inr (.inr (.inr (.inr (.inr (.inr (.inr (.inl h)))))))))
  · exact .inr (.inr (.inr (.inr (.inr (.inr (.inr (.inr (.inr (.inr (.inl h))))))))))
  · exact .inl h
  · exact .inr (.inr (.inr (.inr (.inr (.inr (.inr (.inr (.inr (.inr (.inr h))))))))))
theorem led0_sub {aY aP aF aN L : Addr} {oY oP oF oN c5 c4 c3 c2 c1 : Obj} {tl : List (Addr × Obj)} : ∀ p ∈ tl, p ∈ Led0 aY aP aF aN L oY oP oF oN c5 c4 c3 c2 c1 tl := fun _ hp => .tail _ (.tail _ (.tail _ (.tail _ (.tail _ (.tail _ (.tail _ (.tail _ (.tail _ hp))))))))
theorem due_hues (sh : Int) (K : List Tri) : (K.map (dueOf sh)).map (·.1) = K.map hueI := by rw [List.map_map]; rfl
theorem dueOf_ins (sh : Int) (K : List Tri) (p : Nat) (e : Tri) : (ins K p e).map (dueOf sh) = (K.map (dueOf sh)).take p ++ dueOf sh e :: (K.map (dueOf sh)).drop p := by simp [ins, List.map_take, List.map_drop]
theorem num_lt (sh : Int) (e : Tri) : numOf sh e < 16 := by
  have := fmod_bd (a := 2 * e.2.1 + e.2.2 + sh) (b := 16) (by decide)
  unfold numOf; (first | lia | omega)
theorem num1 (sh s i : Int) : (2 * i + 1 + sh).fmod 16 = ((numOf sh (s, i, 1) : Nat) : Int) := by
  have := fmod_bd (a := 2 * i + 1 + sh) (b := 16) (by decide)
  unfold numOf; dsimp only; (first | lia | omega)
theorem num0 (sh s i : Int) : (2 * i + sh).fmod 16 = ((numOf sh (s, i, 0) : Nat) : Int) := by
  have := fmod_bd (a := 2 * i + sh) (b := 16) (by decide)
  unfold numOf; dsimp only; rw [Int.add_zero]; (first | lia | omega)
theorem Abs.pre {i : Nat} {free : List Nat} {ps : List (Nat × Nat)} {K : List Tri} (h : Abs i free ps K) {one other j1 j2 : Nat} (h1 : free[j1]? = some one) (h2 : (free.eraseIdx j1)[j2]? = some other) :
    one < 16 ∧ other < 16 ∧ i < 8 ∧ one ≠ other ∧ (∀ k ∈ K, k.1 ≠ (one : Int)) ∧ (∀ k ∈ K, k.1 ≠ (other : Int)) := by
  have hj1 : j1 < free.length := (List.getElem?_eq_some_iff.mp h1).1
  have hj2 : j2 < (free.eraseIdx j1).length := (List.getElem?_eq_some_iff.mp h2).1
  have g1 : free[j1] = one := (List.getElem?_eq_some_iff.mp h1).2
  have g2 : (free.eraseIdx j1)[j2] = other := (List.getElem?_eq_some_iff.mp h2).2
  have hfl := h.flen
  have pm : free.Perm (one :: other :: (free.eraseIdx j1).eraseIdx j2) := by
    have a := erase_perm hj1
    have b := erase_perm hj2
    rw [g1] at a; rw [g2] at b
    exact a.trans (b.cons one)
  have hnd2 := (pm.append_right (spotsOf ps)).nodup_iff.mp h.nodup
  rw [List.cons_append, List.cons_append, List.nodup_cons, List.nodup_cons] at hnd2
  obtain ⟨hn1, hn2, _⟩ := hnd2
  refine ⟨h.lt one (List.mem_append_left _ (pm.mem_iff.mpr (by simp))), h.lt other (List.mem_append_left _ (pm.mem_iff.mpr (by simp))), by (first | lia | omega), fun e => hn1 (by simp [e]), fun k hk e => hn1 ?_, fun k hk e => hn2 ?_⟩
  · have := h.spot hk
    rw [e, Int.toNat_natCast] at this
    simp [this]
  · have := h.spot hk
    rw [e, Int.toNat_natCast] at this
    simp [this]
section
variable {i : Nat} {free : List Nat} {ps : List (Nat × Nat)} {K : List Tri} {one other j1 j2 p1 p2 p3 : Nat}
theorem Abs.o1 (h : Abs i free ps K) (h1 : free[j1]? = some one) (h2 : (free.eraseIdx j1)[j2]? = some other) (r1 : RightAt (K.map hueI) (hueI ((one : Int), (i : Int), (1 : Int))) p1) :
    Ord3 (ins K p1 ((one : Int), (i : Int), (1 : Int))) ∧ ∀ k ∈ ins K p1 ((one : Int), (i : Int), (1 : Int)), Ok3 k := by
  obtain ⟨a1, a2, a3, a4, a5, a6⟩ := h.pre h1 h2
  have ok1 : Ok3 ((one : Int), (i : Int), (1 : Int)) := by unfold Ok3; dsimp only; (first | lia | omega)
  refine ⟨ins_right h.ord h.ok ok1 (fun k hk e => absurd e (a5 k hk)) r1, fun k hk => ?_⟩
  rcases mem_ins.mp hk with rfl | hk
  · exact ok1
  · exact h.ok k hk
theorem Abs.o2 (h : Abs i free ps K) (h1 : free[j1]? = some one) (h2 : (free.eraseIdx j1)[j2]? = some other) (r1 : RightAt (K.map hueI) (hueI ((one : Int), (i : Int), (1 : Int))) p1)
    (r2 : LeftAt ((ins K p1 ((one : Int), (i : Int), (1 : Int))).map hueI) (hueI ((one : Int), (i : Int), (0 : Int))) p2) :
    Ord3 (ins (ins K p1 ((one : Int), (i : Int), (1 : Int))) p2 ((one : Int), (i : Int), (0 : Int))) ∧ ∀ k ∈ ins (ins K p1 ((one : Int), (i : Int), (1 : Int))) p2 ((one : Int), (i : Int), (0 : Int)), Ok3 k := by
  obtain ⟨a1, a2, a3, a4, a5, a6⟩ := h.pre h1 h2
  obtain ⟨b1, b2⟩ := h.o1 h1 h2 r1
  have ok1 : Ok3 ((one : Int), (i : Int), (0 : Int)) := by unfold Ok3; dsimp only; (first | lia | omega)
  refine ⟨ins_left b1 b2 ok1 (fun k hk e => ?_) r2, fun k hk => ?_⟩
  · rcases mem_ins.mp hk with rfl | hk
    · unfold code3; dsimp only; (first | lia | omega)
    · exact absurd e (a5 k hk)
  · rcases mem_ins.mp hk with rfl | hk
    · exact ok1
    · exact b2 k hk
theorem Abs.o3 (h : Abs i free ps K) (h1 : free[j1]? = some one) (h2 : (free.eraseIdx j1)[j2]? = some other) (r1 : RightAt (K.map hueI) (hueI ((one : Int), (i : Int), (1 : Int))) p1)
    (r2 : LeftAt ((ins K p1 ((one : Int), (i : Int), (1 : Int))).map hueI) (hueI ((one : Int), (i : Int), (0 : Int))) p2)
    (r3 : LeftAt ((ins (ins K p1 ((one : Int), (i : Int), (1 : Int))) p2 ((one : Int), (i : Int), (0 : Int))).map hueI) (hueI ((other : Int), (i : Int), (0 : Int))) p3) :
    Ord3 (ins (ins (ins K p1 ((one : Int), (i : Int), (1 : Int))) p2 ((one : Int), (i : Int), (0 : Int))) p3 ((other : Int), (i : Int), (0 : Int))) ∧ ∀ k ∈ ins (ins (ins K p1 ((one : Int), (i : Int), (1 : Int))) p2 ((one : Int), (i : Int), (0 : Int))) p3 ((other : Int), (i : Int), (0 : Int)), Ok3 k := by
  obtain ⟨a1, a2, a3, a4, a5, a6⟩ := h.pre h1 h2
  obtain ⟨b1, b2⟩ := h.o2 h1 h2 r1 r2
  have ok1 : Ok3 ((other : Int), (i : Int), (0 : Int)) := by unfold Ok3; dsimp only; (first | lia | omega)
  refine ⟨ins_left b1 b2 ok1 (fun k hk e => ?_) r3, fun k hk => ?_⟩
  · rcases mem_ins.mp hk with rfl | hk
    · exact absurd e (by dsimp only; (first | lia | omega))
    · rcases mem_ins.mp hk with rfl | hk
      · exact absurd e (by dsimp only; (first | lia | omega))
      · exact absurd e (a6 k hk)
  · rcases mem_ins.mp hk with rfl | hk
    · exact ok1
    · exact b2 k hk
theorem ins_len (K : List Tri) (p : Nat) (e : Tri) : (ins K p e).length = K.length + 1 := by
  unfold ins
  rw [List.length_append, List.length_cons, ← Nat.add_assoc, ← List.length_append, List.take_append_drop]
end
end
end Mine
end
/-! part N10 -/
section
open PySem PySem.W PyProof.Rows
set_option autoImplicit false
namespace Mine
/-! the law's end, in plain Lean -/
theorem Disc.inv_disc (d : Disc) (hE : 0 < d.E) : Inv (2 * d.E) d.disc := by
  refine ⟨fun p hp => ?_, fun p hp => ?_, fun p hp => ?_⟩
  · unfold Disc.disc; split <;> exact Nat.mod_lt _ (by (first | lia | omega))
  · by_cases h : p % 2 = 1
    · by_cases h2 : p + 1 = 2 * d.E
      · have e : d.disc p = 0 := by unfold Disc.disc; rw [if_pos h, h2]; exact Nat.mod_self _
        rw [e]
        unfold Disc.disc
        rw [if_neg (by (first | lia | omega)), Nat.zero_add, Nat.mod_eq_of_lt (by (first | lia | omega))]; (first | lia | omega)
      · have e : d.disc p = p + 1 := by unfold Disc.disc; rw [if_pos h]; exact Nat.mod_eq_of_lt (by (first | lia | omega))
        rw [e]
        unfold Disc.disc
        rw [if_neg (by (first | lia | omega)), show p + 1 + 2 * d.E - 1 = p + 2 * d.E by (first | lia | omega), Nat.add_mod_right]
        exact Nat.mod_eq_of_lt hp
    · by_cases h2 : p = 0
      · subst h2
        have e : d.disc 0 = 2 * d.E - 1 := by unfold Disc.disc; rw [if_neg h, Nat.zero_add]; exact Nat.mod_eq_of_lt (by (first | lia | omega))
        rw [e]
        unfold Disc.disc
        rw [if_pos (by (first | lia | omega)), show 2 * d.E - 1 + 1 = 2 * d.E by (first | lia | omega)]; exact Nat.mod_self _
      · have e : d.disc p = p - 1 := by
          unfold Disc.disc
          rw [if_neg h, show p + 2 * d.E - 1 = (p - 1) + 2 * d.E by (first | lia | omega), Nat.add_mod_right]
          exact Nat.mod_eq_of_lt (by (first | lia | omega))
        rw [e]
        unfold Disc.disc
        rw [if_pos (by (first | lia | omega)), show p - 1 + 1 = p by (first | lia | omega)]
        exact Nat.mod_eq_of_lt hp
  · unfold Disc.disc
    split
    · by_cases h2 : p + 1 = 2 * d.E
      · rw [h2, Nat.mod_self]; (first | lia | omega)
      · rw [Nat.mod_eq_of_lt (by (first | lia | omega))]; (first | lia | omega)
    · by_cases h2 : p = 0
      · subst h2
        rw [Nat.zero_add, Nat.mod_eq_of_lt (by (first | lia | omega))]; (first | lia | omega)
      · rw [show p + 2 * d.E - 1 = (p - 1) + 2 * d.E by (first | lia | omega), Nat.add_mod_right, Nat.mod_eq_of_lt (by (first | lia | omega))]; (first | lia | omega)
theorem Disc.inv_over (d : Disc) : Inv (2 * d.E) d.over := by
  have key : ∀ p, p < 2 * d.E → d.over p / 2 = d.mate (p / 2) ∧ d.over p % 2 = if d.turned (d.tieOf (p / 2)) = true then p % 2 else 1 - p % 2 := fun p _ => by
    unfold Disc.over
    have h1 : p % 2 < 2 := Nat.mod_lt _ (by decide)
    split <;> (first | lia | omega)
  refine ⟨fun p hp => ?_, fun p hp => ?_, fun p hp => ?_⟩
  · have := d.mate_lt (p / 2) (by (first | lia | omega))
    have := (key p hp).1
    (first | lia | omega)
  · obtain ⟨h1, h2⟩ := key p hp
    have hm := d.mate_mate (p / 2) (by (first | lia | omega))
    have ht := d.tie_mate (p / 2) (by (first | lia | omega))
    show 2 * d.mate (d.over p / 2) + (if d.turned (d.tieOf (d.over p / 2)) = true then d.over p % 2 else 1 - d.over p % 2) = p
    rw [h1, h2, hm, ht]
    split <;> (first | lia | omega)
  · have h1 := (key p hp).1
    have := d.mate_ne (p / 2) (by (first | lia | omega))
    intro e
    rw [e] at h1
    exact this h1.symm
noncomputable def realN (is : List Int) : List Nat := (List.range is.length).filter fun t => (is[t]?.getD 0) != 0
theorem realF_eq (is : List Int) : realF is = toI (realN is) := by
  unfold realF realN
  rw [toI_range]
  unfold toI
  rw [List.filter_map]
  rfl
theorem realN_mem {is : List Int} {t : Nat} : t ∈ realN is ↔ t < is.length ∧ is[t]?.getD 0 ≠ 0 := by
  unfold realN
  rw [List.mem_filter, List.mem_range]
  simp
theorem realN_nodup (is : List Int) : (realN is).Nodup := by
  unfold realN
  rw [List.nodup_iff_pairwise_ne]
  exact (List.nodup_iff_pairwise_ne.mp List.nodup_range).filter _
theorem xor_nat (a b : Nat) : Builtin.bitXor (a : Int) (b : Int) = ((a ^^^ b : Nat) : Int) := by
  have h := xor_and a b
  rw [bitXor_and, bitAnd_pp (Int.natCast_nonneg a) (Int.natCast_nonneg b), Int.toNat_natCast, Int.toNat_natCast]
  generalize a ^^^ b = x at *
  generalize a &&& b = y at *
  (first | lia | omega)
noncomputable def condN (ps : List (Nat × Nat)) (is : List Int) (t o : Nat) : Bool := condF (ps.map castP) is (t : Int) (o : Int)
noncomputable def maskN (ps : List (Nat × Nat)) (is : List Int) (l : List Nat) (t : Nat) : Nat := l.foldl (fun mask o => if condN ps is t o = true then mask + 2 ^ o else mask) 0
theorem mask_nat (ps : List (Nat × Nat)) (is : List Int) (t : Nat) (l : List Nat) : maskF (ps.map castP) is (t : Int) (toI l) = ((maskN ps is l t : Nat) : Int) := by
  unfold maskF maskN toI
  have : ∀ (l : List Nat) (acc : Nat), (l.map fun i : Nat => (i : Int)).foldl (fun mask other => if condF (ps.map castP) is (t : Int) other = true then mask + 2 ^ other.toNat else mask) (acc : Int) =
      ((l.foldl (fun mask o => if condN ps is t o = true then mask + 2 ^ o else mask) acc : Nat) : Int) := by
    intro l
    induction l with
    | nil => intro acc; rfl
    | cons x l ih =>
      intro acc
      rw [List.map_cons, List.foldl_cons, List.foldl_cons]
      have e : (if condF (ps.map castP) is (t : Int) (x : Int) = true then (acc : Int) + 2 ^ (x : Int).toNat else (acc : Int)) = ((if condN ps is t x = true then acc + 2 ^ x else acc : Nat) : Int) := by
        show (if condN ps is t x = true then (acc : Int) + 2 ^ (x : Int).toNat else (acc : Int)) = _
        split
        · rw [Int.toNat_natCast, Int.natCast_add, Int.natCast_pow]; rfl
        · rfl
      rw [e]
      exact ih _
  exact this l 0
theorem mix_nat (ps : List (Nat × Nat)) (is : List Int) (l : List Nat) : mixF (ps.map castP) is (toI l) = toI (l.foldl (fun mixed t => mixed ++ mixed.map fun one => one ^^^ maskN ps is (realN is) t) [0]) := by
  unfold mixF
  have : ∀ (l : List Nat) (acc : List Nat), (toI l).foldl (fun mixed tie => mixed ++ mixed.map fun one => Builtin.bitXor one (maskF (ps.map castP) is tie (realF is))) (toI acc) =
      toI (l.foldl (fun mixed t => mixed ++ mixed.map fun one => one ^^^ maskN ps is (realN is) t) acc) := by
    intro l
    induction l with
    | nil => intro acc; rfl
    | cons x l ih =>
      intro acc
      show (toI l).foldl _ (toI acc ++ (toI acc).map fun one => Builtin.bitXor one (maskF (ps.map castP) is (x : Int) (realF is))) = _
      rw [List.foldl_cons, ← ih]
      congr 1
      unfold toI
      rw [List.map_append, List.map_map, List.map_map]
      congr 1
      refine List.map_congr_left fun a _ => ?_
      show Builtin.bitXor (a : Int) (maskF (ps.map castP) is (x : Int) (realF is)) = _
      rw [realF_eq, mask_nat, xor_nat]
      rfl
  exact this l [0]
theorem toI_count (l : List Nat) : (toI l).count 0 = l.count 0 := by
  unfold toI
  rw [List.count_eq_countP, List.countP_map, List.count_eq_countP]
  apply List.countP_congr
  intro x _
  simp [Function.comp]
theorem add_pow {a o : Nat} (h : a.testBit o = false) : a + 2 ^ o = a ^^^ 2 ^ o := by
  have h0 : a &&& 2 ^ o = 0 := by
    apply Nat.eq_of_testBit_eq
    intro i
    rw [Nat.testBit_and, Nat.testBit_two_pow, Nat.zero_testBit]
    by_cases e : o = i
    · subst e; rw [h]; rfl
    · rw [decide_eq_false e, Bool.and_false]
  have := xor_and a (2 ^ o)
  rw [h0] at this
  exact this
theorem mask_fold (f : Nat → Bool) (o : Nat) : ∀ (l : List Nat) (acc : Nat), l.Nodup → (∀ x ∈ l, acc.testBit x = false) → (l.foldl (fun mask o => if f o = true then mask + 2 ^ o else mask) acc).testBit o = (acc.testBit o || (decide (o ∈ l) && f o))
  | [], acc, _, _ => by simp
  | x :: l, acc, hn, ha => by
    obtain ⟨h1, h2⟩ := List.nodup_cons.mp hn
    rw [List.foldl_cons]
    have hx := ha x (List.mem_cons_self ..)
    by_cases q : f x = true
    · rw [if_pos q, add_pow hx, mask_fold f o l _ h2 (fun y hy => ?_)]
      · rw [Nat.testBit_xor, Nat.testBit_two_pow]
        by_cases e : x = o
        · subst e
          simp [hx, q]
        · have e' : ¬ o = x := fun r => e r.symm
          simp [e, e']
      · rw [Nat.testBit_xor, Nat.testBit_two_pow, ha y (List.mem_cons_of_mem _ hy)]
        have : ¬ x = y := fun r => h1 (r ▸ hy)
        simp [this]
    · rw [if_neg q, mask_fold f o l _ h2 (fun y hy => ha y (List.mem_cons_of_mem _ hy))]
      by_cases e : o = x
      · subst e
        simp [hx, q]
      · simp [e]
theorem mask_bit (ps : List (Nat × Nat)) (is : List Int) {l : List Nat} (hl : l.Nodup) (t o : Nat) : (maskN ps is l t).testBit o = (decide (o ∈ l) && condN ps is t o) := by
  unfold maskN
  rw [mask_fold _ _ _ _ hl fun x _ => Nat.zero_testBit x, Nat.zero_testBit, Bool.false_or]
noncomputable def bt (x y z : Nat) : Bool := decide (min x y < z) && decide (z < max x y)
theorem bt_comm (x y z : Nat) : bt x y z = bt y x z := by unfold bt; rw [Nat.min_comm, Nat.max_comm]
theorem bt_self (x y : Nat) : bt x y x = false ∧ bt x y y = false := by
  unfold bt
  constructor
  · rw [Bool.eq_false_iff]; simp; (first | lia | omega)
  · rw [Bool.eq_false_iff]; simp; (first | lia | omega)
theorem bt_xor {x y u : Nat} (h1 : x ≠ u) (h2 : y ≠ u) : bt x y u = (decide (x < u) ^^ decide (y < u)) := by
  unfold bt
  rcases Nat.lt_or_gt_of_ne h1 with a | a <;> rcases Nat.lt_or_gt_of_ne h2 with b | b
  · rw [decide_eq_true a, decide_eq_true b, decide_eq_false (show ¬ u < max x y from Nat.not_lt.mpr (Nat.max_le.mpr ⟨Nat.le_of_lt a, Nat.le_of_lt b⟩)), Bool.and_false]; rfl
  · rw [decide_eq_true a, decide_eq_false (Nat.lt_asymm b), decide_eq_true (Nat.lt_of_le_of_lt (Nat.min_le_left x y) a), decide_eq_true (Nat.lt_of_lt_of_le b (Nat.le_max_right x y))]; rfl
  · rw [decide_eq_false (Nat.lt_asymm a), decide_eq_true b, decide_eq_true (Nat.lt_of_le_of_lt (Nat.min_le_right x y) b), decide_eq_true (Nat.lt_of_lt_of_le a (Nat.le_max_left x y))]; rfl
  · rw [decide_eq_false (Nat.lt_asymm a), decide_eq_false (Nat.lt_asymm b), decide_eq_false (show ¬ min x y < u from Nat.not_lt.mpr (Nat.le_min.mpr ⟨Nat.le_of_lt a, Nat.le_of_lt b⟩)), Bool.false_and]; rfl
theorem dec_flip {a b : Nat} (h : a ≠ b) : decide (b < a) = !decide (a < b) := by
  rcases Nat.lt_or_gt_of_ne h with q | q
  · rw [decide_eq_true q, decide_eq_false (Nat.lt_asymm q)]; rfl
  · rw [decide_eq_false (Nat.lt_asymm q), decide_eq_true q]; rfl
theorem bt_cross {x y u v : Nat} (h1 : x ≠ u) (h2 : x ≠ v) (h3 : y ≠ u) (h4 : y ≠ v) : (bt x y u ^^ bt x y v) = (bt u v x ^^ bt u v y) := by
  rw [bt_xor h1 h3, bt_xor h2 h4, bt_xor h1.symm h2.symm, bt_xor h3.symm h4.symm, dec_flip h1, dec_flip h2, dec_flip h3, dec_flip h4]
  cases decide (x < u) <;> cases decide (x < v) <;> cases decide (y < u) <;> cases decide (y < v) <;> rfl
theorem filt_two {α : Type} (f : α → Bool) (a b : α) : (([a, b].filter f).length == 1) = (f a ^^ f b) := by
  simp only [List.filter_cons, List.filter_nil]
  cases f a <;> cases f b <;> rfl
theorem cast_at {ps : List (Nat × Nat)} {t : Nat} : (ps.map castP)[t]?.getD (0, 0) = castP (ps[t]?.getD (0, 0)) := by
  rw [List.getElem?_map]
  cases ps[t]? <;> rfl
theorem cond_eq (ps : List (Nat × Nat)) (is : List Int) (t o : Nat) : condN ps is t o = ((bt (sp ps t false) (sp ps t true) (sp ps o false) ^^ bt (sp ps t false) (sp ps t true) (sp ps o true)) || (decide (o = t) && decide (256 ≤ is[t]?.getD 0))) := by
  unfold condN condF
  have e0 : ∀ a b : Int × Int, (([b.1, b.2].filter fun sp => decide (min a.1 a.2 < sp) && decide (sp < max a.1 a.2)).length == 1) = ((decide (min a.1 a.2 < b.1) && decide (b.1 < max a.1 a.2)) ^^ (decide (min a.1 a.2 < b.2) && decide (b.2 < max a.1 a.2))) := fun a b => filt_two _ _ _
  rw [e0, Int.toNat_natCast, Int.toNat_natCast, cast_at, cast_at]
  have e1 : ∀ x y z : Nat, (decide (min (x : Int) (y : Int) < (z : Int)) && decide ((z : Int) < max (x : Int) (y : Int))) = bt x y z := fun x y z => by
    unfold bt
    rw [Bool.eq_iff_iff]
    simp only [Bool.and_eq_true, decide_eq_true_eq]
    (first | lia | omega)
  have e2 : (((o : Int) == (t : Int)) && decide (is[t]?.getD 0 > 255)) = (decide (o = t) && decide (256 ≤ is[t]?.getD 0)) := by
    rw [Bool.eq_iff_iff]
    simp only [Bool.and_eq_true, decide_eq_true_eq, beq_iff_eq]
    (first | lia | omega)
  rw [e2]
  congr 1
  rw [show (castP (ps[t]?.getD (0, 0))).1 = ((ps[t]?.getD (0, 0)).1 : Int) from rfl, show (castP (ps[t]?.getD (0, 0))).2 = ((ps[t]?.getD (0, 0)).2 : Int) from rfl, show (castP (ps[o]?.getD (0, 0))).1 = ((ps[o]?.getD (0, 0)).1 : Int) from rfl, show (castP (ps[o]?.getD (0, 0))).2 = ((ps[o]?.getD (0, 0)).2 : Int) from rfl, e1, e1]
  rfl
section
variable {ps : List (Nat × Nat)} {real : List Nat} {is : List Int}
theorem ab_pos (T : Ties ps real) {t : Nat} (ht : t ∈ real) (a : Bool) : ab ps real (posOf ps real t a) = a := by
  obtain ⟨p1, p2, p3⟩ := pos_at T ht a
  unfold ab
  rw [p2, p3]
  cases a with
  | true => simp
  | false =>
    refine decide_eq_false fun q => ?_
    have := (sp_inj T.nd (T.rl _ ht) (T.rl _ ht) q).2
    cases this
theorem btw_eq (T : Ties ps real) {k j : Nat} (hk : k < (endsOf ps real).length) (hj : j < (endsOf ps real).length) :
    (discOf ps real is T).btw k j = bt (sp ps (ti ps real k) false) (sp ps (ti ps real k) true) (sg ps real j) := by
  obtain ⟨g1, g2, g3⟩ := end_at T hk
  obtain ⟨m1, m2, m3⟩ := pos_at T g1 (!ab ps real k)
  have hlt : ∀ a b, a < (endsOf ps real).length → b < (endsOf ps real).length → (a < b ↔ sg ps real a < sg ps real b) := fun a b ha hb => by
    constructor
    · exact fun h => sg_lt hb h
    · intro h
      rcases Nat.lt_trichotomy a b with q | q | q
      · exact q
      · subst q; (first | lia | omega)
      · have := sg_lt (ps := ps) (real := real) ha q; (first | lia | omega)
  have e : (discOf ps real is T).btw k j = bt (sg ps real k) (sg ps real (posOf ps real (ti ps real k) (!ab ps real k))) (sg ps real j) := by
    show (decide (min k (posOf ps real (ti ps real k) (!ab ps real k)) < j) && decide (j < max k (posOf ps real (ti ps real k) (!ab ps real k)))) = _
    generalize posOf ps real (ti ps real k) (!ab ps real k) = k' at *
    have q1 := hlt k j hk hj
    have q2 := hlt k' j m1 hj
    have q3 := hlt j k hj hk
    have q4 := hlt j k' hj m1
    unfold bt
    rw [Bool.eq_iff_iff]
    simp only [Bool.and_eq_true, decide_eq_true_eq]
    (first | lia | omega)
  rw [e, m2, g2]
  cases ab ps real k with
  | false => rfl
  | true => exact bt_comm _ _ _
/-- masks and meets -/
theorem masks_ok (T : Ties ps real) {i k : Nat} (hi : i < real.length) (hk : k < (endsOf ps real).length) :
    (maskN ps is real (real[i]?.getD 0)).testBit (real[(discOf ps real is T).tieOf k]?.getD 0) =
      (((discOf ps real is T).btw k (posOf ps real (real[i]?.getD 0) false) ^^ (discOf ps real is T).btw k ((discOf ps real is T).mate (posOf ps real (real[i]?.getD 0) false))) ^^ (decide (i = (discOf ps real is T).tieOf k) && (discOf ps real is T).turned i)) := by
  obtain ⟨g1, g2, g3⟩ := end_at T hk
  have l1 := List.idxOf_lt_length_iff.mpr g1
  have ho : real[(discOf ps real is T).tieOf k]?.getD 0 = ti ps real k := by
    show real[real.idxOf (ti ps real k)]?.getD 0 = _
    rw [List.getElem?_eq_getElem l1, List.getElem_idxOf l1, Option.getD_some]
  have hti : real[i]?.getD 0 ∈ real := by simp [hi]
  have hdi : decide (i = (discOf ps real is T).tieOf k) = decide (ti ps real k = real[i]?.getD 0) := by
    rw [Bool.eq_iff_iff, decide_eq_true_eq, decide_eq_true_eq]
    show i = real.idxOf (ti ps real k) ↔ _
    constructor
    · intro e; rw [e, List.getElem?_eq_getElem l1, List.getElem_idxOf l1, Option.getD_some]
    · intro e
      rw [e, List.getElem?_eq_getElem hi, Option.getD_some]
      exact (T.rn.idxOf_getElem i hi).symm
  have htu : (discOf ps real is T).turned i = decide (256 ≤ is[real[i]?.getD 0]?.getD 0) := rfl
  obtain ⟨p1, p2, p3⟩ := pos_at T hti false
  have hm : (discOf ps real is T).mate (posOf ps real (real[i]?.getD 0) false) = posOf ps real (real[i]?.getD 0) true := by
    show posOf ps real (ti ps real (posOf ps real (real[i]?.getD 0) false)) (!ab ps real (posOf ps real (real[i]?.getD 0) false)) = _
    rw [p3, ab_pos T hti]; rfl
  obtain ⟨r1, r2, r3⟩ := pos_at T hti true
  rw [hm, ho, mask_bit ps is T.rn, decide_eq_true g1, Bool.true_and, btw_eq T hk p1, btw_eq T hk r1, p2, r2, hdi, htu, cond_eq]
  generalize real[i]?.getD 0 = t at *
  generalize ti ps real k = o at *
  by_cases e : o = t
  · subst e
    rw [(bt_self _ _).1, (bt_self _ _).2]
    generalize (decide (o = o) && decide (256 ≤ is[o]?.getD 0)) = z
    cases z <;> rfl
  · rw [decide_eq_false e, Bool.false_and, Bool.or_false, Bool.xor_false]
    have ne : ∀ a b, sp ps t a ≠ sp ps o b := fun a b q => e (sp_inj T.nd (T.rl _ hti) (T.rl _ g1) q).1.symm
    exact bt_cross (ne _ _) (ne _ _) (ne _ _) (ne _ _)
theorem masks_on (T : Ties ps real) {t o : Nat} (h : (maskN ps is real t).testBit o = true) : ∃ k, k < (endsOf ps real).length ∧ o = real[(discOf ps real is T).tieOf k]?.getD 0 := by
  rw [mask_bit ps is T.rn, Bool.and_eq_true, decide_eq_true_eq] at h
  obtain ⟨p1, p2, p3⟩ := pos_at T h.1 false
  refine ⟨_, p1, ?_⟩
  show o = real[real.idxOf (ti ps real (posOf ps real o false))]?.getD 0
  have l1 := List.idxOf_lt_length_iff.mpr h.1
  rw [p3, List.getElem?_eq_getElem l1, List.getElem_idxOf l1, Option.getD_some]
end
theorem ties_of {n : Nat} {free : List Nat} {ps : List (Nat × Nat)} {K : List Tri} {is : List Int} (h : Abs n free ps K) (hl : is.length = n) : Ties ps (realN is) where
  nd := (List.nodup_append.mp h.nodup).2.1
  lt := fun x hx => h.lt x (List.mem_append_right _ hx)
  rl := fun t ht => by rw [h.plen, ← hl]; exact (realN_mem.mp ht).1
  rn := realN_nodup is
theorem law_count {ps : List (Nat × Nat)} {is : List Int} (T : Ties ps (realN is)) (hE : 0 < (endsOf ps (realN is)).length) {R : Nat}
    (hR : RimsOk (2 * (endsOf ps (realN is)).length) (discOf ps (realN is) is T).disc (discOf ps (realN is) is T).over R) : 2 * (mixF (ps.map castP) is (realF is)).count 0 = 2 ^ R := by
  rw [realF_eq, mix_nat, toI_count, mix_zero]
  refine (discOf ps (realN is) is T).count hE (realN is).length (fun k hk => List.idxOf_lt_length_iff.mpr (end_at T hk).1) (fun i hi => ?_) _ (fun b hb => ?_) hR
  · have hti : (realN is)[i]?.getD 0 ∈ realN is := by simp [hi]
    obtain ⟨p1, p2, p3⟩ := pos_at T hti false
    refine ⟨_, p1, ?_⟩
    show (realN is).idxOf (ti ps (realN is) _) = i
    rw [p3, List.getElem?_eq_getElem hi, Option.getD_some]
    exact T.rn.idxOf_getElem i hi
  · refine (discOf ps (realN is) is T).zeros _ (realN is) (fun k hk => List.idxOf_lt_length_iff.mpr (end_at T hk).1) (fun i => posOf ps (realN is) ((realN is)[i]?.getD 0) false) (fun i hi => ?_) (fun i k hi hk => masks_ok T hi hk) (fun i o _ h => masks_on T h) hb
    have hti : (realN is)[i]?.getD 0 ∈ realN is := by simp [hi]
    obtain ⟨p1, p2, p3⟩ := pos_at T hti false
    refine ⟨p1, ?_⟩
    show (realN is).idxOf (ti ps (realN is) _) = i
    rw [p3, List.getElem?_eq_getElem hi, Option.getD_some]
    exact T.rn.idxOf_getElem i hi
noncomputable def isReal (is : List Int) (e : Tri) : Bool := (is[e.2.1.toNat]?.getD 0) != 0
theorem kr_eq {n : Nat} {free : List Nat} {ps : List (Nat × Nat)} {K : List Tri} {is : List Int} (h : Abs n free ps K) (hl : is.length = n) : K.filter (isReal is) = krOf (endsOf ps (realN is)) := by
  have T := ties_of h hl
  have hn : n ≤ 8 := by have := h.flen; (first | lia | omega)
  refine ord_uniq (List.Pairwise.filter _ h.ord) (kr_ord ends_sorted fun e he => ?_) fun z => ?_
  · have := T.rl _ ((ends_mem T).mp (show (e.1, e.2) ∈ _ from he)).1
    rw [h.plen] at this; (first | lia | omega)
  · rw [List.mem_filter, kr_mem, h.mem]
    constructor
    · rintro ⟨⟨t, d, ht, hd, e⟩, hr⟩
      have hreal : t ∈ realN is := realN_mem.mpr ⟨by (first | lia | omega), by
        unfold isReal at hr
        rcases e with rfl | rfl <;> simpa using hr⟩
      rcases e with rfl | rfl
      · exact ⟨(sp ps t false, t), (ends_mem T).mpr ⟨hreal, false, rfl⟩, d, hd, rfl⟩
      · exact ⟨(sp ps t true, t), (ends_mem T).mpr ⟨hreal, true, rfl⟩, d, hd, rfl⟩
    · rintro ⟨⟨s, t⟩, he, d, hd, rfl⟩
      obtain ⟨ht, a, rfl⟩ := (ends_mem T).mp he
      obtain ⟨h1, h2⟩ := realN_mem.mp ht
      refine ⟨⟨t, d, by (first | lia | omega), hd, ?_⟩, ?_⟩
      · cases a with
        | false => exact .inl rfl
        | true => exact .inr rfl
      · unfold isReal; simpa using h2
theorem pick_map {α : Type} (l : List α) (d : α) (g : α → Bool) : ((rangeI l.length).filter fun p => g (l[p.toNat]?.getD d)).map (fun p => l[p.toNat]?.getD d) = l.filter g := by
  have e : (rangeI l.length).map (fun p => l[p.toNat]?.getD d) = l := by
    unfold rangeI
    rw [List.map_map]
    apply List.ext_getElem
    · simp
    · intro i h1 h2
      simp [h2]
  conv => rhs; rw [← e]
  rw [List.filter_map]
  rfl
end Mine
end
/-! part Q2 -/
section
open PySem PySem.W PyProof.Rows
set_option autoImplicit false
namespace Mine
noncomputable section
variable {prog : Program} {w : World} {A : Around} {s : Shared} {base h₀ : Heap} {outer : List Env} {env : Env} {L : Addr} {m : Str → Option Value} {news rest big : List (Addr × Obj)} {Q : Value → Shared → Prop} {E : Value → Shared → Prop}
theorem trips_own {vs : List Value} {ts : List (Int × Int × Int)} (h : Trips news vs ts) : ∃ T, Trips T vs ts ∧ ∀ p ∈ T, p ∈ news ∧ ∃ l, p.2 = tupO l := by
  induction h with
  | nil => exact ⟨[], .nil, fun _ h => nomatch h⟩
  | @cons r i j k t u v vs ts hm _ ih =>
    obtain ⟨T, h1, h2⟩ := ih
    refine ⟨(r, tupO [.int i t, .int j u, .int k v]) :: T, Trips.cons (.head _) (h1.mono fun p hp => .tail _ hp), fun p hp => ?_⟩
    rcases List.mem_cons.mp hp with rfl | hp
    · exact ⟨hm, _, rfl⟩
    · exact h2 p hp
theorem tup_ne_cell {h : Heap} {c : Addr} {o : Obj} {v : Option Value} {p : Addr × Obj} {l : List Value} (N : News h₀ L h big) (hc : (c, o) ∈ big) (hd : o.data = .cell v) (hp : p ∈ big) (e : p.2 = tupO l) : p.1 ≠ c := fun q => by
  have h1 := (N _ hc).1
  have h2 := (N _ hp).1
  rw [q, show h.get? c = some o from h1] at h2
  rw [← Option.some.inj h2] at e
  rw [e] at hd
  cases hd
theorem mid_sub {x : Addr × Obj} {H T tl nw : List (Addr × Obj)} (hT : ∀ p ∈ T, p ∈ nw ++ (H ++ tl)) : ∀ p ∈ x :: (H ++ (T ++ tl)), p ∈ x :: (nw ++ (H ++ tl)) := fun p hp => by
  rcases List.mem_cons.mp hp with rfl | hp
  · exact .head _
  · refine .tail _ ?_
    rcases List.mem_append.mp hp with hp | hp
    · exact List.mem_append_right _ (List.mem_append_left _ hp)
    · rcases List.mem_append.mp hp with hp | hp
      · exact hT p hp
      · exact List.mem_append_right _ (List.mem_append_right _ hp)
theorem mid_sub2 {x y : Addr × Obj} {H T T3 tl : List (Addr × Obj)} (hT : ∀ p ∈ T, p ∈ y :: (H ++ (T3 ++ tl))) : ∀ p ∈ x :: (H ++ (T ++ tl)), p ∈ x :: y :: (H ++ (T3 ++ tl)) := fun p hp => by
  rcases List.mem_cons.mp hp with rfl | hp
  · exact .head _
  · refine .tail _ ?_
    rcases List.mem_append.mp hp with hp | hp
    · exact .tail _ (List.mem_append_left _ hp)
    · rcases List.mem_append.mp hp with hp | hp
      · exact hT p hp
      · exact .tail _ (List.mem_append_right _ (List.mem_append_right _ hp))
theorem flat_mem {ps : List (Int × Int)} {n : Nat} {e : Int × Int × Int} : e ∈ flat ps n ↔ ∃ t d : Nat, t < n ∧ d < 2 ∧ (e = ((ps[t]?.getD (0, 0)).1, (t : Int), (d : Int)) ∨ e = ((ps[t]?.getD (0, 0)).2, (t : Int), (d : Int))) := by
  unfold flat
  rw [List.mem_flatMap]
  constructor
  · rintro ⟨t, ht, he⟩
    unfold blk2 at he
    obtain ⟨k, hk, he⟩ := List.mem_flatMap.mp he
    unfold blk3 at he
    obtain ⟨d, hd, rfl⟩ := List.mem_map.mp he
    refine ⟨t, d, List.mem_range.mp ht, List.mem_range.mp hd, ?_⟩
    have hk := List.mem_range.mp hk
    have : k = 0 ∨ k = 1 := by (first | lia | omega)
    rcases this with rfl | rfl
    · exact .inl rfl
    · exact .inr rfl
  · rintro ⟨t, d, ht, hd, he⟩
    refine ⟨t, List.mem_range.mpr ht, ?_⟩
    unfold blk2
    rcases he with rfl | rfl
    · exact List.mem_flatMap.mpr ⟨0, by simp, List.mem_map.mpr ⟨d, List.mem_range.mpr hd, rfl⟩⟩
    · exact List.mem_flatMap.mpr ⟨1, by simp, List.mem_map.mpr ⟨d, List.mem_range.mpr hd, rfl⟩⟩
theorem full_inj {α : Type} {l₁ l₂ : List α} (hn : l₁.Nodup) (hs : ∀ x ∈ l₁, x ∈ l₂) (hl : l₂.length ≤ l₁.length) {d : α} {i j : Nat} (hi : i < l₂.length) (hj : j < l₂.length) (e : l₂[i]?.getD d = l₂[j]?.getD d) : i = j := by
  refine Classical.byContradiction fun hij => ?_
  have h1 : l₁.length ≤ (l₂.eraseIdx j).length := nodup_len hn fun x hx => by
    obtain ⟨k, hk, rfl⟩ := List.mem_iff_getElem.mp (hs x hx)
    rw [List.mem_eraseIdx_iff_getElem]
    by_cases q : k = j
    · subst q
      refine ⟨i, hi, hij, ?_⟩
      rw [List.getElem?_eq_getElem hi, List.getElem?_eq_getElem hj] at e
      simpa using e
    · exact ⟨k, hk, q, rfl⟩
  have h2 := List.length_eraseIdx_of_lt hj
  (first | lia | omega)
theorem ord_nodup {K : List Tri} (h : Ord3 K) : K.Nodup := by
  rw [List.nodup_iff_pairwise_ne]
  refine List.Pairwise.imp ?_ h
  intro a b hab e
  rw [e] at hab
  exact Int.lt_irrefl _ hab
theorem flat_K {n : Nat} {free : List Nat} {ps : List (Nat × Nat)} {K : List Tri} (h : Abs n free ps K) : (∀ t, t ∈ flat (ps.map castP) n ↔ t ∈ K) ∧ (∀ t ∈ flat (ps.map castP) n, Bd t) ∧
    (∀ i j : Nat, i < (flat (ps.map castP) n).length → j < (flat (ps.map castP) n).length → code3 ((flat (ps.map castP) n)[i]?.getD (0, 0, 0)) = code3 ((flat (ps.map castP) n)[j]?.getD (0, 0, 0)) → i = j) := by
  have hm : ∀ t, t ∈ flat (ps.map castP) n ↔ t ∈ K := fun e => by
    rw [flat_mem, h.mem]
    constructor
    · rintro ⟨t, d, ht, hd, he⟩
      rw [cast_at] at he
      exact ⟨t, d, ht, hd, he⟩
    · rintro ⟨t, d, ht, hd, he⟩
      refine ⟨t, d, ht, hd, ?_⟩
      rw [cast_at]
      exact he
  refine ⟨hm, fun t ht => ?_, fun i j hi hj e => ?_⟩
  · have := h.ok t ((hm t).mp ht)
    unfold Ok3 at this
    unfold Bd
    (first | lia | omega)
  · have g : ∀ k : Nat, k < (flat (ps.map castP) n).length → Ok3 ((flat (ps.map castP) n)[k]?.getD (0, 0, 0)) := fun k hk => by
      refine h.ok _ ((hm _).mp ?_)
      rw [List.getElem?_eq_getElem hk, Option.getD_some]
      exact List.getElem_mem hk
    refine full_inj (d := (0, 0, 0)) (ord_nodup h.ord) (fun x hx => (hm x).mpr hx) ?_ hi hj (code_inj (g i hi) (g j hj) e)
    rw [flat_len, h.klen]
    exact Nat.le_refl _
theorem tie_lt {n : Nat} {free : List Nat} {ps : List (Nat × Nat)} {K : List Tri} (h : Abs n free ps K) {e : Tri} (he : e ∈ K) : e.2.1 < (n : Int) := by
  obtain ⟨t, d, ht, hd, e1⟩ := (h.mem e).mp he
  rcases e1 with rfl | rfl
  · dsimp only; (first | lia | omega)
  · dsimp only; (first | lia | omega)
theorem rangeI_succ (i : Nat) : rangeI (i + 1) = rangeI i ++ [((i : Nat) : Int)] := by unfold rangeI; rw [List.range_succ, List.map_append]; rfl
theorem ints_pick {ys : List Value} {f : Int → Bool} {i : Nat} {t : Tok} (h : IntsAre ys ((rangeI i).filter f)) (e : f ((i : Nat) : Int) = true) : IntsAre (ys ++ [.int ((i : Nat) : Int) t]) ((rangeI (i + 1)).filter f) := by
  rw [rangeI_succ, List.filter_append, List.filter_cons, if_pos e]
  exact ksk_snoc h
theorem ints_leave {ys : List Value} {f : Int → Bool} {i : Nat} (h : IntsAre ys ((rangeI i).filter f)) (e : f ((i : Nat) : Int) = false) : IntsAre ys ((rangeI (i + 1)).filter f) := by
  rw [rangeI_succ, List.filter_append, List.filter_cons, e, if_neg Bool.false_ne_true, List.filter_nil, List.append_nil]
  exact h
theorem comp_done_ass2 {P : Shared → Prop} {D C : Addr} {m' : Str → Option Value} {Led : List (Addr × Obj)} {y : Str} {py : Pos} (hL : env.locals = L)
    (hy : env.kindOf y = some .local) (hp : (env.scope.kind == .class || (env.scope.kind == .module && env.locals != env.globals)) = false)
    (F : Fr h₀ L s.heap m) (hns : s.heap.Ns C m') (N : News h₀ L s.heap Led) (hoff : ∀ p ∈ Led, p.1 ≠ C) (hCL : C ≠ L) (hC0 : h₀.get? C = none)
    (hQ : ∀ h' tk, Fr h₀ L h' (fun z => if z = y then some (.ref D) else m z) → News h₀ L h' Led → P { s with heap := h', toks := tk }) :
    compPost (model prog w) A E (some (assign (.Name y py) env)) (fun _ s' => P s') (.ref D) C (.ok .next) s :=
  comp_done_assign (Q := fun _ s' => P s') hL hy hp F hns N hoff hCL hC0 hQ
theorem trip_at {value slice : PySem.Expr} {a : Addr} {vs : List Value} {ts : List (Int × Int × Int)} {n : Nat} {k : Int} {u : Tok} (N : News h₀ L s.heap big) (hm : (a, lisO vs n) ∈ big) (hv : Trips news vs ts)
    (h0 : 0 ≤ k) (h1 : k < ts.length) (hl : ts.length < 1000) (h : ∀ r t u v, (r, tupO [.int (ts[k.toNat]?.getD (0, 0, 0)).1 t, .int (ts[k.toNat]?.getD (0, 0, 0)).2.1 u, .int (ts[k.toNat]?.getD (0, 0, 0)).2.2 v]) ∈ news → Q (.ref r) s)
    (hs : subscripted slice false (.ref a) (.int k u) = operate [.ref a, .int k u] (getItem (.ref a) (.int k u)) := by with_unfolding_all rfl) (hg : ∀ r, letTemporaryGo value (.ref a) r = pure () := by intro _; with_unfolding_all rfl) :
    wpAny (model prog w) A (subscriptTail value slice (.ref a) (.int k u)) Q E s := by
  obtain ⟨r, t, u, v, h2, h3⟩ := hv.get k.toNat (by (first | lia | omega))
  exact item_at N hm h0 (Int.lt_trans h1 (by (first | lia | omega))) h2 (h r t u v h3) hs hg
theorem due_at {value slice : PySem.Expr} {a : Addr} {vs : List Value} {ds : List (Int × UInt64 × UInt64)} {n : Nat} {k : Int} {u : Tok} (N : News h₀ L s.heap big) (hm : (a, lisO vs n) ∈ big) (hv : Dues news vs ds)
    (h0 : 0 ≤ k) (h1 : k < ds.length) (hl : ds.length < 1000) (h : ∀ r t its n, (r, lisO (.int (ds[k.toNat]?.getD (0, 0, 0)).1 t :: its) n) ∈ news → Q (.ref r) s)
    (hs : subscripted slice false (.ref a) (.int k u) = operate [.ref a, .int k u] (getItem (.ref a) (.int k u)) := by with_unfolding_all rfl) (hg : ∀ r, letTemporaryGo value (.ref a) r = pure () := by intro _; with_unfolding_all rfl) :
    wpAny (model prog w) A (subscriptTail value slice (.ref a) (.int k u)) Q E s := by
  obtain ⟨r, t, u, v, n', h2, h3, _⟩ := hv.get k.toNat (by (first | lia | omega))
  exact item_at N hm h0 (Int.lt_trans h1 (by (first | lia | omega))) h2 (h r t _ n' h3) hs hg
theorem due2 {a b : Int} {spot number : Nat} {t1 t2 : Tok} (ea : a = (spot : Int)) (eb : b = (number : Int))
   (C : Cx w A 470 base env outer h₀ L) (F : Fr h₀ L s.heap m) (N : News h₀ L s.heap news)
   (hs : spot < 16) (hn : number < 16)
   (h : ∀ a t1 t2 t3 h' tk', t2 ≠ 0 → t3 ≠ 0 → (∀ p ∈ news, p.1 < a) → Fr h₀ L h' m → News h₀ L h' ((a, lisO [.int ((hueN spot : Nat) : Int) t1, .float (lightN number) t2, .float (shareN number) t3] 0) :: news) → Q (.ref a) { s with heap := h', toks := tk' }) :
   wpAny (model PySem.Challenge.rw_rs0100_01.prog w) A (call (.ref 99) [.int a t1, .int b t2]) Q E s := by
  subst ea eb
  refine due_spec C F N hs hn ?_
  intro a i x1 x2 t1 t2 t3 h' tk' e1 e2 e3 z2 z3 l1 F' N'
  subst e1 e2 e3
  exact h a t1 t2 t3 h' tk' z2 z3 l1 F' N'
theorem nan_no {n : Nat} (h : n < 16) : Float64.isNaN (lightN n) = false ∧ Float64.isNaN (shareN n) = false := by
  have : ∀ n, n < 16 → Float64.isNaN (lightN n) = false ∧ Float64.isNaN (shareN n) = false := by decide +kernel
  exact this n h
theorem dues_nan (sh : Int) (K : List Tri) : ∀ d ∈ K.map (dueOf sh), Float64.isNaN d.2.1 = false ∧ Float64.isNaN d.2.2 = false := fun d hd => by
  obtain ⟨e, _, rfl⟩ := List.mem_map.mp hd
  exact nan_no (num_lt sh e)
theorem news_tup {h : Heap} {r : Addr} {x y z x' y' z' : Value} (N : News h₀ L h big) (h1 : (r, tupO [x, y, z]) ∈ big) (h2 : (r, tupO [x', y', z']) ∈ big) : x = x' ∧ y = y' ∧ z = z' := by
  have e1 := (N _ h1).1
  have e2 := (N _ h2).1
  rw [show h.get? r = some (tupO [x, y, z]) from e1] at e2
  have e3 := Option.some.inj e2
  simpa [tupO] using e3
/-- the arms of the nested comprehension of sides, from three facts on its parts -/
theorem new_tup3 {x y z : Value} (h : ∀ h' a, Kept s.heap h' → h'.get? a = some (tupO [x, y, z]) → s.heap.get? a = none → Q (.ref a) { s with heap := h' }) : wpAny (model prog w) A (newTuple [x, y, z]) Q E s := by
  refine wpAny_newTuple (h _ _ (kept_push _ _) (Heap.get?_push_size _ rfl) ?_) (by show 3 ≤ 16777216; decide)
  cases q : s.heap.get? s.heap.objs.size with
  | none => rfl
  | some o => exact absurd (Heap.lt_size q) (Nat.lt_irrefl _)
end
end Mine
end
/-! part Q3 -/
section
open PySem PySem.W PyProof.Rows
set_option autoImplicit false
namespace Mine
noncomputable section
variable {w : World} {A : Around} {s : Shared} {base h₀ : Heap} {outer : List Env} {env : Env} {L : Addr} {m : Str → Option Value} {news rest big : List (Addr × Obj)} {Q : Value → Shared → Prop} {E : Value → Shared → Prop}
set_option maxRecDepth 100000 in
set_option maxHeartbeats 4000000 in
theorem eof_spec {i : Int} {t : Tok}
   (C : Cx w A 480 base env outer h₀ L) (F : Fr h₀ L s.heap m) (N : News h₀ L s.heap news)
   (h : ∀ h' tk', Fr h₀ L h' m → News h₀ L h' news → Q (.bool (i == 0)) { s with heap := h', toks := tk' }) :
   wpAny (model PySem.Challenge.rw_rs0100_01.prog w) A (call (.ref 35) [.int i t]) Q E s := by
  obtain ⟨hh, hA, hf, hke, ⟨A₀, B⟩, X, ⟨p, loose, mean, mg, mb, T⟩, hd, hu⟩ := C
  refine wp_deep hh hA hd hu ?_
  revert X; k_fill; intro X
  refine wpAny_call ?_
  refine code_def (binds := [(Str.ofString "x", .int i t)]) B F X N T rfl hf hke (by k_is) (by k_is) (by show (480:Nat) < recursionLimit; decide) (BindsTo.of_eq rfl) (locs rfl) ?_ rfl rfl rfl (by decide)
  intro g' L' h' FG' F' N' B' X' T'
  dsimp only
  k_fold
  k_steps
  exact h _ _ (by assumption) (by assumption)
end
end Mine
end
/-! part Q4 -/
section
open PySem PySem.W PyProof.Rows
set_option autoImplicit false
namespace Mine
noncomputable section
variable {w : World} {A : Around} {s : Shared} {base h₀ : Heap} {outer : List Env} {env : Env} {L : Addr} {m : Str → Option Value} {news rest big : List (Addr × Obj)} {Q : Value → Shared → Prop} {E : Value → Shared → Prop}
section
variable {n : Nat} {free : List Nat} {ps : List (Nat × Nat)} {K : List Tri} {is ends : List Int}
theorem due_first {sh : Int} {p : Int} (h1 : 0 ≤ p) (h2 : p < (K.length : Int)) : ((K.map (dueOf sh))[p.toNat]?.getD (0, 0, 0)).1 = hueI (K[p.toNat]?.getD (0, 0, 0)) := by
  have h3 : p.toNat < K.length := by (first | lia | omega)
  rw [List.getElem?_map, List.getElem?_eq_getElem h3]
  rfl
theorem hues_eq (hab : Abs n free ps K) (hl : is.length = n) (hE2 : ends.map (fun p => K[p.toNat]?.getD (0, 0, 0)) = K.filter (isReal is)) (hE1 : ∀ p ∈ ends, 0 ≤ p ∧ p < (K.length : Int)) {sh : Int} {fH : Int → Int}
    (hfH : fH = fun p => ((K.map (dueOf sh))[p.toNat]?.getD (0, 0, 0)).1) : (ends.filter (fun _ => true)).map fH = hsOf (endsOf ps (realN is)) := by
  unfold hsOf
  rw [filt_true, ← kr_eq hab hl, ← hE2, List.map_map]
  refine List.map_congr_left fun p hp => ?_
  rw [hfH]
  exact due_first (hE1 p hp).1 (hE1 p hp).2
theorem marks_eq (hab : Abs n free ps K) (hl : is.length = n) (hE2 : ends.map (fun p => K[p.toNat]?.getD (0, 0, 0)) = K.filter (isReal is)) :
    (ends.map fun p => ((K[p.toNat]?.getD (0, 0, 0)).2.1, (K[p.toNat]?.getD (0, 0, 0)).2.2)) = msOf (endsOf ps (realN is)) := by
  unfold msOf
  rw [← kr_eq hab hl, ← hE2, List.map_map]
  rfl
theorem some_real {xs : List Int} (hxt : ∃ zs : List Int, xs = zs ++ [112, 353, 1633, 1136]) (his : is = xs.map symF) : ∃ t, t ∈ realN is := by
  obtain ⟨zs, rfl⟩ := hxt
  refine ⟨zs.length, realN_mem.mpr ⟨by rw [his]; simp, ?_⟩⟩
  rw [his, List.map_append, List.getElem?_append_right (by simp)]
  simp [symF]
theorem ends_pos (T : Ties ps (realN is)) (h : ∃ t, t ∈ realN is) : 0 < (endsOf ps (realN is)).length := by
  obtain ⟨t, ht⟩ := h
  have := (pos_at T ht false).1
  (first | lia | omega)
theorem ends_few (hab : Abs n free ps K) (hl : is.length = n) : 2 * (endsOf ps (realN is)).length ≤ 4 * n := by
  have h1 := congrArg List.length (kr_eq hab hl)
  rw [kr_len] at h1
  have h2 := List.length_filter_le (isReal is) K
  have h3 := hab.klen
  (first | lia | omega)
theorem rims_here {aH aM aS : Addr} {vH vM vS : List Value} {nH nM nS : Nat} (hab : Abs n free ps K) (hl : is.length = n) (hn7 : n ≤ 7) (T : Ties ps (realN is)) (hE0 : 0 < (endsOf ps (realN is)).length)
   (C : Cx w A 450 base env outer h₀ L) (F : Fr h₀ L s.heap m) (N : News h₀ L s.heap news)
   (hmH : (aH, lisO vH nH) ∈ news) (hmM : (aM, lisO vM nM) ∈ news) (hmS : (aS, lisO vS nS) ∈ news) (hvH : IntsAre vH (hsOf (endsOf ps (realN is)))) (hvM : Pairs news vM (msOf (endsOf ps (realN is)))) (hvS : IntsAre vS is)
   (h : ∀ R tk h' tk', RimsOk (2 * (endsOf ps (realN is)).length) (discOf ps (realN is) is T).disc (discOf ps (realN is) is T).over R → Fr h₀ L h' m → News h₀ L h' news → Q (.int (R : Nat) tk) { s with heap := h', toks := tk' }) :
   wpAny (model PySem.Challenge.rw_rs0100_01.prog w) A (call (.ref 118) [.ref aH, .ref aM, .ref aS]) Q E s := by
  have hfew := ends_few hab hl
  have hso : Sorted (hsOf (endsOf ps (realN is))) := by
    unfold hsOf
    rw [← kr_eq hab hl]
    exact hues_sorted (List.Pairwise.filter _ hab.ord) fun k hk => hab.ok k (List.mem_filter.mp hk).1
  have h2 : ∀ p, p < 2 * (endsOf ps (realN is)).length → (((msOf (endsOf ps (realN is)))[p]?.getD (0, 0)).2 = 1 ↔ p % 2 = 1) := fun p hp => by
    rw [ms_at hp]
    dsimp only
    (first | lia | omega)
  refine rims_spec (disc := (discOf ps (realN is) is T).disc) (over := (discOf ps (realN is) is T).over) (n := 2 * (endsOf ps (realN is)).length) C F N hmH hmM hmS hvH hvM hvS (hs_len _) (ms_len _) (by (first | lia | omega)) (by (first | lia | omega)) (by (first | lia | omega)) hso
    (Disc.inv_disc (discOf ps (realN is) is T) hE0) (Disc.inv_over (discOf ps (realN is) is T)) (fun p hp h1 q hq => rims_A T hp ((h2 p hp).mp h1) hq) (fun p hp h1 q hq => rims_B T hp (fun q1 => h1 ((h2 p hp).mpr q1)) hq) (fun p hp => rims_C T (by rw [hl, hab.plen]) hp) h
theorem rims_few (hab : Abs n free ps K) (hl : is.length = n) (hn7 : n ≤ 7) {R c : Nat} (hc : c = (mixF (ps.map castP) is (realF is)).count 0) (e : 2 * c = 2 ^ R) : R < 10 := by
  have h1 : c ≤ (mixF (ps.map castP) is (realF is)).length := by rw [hc]; exact List.count_le_length
  have h2 : (mixF (ps.map castP) is (realF is)).length < 200 := by
    have := mix_bound (ps.map castP) is (by (first | lia | omega)) (realF is).length
    rw [List.take_of_length_le (Nat.le_refl _)] at this
    exact this
  refine Classical.byContradiction fun h => ?_
  have h3 : 2 ^ 10 ≤ 2 ^ R := Nat.pow_le_pow_right (by decide) (by (first | lia | omega))
  have h4 : (2 : Nat) ^ 10 = 1024 := by decide
  (first | lia | omega)
end
end
end Mine
end
/-! part LY -/
section
open PySem PySem.W PyProof.Rows
set_option autoImplicit false
namespace Mine
noncomputable section
theorem dues_step {tl big : List (Addr × Obj)} {sh : Int} {K : List Tri} {vs : List Value} {p : Nat} {e : Tri} {r : Addr} {t1 t2 t3 : Tok} (hm : (r, lisO [.int (hueI e) t1, .float (lightN (numOf sh e)) t2, .float (shareN (numOf sh e)) t3] 0) ∈ big) (z2 : t2 ≠ 0) (z3 : t3 ≠ 0)
    (h : Dues tl vs (K.map (dueOf sh))) (hs : ∀ p ∈ tl, p ∈ big) : Dues big (vs.take p ++ .ref r :: vs.drop p) ((ins K p e).map (dueOf sh)) := by
  rw [dueOf_ins]
  exact Dues.insert hm z2 z3 (h.mono hs) p
theorem dues_at {h₀ h : Heap} {L aY aP aF aN L' : Addr} {oY oP oF oN c5 c4 c3 c2 c1 : Obj} {x : Addr × Obj} {tl t0 : List (Addr × Obj)} {sh : Int} {K : List Tri} {vs : List Value} {e : Tri} {r : Addr} {t1 t2 t3 : Tok}
    (_ : News h₀ L h (x :: Led0 aY aP aF aN L' oY oP oF oN c5 c4 c3 c2 c1 ((r, lisO [.int (hueI e) t1, .float (lightN (numOf sh e)) t2, .float (shareN (numOf sh e)) t3] 0) :: tl))) (z2 : t2 ≠ 0) (z3 : t3 ≠ 0)
    (h : Dues t0 vs (K.map (dueOf sh))) (p : Nat) : Dues ((r, lisO [.int (hueI e) t1, .float (lightN (numOf sh e)) t2, .float (shareN (numOf sh e)) t3] 0) :: t0) (vs.take p ++ .ref r :: vs.drop p) ((ins K p e).map (dueOf sh)) :=
  dues_step (.head _) z2 z3 h (fun q hq => .tail _ hq)
theorem htails {I : Addr} {r4 r3 r2 r1 D9 : Addr} {o4 o3 o2 o1 o9 : Obj} {tups : List (Addr × Obj)} (h4 : I < r4) (h3 : I < r3) (h2 : I < r2) (h1 : I < r1) (h9 : I < D9) (ht : ∀ p ∈ tups, I < p.1) :
    ∀ p ∈ (r4, o4) :: (r3, o3) :: (r2, o2) :: (r1, o1) :: (D9, o9) :: tups, I < p.1 := by
  intro p hp
  rcases List.mem_cons.mp hp with rfl | hp
  · exact h4
  rcases List.mem_cons.mp hp with rfl | hp
  · exact h3
  rcases List.mem_cons.mp hp with rfl | hp
  · exact h2
  rcases List.mem_cons.mp hp with rfl | hp
  · exact h1
  rcases List.mem_cons.mp hp with rfl | hp
  · exact h9
  exact ht p hp
theorem skip9 {H tups own : List (Addr × Obj)} {y : Addr × Obj} : ∀ p ∈ H ++ tups, p ∈ H ++ (y :: (tups ++ own)) := fun p hp => by
  rcases List.mem_append.mp hp with h | h
  · exact List.mem_append_left _ h
  · exact List.mem_append_right _ (.tail _ (List.mem_append_left _ h))
theorem skip0 {H tups : List (Addr × Obj)} {y : Addr × Obj} : ∀ p ∈ H ++ tups, p ∈ H ++ (y :: tups) := fun p hp => by
  rcases List.mem_append.mp hp with h | h
  · exact List.mem_append_left _ h
  · exact List.mem_append_right _ (.tail _ h)
theorem pairs_mono {news big : List (Addr × Obj)} {vs : List Value} {ps : List (Int × Int)} (h : Pairs news vs ps) (hs : ∀ p ∈ news, p ∈ big) : Pairs big vs ps := by
  induction h with
  | nil => exact .nil
  | cons a _ ih => exact .cons (hs _ a) ih
theorem pairs_snoc {news : List (Addr × Obj)} {r : Addr} {i j : Int} {t u : Tok} {vs : List Value} {ps : List (Int × Int)} (h : Pairs news vs ps) (hm : (r, tupO [.int i t, .int j u]) ∈ news) : Pairs news (vs ++ [.ref r]) (ps ++ [(i, j)]) := by
  induction h with
  | nil => exact .cons hm .nil
  | cons a _ ih => exact .cons a ih
theorem is_next {xs is : List Int} {i : Nat} {x : Int} (hix : i < xs.length) (hxv : xs[((i : Nat) : Int).toNat]?.getD 0 = x) (his : is = (xs.take i).map symF) : is ++ [symF x] = (xs.take (i + 1)).map symF := by
  rw [Int.toNat_natCast, List.getElem?_eq_getElem hix] at hxv
  rw [his, List.take_succ, List.map_append, List.getElem?_eq_getElem hix]
  simp at hxv
  simp [hxv]
theorem turn_end {h₀ h : Heap} {L : Addr} {m' m₀ : Str → Option Value} {s₁ : Shared} {tk : Nat} {own tups : List (Addr × Obj)} {I aL aY aP aF aN L' : Addr} {c5 c4 c3 c2 c1 oN : Obj} {vL vY vP vF : List Value} {nL nY nP nF : Nat} {y1 y2 y3 y4 y5 : Addr × Obj} {x : Str} {stored : List Str} {P : LS → Prop}
    (F : Fr h₀ L h m') (N : News h₀ L h ((aL, lisO vL nL) :: Led0 aY aP aF aN L' (lisO vY nY) (lisO vP nP) (lisO vF nF) oN c5 c4 c3 c2 c1 (y1 :: y2 :: y3 :: y4 :: y5 :: (tups ++ own))))
    (free : List Nat) (ps : List (Nat × Nat)) (is : List Int) (K : List Tri) (haL : aL < I)
    (mm : aY < aL ∧ aP < aL ∧ aF < aL ∧ aN < aL ∧ L' + 1 + 1 + 1 + 1 + 1 < aL ∧ L' + 1 + 1 + 1 + 1 < aL ∧ L' + 1 + 1 + 1 < aL ∧ L' + 1 + 1 < aL ∧ L' + 1 < aL)
    (hI : ∀ p ∈ y1 :: y2 :: y3 :: y4 :: y5 :: tups, I < p.1)
    (h5 : ∀ z, z ≠ x → (∀ p ∈ ([] : List (Str × Value)), z ≠ p.1) → stored.contains z = false → m' z = m₀ z)
    (h6 : P ⟨vF, nF, free, vP, nP, ps, vY, nY, is, vL, nL, K, y1 :: y2 :: y3 :: y4 :: y5 :: tups⟩) :
    ForEnd h₀ L (fun c : LS => (aL, lisO c.vL c.nL) :: (aY, lisO c.vY c.nY) :: (aP, lisO c.vP c.nP) :: (aF, lisO c.vF c.nF) :: (aN, oN) :: (L' + 1 + 1 + 1 + 1 + 1, c5) :: (L' + 1 + 1 + 1 + 1, c4) :: (L' + 1 + 1 + 1, c3) :: (L' + 1 + 1, c2) :: (L' + 1, c1) :: c.tups)
      (fun _ => []) x stored m₀ P own I s₁ { s₁ with heap := h, toks := tk } := by
  refine for_end ⟨vF, nF, free, vP, nP, ps, vY, nY, is, vL, nL, K, y1 :: y2 :: y3 :: y4 :: y5 :: tups⟩ F N (fun p hp => sub_own (H := [_, _, _, _, _, _, _, _, _, _, _, _, _, _, _]) p hp) (fun p hp => sub_app (H := [_, _, _, _, _, _, _, _, _, _, _, _, _, _, _]) p hp) (fun p hp => ?_) (fun _ hp => nomatch hp) h5 h6
  obtain ⟨g1, g2, g3, g4, g5, g6, g7, g8, g9⟩ := mm
  rcases List.mem_cons.mp hp with rfl | hp
  · exact Nat.ne_of_lt haL
  rcases List.mem_cons.mp hp with rfl | hp
  · exact Nat.ne_of_lt (Nat.lt_trans g1 haL)
  rcases List.mem_cons.mp hp with rfl | hp
  · exact Nat.ne_of_lt (Nat.lt_trans g2 haL)
  rcases List.mem_cons.mp hp with rfl | hp
  · exact Nat.ne_of_lt (Nat.lt_trans g3 haL)
  rcases List.mem_cons.mp hp with rfl | hp
  · exact Nat.ne_of_lt (Nat.lt_trans g4 haL)
  rcases List.mem_cons.mp hp with rfl | hp
  · exact Nat.ne_of_lt (Nat.lt_trans g5 haL)
  rcases List.mem_cons.mp hp with rfl | hp
  · exact Nat.ne_of_lt (Nat.lt_trans g6 haL)
  rcases List.mem_cons.mp hp with rfl | hp
  · exact Nat.ne_of_lt (Nat.lt_trans g7 haL)
  rcases List.mem_cons.mp hp with rfl | hp
  · exact Nat.ne_of_lt (Nat.lt_trans g8 haL)
  rcases List.mem_cons.mp hp with rfl | hp
  · exact Nat.ne_of_lt (Nat.lt_trans g9 haL)
  exact Nat.ne_of_gt (hI p hp)
local macro_rules | `(tactic| walk_at "ForPost") => `(tactic| (refine Stop.out ?_))
local macro_rules | `(tactic| walk_at "eval ListComp") => `(tactic| (k_here; refine Stop.out ?_))
local macro_rules | `(tactic| walk_at "exec Assign cons ListComp") => `(tactic| (k_here; refine Stop.out ?_))
local macro_rules | `(tactic| walk_at "pyIter ref") => `(tactic| (k_here; refine Stop.out ?_))
local macro_rules | `(tactic| walk_at "exec For") => `(tactic| (k_here; refine Stop.out ?_))
local macro_rules | `(tactic| walk_at "exec For Name Call cons nil") => `(tactic| (k_here; refine Stop.out ?_))
local macro_rules | `(tactic| k_mem) => `(tactic| (refine List.mem_append_left _ ?_; first | assumption | (refine List.mem_append_left _ ?_; assumption)))
local macro_rules | `(tactic| k_all) => `(tactic| (refine List.forall_mem_append.mpr ⟨?_, ?_⟩ <;> first | assumption | (refine List.forall_mem_append.mpr ⟨?_, ?_⟩ <;> assumption)))
local macro_rules | `(tactic| k_all) => `(tactic| assumption)
local macro_rules | `(tactic| k_mem) => `(tactic| assumption)
local macro_rules | `(tactic| walk_at "call builtin:len") => `(tactic| (k_dflt (refine len_any (by k_asm) (by k_mem) (by (first | assumption | lia | omega)) ?_); (try dsimp only)))
local macro_rules | `(tactic| walk_at "loadName") => `(tactic| (k_dflt (refine ldn_any rfl rfl rfl (by k_asm) (by k_mem) (by assumption) ?_); (try dsimp only)))
local macro_rules | `(tactic| walk_at "subscriptTail Name Name ref int") => `(tactic| (k_dflt (refine int_at (by k_asm) (by k_mem) (by assumption) (by (first | assumption | lia | omega)) (by (first | assumption | lia | omega)) (by (first | assumption | lia | omega)) ?_); intro t'; (try dsimp only)))
local macro_rules | `(tactic| walk_at "call builtin:list.append") => `(tactic| (k_here; refine Stop.out ?_))
local macro_rules | `(tactic| walk_at "subscriptTail Tuple BinOp ref int") => `(tactic| (k_here; refine Stop.out ?_))
local macro_rules | `(tactic| walk_at "call builtin:list.pop") => `(tactic| (k_here; refine Stop.out ?_))
local macro_rules | `(tactic| walk_at "call ref") => `(tactic| (k_here; refine Stop.out ?_))
structure Mk1 : Prop where
  u : True
local macro_rules | `(tactic| walk_at "callWith") => `(tactic| ((rename Mk1 => q9); clear q9; k_here; refine Stop.out ?_))
local macro_rules | `(tactic| walk_at "eval Subscript") => `(tactic| ((rename Mk1 => q9); clear q9; k_here; refine Stop.out ?_))
local macro_rules | `(tactic| walk_at "subscriptTail Tuple BinOp ref int") => `(tactic| ((rename Mk1 => q9); clear q9; k_here; refine Stop.out ?_))
theorem sh_bd {a : Int} : 0 ≤ a.fmod 16 ∧ a.fmod 16 < 16 := by
  rw [Int.fmod_eq_emod_of_nonneg _ (by decide)]; (first | assumption | lia | omega)
local macro_rules | `(tactic| walk_at "call builtin:sorted") => `(tactic| (k_here; refine Stop.out ?_))
local macro_rules | `(tactic| walk_at "eval Name") => `(tactic| ((with_reducible show wpAny _ _ (eval (PySem.Expr.Name _ _) (compEnvC _ _ _ _)) _ _ _); k_dflt (refine cn_local (by assumption) (by assumption) ?_)))
local macro_rules | `(tactic| walk_at "eval Name") => `(tactic| ((with_reducible show wpAny _ _ (eval (PySem.Expr.Name _ _) (compEnvC _ _ _ _)) _ _ _); k_dflt (refine cn_cell rfl (by assumption) ?_)))
structure Mk3 : Prop where
  u : True
local macro_rules | `(tactic| walk_at "newTuple") => `(tactic| ((rename Mk3 => q9); clear q9; k_here; (with_reducible show wpAny _ _ (newTuple _) _ _ _); refine Stop.out ?_))
local macro_rules | `(tactic| walk_at "subscriptTail Name Name ref int") => `(tactic| (k_dflt (refine pair_at (by k_asm) (by k_mem) (by assumption) (by (first | assumption | lia | omega)) (by (first | assumption | lia | omega)) (by (first | assumption | lia | omega)) ?_); intro r' t' u' hm'; (try dsimp only)))
local macro_rules | `(tactic| walk_at "compareOp NotEq ref ref") => `(tactic| (k_here; refine Stop.out ?_))
local macro_rules | `(tactic| walk_at "subscriptTail Name Name ref int") => `(tactic| (k_dflt (refine trip_at (by k_asm) (by k_mem) (by assumption) (by (first | assumption | lia | omega)) (by (first | assumption | lia | omega)) (by (first | assumption | lia | omega)) ?_); intro r' t' u' v' hm'; (try dsimp only)))
local macro_rules | `(tactic| walk_at "subscriptTail Subscript Name Name Constant ref int") => `(tactic| (k_dflt (refine tupint_at (by k_asm) (by k_mem) (by decide) (by decide) rfl rfl ?_); (try dsimp only)))
local macro_rules | `(tactic| walk_at "subscriptTail Name Subscript ref int") => `(tactic| (k_dflt (refine int_at (by k_asm) (by k_mem) (by assumption) (by (first | assumption | lia | omega)) (by (first | assumption | lia | omega)) (by (first | assumption | lia | omega)) ?_); intro t'; (try dsimp only)))
local macro_rules | `(tactic| walk_at "subscriptTail Name Name ref int") => `(tactic| (k_dflt (refine due_at (by k_asm) (by k_mem) (by assumption) (by (first | assumption | lia | omega)) (by (first | assumption | lia | omega)) (by (first | assumption | lia | omega)) ?_); intro r' t' u' v' hm'; (try dsimp only)))
local macro_rules | `(tactic| walk_at "subscriptTail Subscript Name Name Constant ref int") => `(tactic| (k_dflt (refine kba_turn (value' := PySem.Expr.Name (PySem.Str.ofString "_") ⟨0, 0, 0, 0⟩) (fun _ => rfl) (item_at (by k_asm) (by k_mem) (by decide) (by decide) rfl ?_)); (try dsimp only)))
local macro_rules | `(tactic| walk_at "subscriptTail Subscript Slice ref ref") => `(tactic| (k_here; refine Stop.out ?_))
structure Mk2 : Prop where
  u : True
local macro_rules | `(tactic| walk_at "subscriptTail Name Name ref int") => `(tactic| ((rename Mk2 => q9); clear q9; k_here; refine Stop.out ?_))
local macro_rules | `(tactic| walk_at "subscriptTail Subscript Name Name Constant ref int") => `(tactic| ((rename Mk2 => q9); clear q9; k_here; refine Stop.out ?_))
local macro_rules | `(tactic| walk_at "subscriptTail Subscript Name Name Slice ref ref") => `(tactic| (k_here; refine Stop.out ?_))
set_option maxRecDepth 100000 in
set_option maxHeartbeats 8000000 in
noncomputable def lawIn : PSigma fun P : World → Shared → Shared → (Str → Option Value) → (Str → Option Value) → Addr → Addr → List Int → Addr → Addr → Addr → Addr → Addr → List Value → List Int → Int → List Value → Nat → Obj → Obj → Obj → Obj → Obj → Heap → Nat → (Str → Option Value) → Tok → Prop => (∀ (w : World) (s₀ : Shared) (s₁ : Shared) (mg : Str → Option Value) (mb : Str → Option Value) (fa : Addr) (a12 : Addr) (ns : List Int) (aN : Addr) (aF : Addr) (aP : Addr) (aY : Addr) (aL : Addr) (vN : List Value) (xs : List Int) (sh : Int) (vF : List Value) (nF : Nat) (oS : Obj) (oH1 : Obj) (oP1 : Obj) (oY1 : Obj) (oL1 : Obj) (h17 : Heap) (tk : Nat) (m0 : Str → Option Value) (tH : Tok), P w s₀ s₁ mg mb fa a12 ns aN aF aP aY aL vN xs sh vF nF oS oH1 oP1 oY1 oL1 h17 tk m0 tH) → PySem.Challenge.rw_rs0100_01.Holds := by
  apply PSigma.mk
  case snd =>
    intro hP
    refine hd (by
      w_on
      w_strict (
      k_go0; (all_goals try k_fold); (all_goals dsimp only)
      rename_i w s₀ s₁ mg mb G Y fa o pm doc ho hg KX X V GL T B TE TW a14 o13 M a12 a11 hcd ns hs hlay0 hL1 hr1 hl2 as9 as8 aScr vScr as5 hLs ra w1 r0 hIs hr hcond hcondT K0 hD h₁ tk₁ F0 oS oL oY oP oH dS dL dY dP dH N0 X0
      clear hcd hD X0 hs hlay0 hL1 hr1 hl2 ra r0 w1 hr hcondT ho G Y X V GL B TE TW M
      replace dS : oS.data = .cell none := dS
      replace dL : oL.data = .cell none := dL
      replace dY : oY.data = .cell none := dY
      replace dP : oP.data = .cell none := dP
      replace dH : oH.data = .cell none := dH
      replace F0 : Fr _ _ _ (bindL _ [(Str.ofString "script", Value.ref aScr)] fun _ => none) := F0
      k_steps
      refine ⟨?_⟩
      refine comp_evalI (fun _ => true) (fun i => i) rfl rfl (by decide) rfl (by decide) rfl ?_
      k_steps
      rename_i D1 ws1 h1 F1 N1 hI1 hC1 hL1 l1
      have hn3 : (ns.take 3).length ≤ 3 := by rw [List.length_take]; (first | assumption | lia | omega)
      refine ⟨⟨_, _, _, _, _, F1, N1, .list (list_at N1 (show (D1, _) ∈ _ by k_mem)) hI1 (by (first | assumption | lia | omega)), ⟨?_, ?_⟩, ?_⟩⟩
      · intro C i t s₃ m₃ E' hi hN hm hk
        exact wpAny_tests_nil ⟨rfl, keeps_refl _⟩
      · intro C i t s₃ m₃ E' hi hq hN hm hk
        k_steps
        exact keeps_refl _
      · intro D2 h2 tk2 ys2 nn2 hD2 hys2 F2 N2 _
        simp only [List.map_id', filt_true] at hys2
        clear N1 F1
        simp only [List.forall_mem_cons] at hD2
        obtain ⟨z0, z5, z4, z3, z2, z1, _⟩ := hD2
        replace z0 := neN z0
        replace z1 := neN z1
        replace z2 := neN z2
        replace z3 := neN z3
        replace z4 := neN z4
        replace z5 := neN z5
        dsimp only
        k_steps
        refine ⟨?_⟩
        refine comp_assignI (fun _ => true) (fun i => i) rfl rfl rfl (by decide) rfl (by decide) rfl rfl rfl ?_
        k_steps
        rename_i l4 h4 l5 aN vN h5 hIN lN h6 tk6 h7 tk7 t7 h8 oH1 F8 N8 dH1 h9 tk9 t9 u9 v9 hR3 F3 N3 k3
        clear k3 F8 N8
        have hsh := sh_bd (a := (List.take 3 ns ++ [112, 353, 1633, 1136]).sum)
        obtain ⟨hsh0, hsh1⟩ := hsh
        have hxl : 4 ≤ (List.take 3 ns ++ [112, 353, 1633, 1136]).length ∧ (List.take 3 ns ++ [112, 353, 1633, 1136]).length ≤ 7 := by
          rw [List.length_append]; simp only [List.length_cons, List.length_nil]; (first | assumption | lia | omega)
        have hxt : ∃ zs : List Int, List.take 3 ns ++ [112, 353, 1633, 1136] = zs ++ [112, 353, 1633, 1136] := ⟨_, rfl⟩
        have hcN : (vN.length : Int) < 1000 := by
          have := hIN.length
          (first | assumption | lia | omega)
        clear hn3 hC1 hL1
        replace hxl := Stop.mk hxl
        generalize hxs : List.take 3 ns ++ [112, 353, 1633, 1136] = xs at *
        generalize hshv : Int.fmod xs.sum 16 = sh at *
        clear hxs hshv z0 z1 z2 z3 z4 z5
        have hNr : Fr _ _ _ _ := F3
        have N3' : News s₁.heap _ h9 [(aN, lisO vN 0), (_, oS), (_, oL), (_, oY), (_, oP), (_, oH1)] := news_sub N3 fun p hp => by
          simp only [List.mem_cons, List.not_mem_nil, or_false] at hp ⊢
          rcases hp with h | h | h | h | h | h
          · exact .inl h
          · exact .inr (.inr (.inr (.inr (.inl h))))
          · exact .inr (.inr (.inr (.inr (.inr (.inl h)))))
          · exact .inr (.inr (.inr (.inr (.inr (.inr (.inl h))))))
          · exact .inr (.inr (.inr (.inr (.inr (.inr (.inr (.inl h)))))))
          · exact .inr (.inr (.inr (.inr (.inr (.inr (.inr (.inr h)))))))
        clear N3 hNr
        refine ⟨⟨_, _, _, _, F3, N3', SrcI.range (n := 16) hR3 (by decide), ⟨?_, ?_⟩, ?_⟩⟩
        · intro C i t s₃ m₃ E' hi hN hm hk
          exact wpAny_tests_nil ⟨rfl, keeps_refl _⟩
        · intro C i t s₃ m₃ E' hi hq hN hm hk
          k_steps
          exact keeps_refl _
        · intro aF h10 tk10 vF nF hDF hIF F4 N4
          simp only [List.map_id', filt_true] at hIF
          clear N3' F3 hR3
          simp only [List.forall_mem_cons] at hDF
          obtain ⟨y0, y5, y4, y3, y2, y1, _⟩ := hDF
          replace y0 := neN y0
          replace y1 := neN y1
          replace y2 := neN y2
          replace y3 := neN y3
          replace y4 := neN y4
          replace y5 := neN y5
          dsimp only
          k_steps
          refine ⟨?_⟩
          rename_i aP h12 F12 N12 m1 h13 oP1 dP1 tk13 aY h14 m2 h15 oY1 dY1 tk15 aL h16 m3 h17 oL1 F5 N5 dL1
          have haL5 : aL < h17.objs.size := Heap.lt_size (N5 (aL, _) (.head _)).1
          have haYL : aY < aL := ltN m3.1
          have haPL : aP < aL := ltN m3.2.1
          have haFL : aF < aL := ltN m3.2.2.1
          have haL0 : s₁.heap.objs.size < aL := Nat.lt_trans (Nat.lt_succ_self _) (ltN m3.2.2.2.2.2.2.2.2)
          obtain ⟨tH, dH1⟩ : ∃ tH : Tok, oH1.data = .cell (some (.int sh tH)) := ⟨_, dH1⟩
          replace K0 : Below callerA s₁.heap [] s₁.heap := K0
          replace lN := lN.2.2.2
          obtain ⟨m0, F5⟩ : ∃ m0 : Str → Option Value, Fr s₁.heap s₁.heap.objs.size h17 (fun z => if z = Str.ofString "free" then some (Value.ref aF) else if z = Str.ofString "numbers" then some (Value.ref aN) else m0 z) := ⟨_, F5⟩
          replace N5 : News s₁.heap s₁.heap.objs.size h17 [(aL, lisO [] 0), (aY, lisO [] 0), (aP, lisO [] 0), (aF, lisO vF nF), (aN, lisO vN 0), (s₁.heap.objs.size + 1 + 1 + 1 + 1 + 1, oS), (s₁.heap.objs.size + 1 + 1 + 1 + 1, oL1), (s₁.heap.objs.size + 1 + 1 + 1, oY1), (s₁.heap.objs.size + 1 + 1, oP1), (s₁.heap.objs.size + 1, oH1)] := N5
          have hAll := (And.intro KX (And.intro T (And.intro K0 (And.intro hIN (And.intro hxt (And.intro hxl (And.intro hsh0 (And.intro hsh1 (And.intro hcN (And.intro hIF (And.intro dS (And.intro dH1 (And.intro dP1 (And.intro dY1 (And.intro dL1 (And.intro m1 (And.intro m2 (And.intro m3 (And.intro lN (And.intro y0 (And.intro y1 (And.intro y2 (And.intro y3 (And.intro y4 (And.intro y5 (And.intro haL5 (And.intro haYL (And.intro haPL (And.intro haFL (And.intro haL0 (And.intro hg (And.intro F5 N5))))))))))))))))))))))))))))))))
          clear KX T K0 hIN hxt hxl hsh0 hsh1 hcN hIF dS dH1 dP1 dY1 dL1 m1 m2 m3 lN y0 y1 y2 y3 y4 y5 haL5 haYL haPL haFL haL0 hg F5 N5
          revert qk ek hAll
          exact hP w s₀ s₁ mg mb fa a12 ns aN aF aP aY aL vN xs sh vF nF oS oH1 oP1 oY1 oL1 h17 tk m0 tH))
namespace LX
noncomputable abbrev RV : Type := World × Shared × Shared × (Str → Option Value) × (Str → Option Value) × Addr × Addr × List Int × Addr × Addr × Addr × Addr × Addr × List Value × List Int × Int × List Value × Nat × Obj × Obj × Obj × Obj × Obj × Heap × Nat × (Str → Option Value) × Tok
theorem ne : Nonempty RV := ⟨(aWorld 1, {}, {}, fun _ => none, fun _ => none, (0 : Nat), (0 : Nat), [], (0 : Nat), (0 : Nat), (0 : Nat), (0 : Nat), (0 : Nat), [], [], 0, [], 0, default, default, default, default, default, default, 0, fun _ => none, 0)⟩
noncomputable def PP (v : RV) : Prop := lawIn.1 v.1 v.2.1 v.2.2.1 v.2.2.2.1 v.2.2.2.2.1 v.2.2.2.2.2.1 v.2.2.2.2.2.2.1 v.2.2.2.2.2.2.2.1 v.2.2.2.2.2.2.2.2.1 v.2.2.2.2.2.2.2.2.2.1 v.2.2.2.2.2.2.2.2.2.2.1 v.2.2.2.2.2.2.2.2.2.2.2.1 v.2.2.2.2.2.2.2.2.2.2.2.2.1 v.2.2.2.2.2.2.2.2.2.2.2.2.2.1 v.2.2.2.2.2.2.2.2.2.2.2.2.2.2.1 v.2.2.2.2.2.2.2.2.2.2.2.2.2.2.2.1 v.2.2.2.2.2.2.2.2.2.2.2.2.2.2.2.2.1 v.2.2.2.2.2.2.2.2.2.2.2.2.2.2.2.2.2.1 v.2.2.2.2.2.2.2.2.2.2.2.2.2.2.2.2.2.2.1 v.2.2.2.2.2.2.2.2.2.2.2.2.2.2.2.2.2.2.2.1 v.2.2.2.2.2.2.2.2.2.2.2.2.2.2.2.2.2.2.2.2.1 v.2.2.2.2.2.2.2.2.2.2.2.2.2.2.2.2.2.2.2.2.2.1 v.2.2.2.2.2.2.2.2.2.2.2.2.2.2.2.2.2.2.2.2.2.2.1 v.2.2.2.2.2.2.2.2.2.2.2.2.2.2.2.2.2.2.2.2.2.2.2.1 v.2.2.2.2.2.2.2.2.2.2.2.2.2.2.2.2.2.2.2.2.2.2.2.2.1 v.2.2.2.2.2.2.2.2.2.2.2.2.2.2.2.2.2.2.2.2.2.2.2.2.2.1 v.2.2.2.2.2.2.2.2.2.2.2.2.2.2.2.2.2.2.2.2.2.2.2.2.2.2
@[irreducible] noncomputable def rv : RV := @Classical.epsilon RV ne (fun v => ¬ PP v)
@[irreducible] noncomputable def w : World := rv.1
@[irreducible] noncomputable def s₀ : Shared := rv.2.1
@[irreducible] noncomputable def s₁ : Shared := rv.2.2.1
@[irreducible] noncomputable def mg : Str → Option Value := rv.2.2.2.1
@[irreducible] noncomputable def mb : Str → Option Value := rv.2.2.2.2.1
@[irreducible] noncomputable def fa : Addr := rv.2.2.2.2.2.1
@[irreducible] noncomputable def a12 : Addr := rv.2.2.2.2.2.2.1
@[irreducible] noncomputable def ns : List Int := rv.2.2.2.2.2.2.2.1
@[irreducible] noncomputable def aN : Addr := rv.2.2.2.2.2.2.2.2.1
@[irreducible] noncomputable def aF : Addr := rv.2.2.2.2.2.2.2.2.2.1
@[irreducible] noncomputable def aP : Addr := rv.2.2.2.2.2.2.2.2.2.2.1
@[irreducible] noncomputable def aY : Addr := rv.2.2.2.2.2.2.2.2.2.2.2.1
@[irreducible] noncomputable def aL : Addr := rv.2.2.2.2.2.2.2.2.2.2.2.2.1
@[irreducible] noncomputable def vN : List Value := rv.2.2.2.2.2.2.2.2.2.2.2.2.2.1
@[irreducible] noncomputable def xs : List Int := rv.2.2.2.2.2.2.2.2.2.2.2.2.2.2.1
@[irreducible] noncomputable def sh : Int := rv.2.2.2.2.2.2.2.2.2.2.2.2.2.2.2.1
@[irreducible] noncomputable def vF : List Value := rv.2.2.2.2.2.2.2.2.2.2.2.2.2.2.2.2.1
@[irreducible] noncomputable def nF : Nat := rv.2.2.2.2.2.2.2.2.2.2.2.2.2.2.2.2.2.1
@[irreducible] noncomputable def oS : Obj := rv.2.2.2.2.2.2.2.2.2.2.2.2.2.2.2.2.2.2.1
@[irreducible] noncomputable def oH1 : Obj := rv.2.2.2.2.2.2.2.2.2.2.2.2.2.2.2.2.2.2.2.1
@[irreducible] noncomputable def oP1 : Obj := rv.2.2.2.2.2.2.2.2.2.2.2.2.2.2.2.2.2.2.2.2.1
@[irreducible] noncomputable def oY1 : Obj := rv.2.2.2.2.2.2.2.2.2.2.2.2.2.2.2.2.2.2.2.2.2.1
@[irreducible] noncomputable def oL1 : Obj := rv.2.2.2.2.2.2.2.2.2.2.2.2.2.2.2.2.2.2.2.2.2.2.1
@[irreducible] noncomputable def h17 : Heap := rv.2.2.2.2.2.2.2.2.2.2.2.2.2.2.2.2.2.2.2.2.2.2.2.1
@[irreducible] noncomputable def tk : Nat := rv.2.2.2.2.2.2.2.2.2.2.2.2.2.2.2.2.2.2.2.2.2.2.2.2.1
@[irreducible] noncomputable def m0 : Str → Option Value := rv.2.2.2.2.2.2.2.2.2.2.2.2.2.2.2.2.2.2.2.2.2.2.2.2.2.1
@[irreducible] noncomputable def tH : Tok := rv.2.2.2.2.2.2.2.2.2.2.2.2.2.2.2.2.2.2.2.2.2.2.2.2.2.2
set_option maxRecDepth 100000 in
set_option maxHeartbeats 8000000 in
noncomputable def tdIn : PSigma fun P1 : Nat → List Value → Nat → List Nat → List Value → Nat → List (Nat × Nat) → List Value → Nat → List Int → List Value → Nat → List Tri → List (Addr × Obj) → (Str → Option Value) → Heap → Nat → List (Addr × Obj) → Heap → (Str → Option Value) → Tok → Obj → Nat → Prop => PSigma fun P2 : List Value → Nat → List Nat → List Value → Nat → List (Nat × Nat) → List Value → Nat → List Int → List Value → Nat → List Tri → List (Addr × Obj) → (Str → Option Value) → Heap → Nat → Heap → (Str → Option Value) → Nat → Prop => ((∀ (i : Nat) (vF : List Value) (nF : Nat) (free : List Nat) (vP : List Value) (nP : Nat) (ps : List (Nat × Nat)) (vY : List Value) (nY : Nat) (is : List Int) (vL : List Value) (nL : Nat) (K : List Tri) (tups : List (Addr × Obj)) (u : Str → Option Value) (h19 : Heap) (tk19 : Nat) (own : List (Addr × Obj)) (h18 : Heap) (m0 : Str → Option Value) (ti : Tok) (oI : Obj) (tk18 : Nat), P1 i vF nF free vP nP ps vY nY is vL nL K tups u h19 tk19 own h18 m0 ti oI tk18) → (∀ (vF : List Value) (nF : Nat) (free : List Nat) (vP : List Value) (nP : Nat) (ps : List (Nat × Nat)) (vY : List Value) (nY : Nat) (is : List Int) (vL : List Value) (nL : Nat) (K : List Tri) (tups : List (Addr × Obj)) (u : Str → Option Value) (h19 : Heap) (tk19 : Nat) (h18 : Heap) (m0 : Str → Option Value) (n : Nat), P2 vF nF free vP nP ps vY nY is vL nL K tups u h19 tk19 h18 m0 n) → lawIn.1 w s₀ s₁ mg mb fa a12 ns aN aF aP aY aL vN xs sh vF nF oS oH1 oP1 oY1 oL1 h17 tk m0 tH) := by
  apply PSigma.mk
  case snd =>
    apply PSigma.mk
    case snd =>
      intro hP1 hP2
      unfold lawIn
      (try dsimp only)
      intro hAll
      obtain ⟨KX, T, K0, hIN, hxt, hxl, hsh0, hsh1, hcN, hIF, dS, dH1, dP1, dY1, dL1, m1, m2, m3, lN, y0, y1, y2, y3, y4, y5, haL5, haYL, haPL, haFL, haL0, hg, F5, N5⟩ := hAll
      (try k_fold)
      refine For_invV s₁.heap rfl rfl ?_
      k_steps
      refine ⟨?_⟩
      rename_i h18 tk18 t18 u18 v18 hR4 F6 N6 k6
      clear k6
      have haL6 : aL < h18.objs.size := Heap.lt_size (N6 (aL, _) (.head _)).1
      obtain ⟨m0, F6⟩ : ∃ m0 : Str → Option Value, Fr s₁.heap s₁.heap.objs.size h18 (fun z => if z = Str.ofString "free" then some (Value.ref aF) else if z = Str.ofString "numbers" then some (Value.ref aN) else m0 z) := ⟨_, F6⟩
      refine for_st (σ := LS) (fun c => (aL, lisO c.vL c.nL) :: (aY, lisO c.vY c.nY) :: (aP, lisO c.vP c.nP) :: (aF, lisO c.vF c.nF) :: (aN, lisO vN 0) :: (s₁.heap.objs.size + 1 + 1 + 1 + 1 + 1, oS) :: (s₁.heap.objs.size + 1 + 1 + 1 + 1, oL1) :: (s₁.heap.objs.size + 1 + 1 + 1, oY1) :: (s₁.heap.objs.size + 1 + 1, oP1) :: (s₁.heap.objs.size + 1, oH1) :: c.tups)
        (fun _ => []) [Str.ofString "x", Str.ofString "turn", Str.ofString "one", Str.ofString "other", Str.ofString "ahead", Str.ofString "behind"]
        (fun i c => IntsAre c.vF (toI c.free) ∧ Pairs c.tups c.vP (c.ps.map castP) ∧ IntsAre c.vY c.is ∧ c.is = (xs.take i).map symF ∧ Dues c.tups c.vL (c.K.map (dueOf sh)) ∧ Abs i c.free c.ps c.K ∧ (∀ p ∈ c.tups, h18.objs.size < p.1))
        ⟨vF, nF, List.range 16, [], 0, [], [], 0, [], [], 0, [], []⟩ (Src.range (n := vN.length) hR4 (by (first | assumption | lia | omega))) rfl F6 N6 ?_ (fun _ h => nomatch h) ⟨hIF, .nil, .nil, rfl, .nil, Abs.first, fun _ h => nomatch h⟩ ?_ ?_
      · intro b e
        cases e
        exact Nat.ne_of_gt (Nat.lt_trans haL0 haL5)
      · rintro i v ⟨vF, nF, free, vP, nP, ps, vY, nY, is, vL, nL, K, tups⟩ u h19 tk19 own hi ⟨_, ti, rfl⟩ ⟨hvF, hvP, hvY, his, hvL, hab, htI⟩ hown ⟨oI, hI⟩ F7 N7
        dsimp only [kstB] at hvF hvP hvY his hvL hab htI F7 N7 ⊢
        have htu : ∀ p ∈ tups, aL < p.1 := fun p hp => Nat.lt_trans haL6 (htI p hp)
        replace F7 : Fr s₁.heap s₁.heap.objs.size h19 _ := F7
        replace N7 : News s₁.heap s₁.heap.objs.size h19 ((aL, lisO vL nL) :: (aY, lisO vY nY) :: (aP, lisO vP nP) :: (aF, lisO vF nF) :: (aN, lisO vN 0) :: (s₁.heap.objs.size + 1 + 1 + 1 + 1 + 1, oS) :: (s₁.heap.objs.size + 1 + 1 + 1 + 1, oL1) :: (s₁.heap.objs.size + 1 + 1 + 1, oY1) :: (s₁.heap.objs.size + 1 + 1, oP1) :: (s₁.heap.objs.size + 1, oH1) :: (tups ++ own)) := N7
        clear F6 N6
        have hown2 : ∀ p ∈ own, aL < p.1 := fun p hp => by
          rcases hown p hp with e | e
          · rw [e]; exact haL6
          · rw [← Value.ref.inj e]; exact haL5
        have tL : ∀ p ∈ tups, p.1 ≠ aL := fun p hp => Nat.ne_of_gt (htu p hp)
        have tY : ∀ p ∈ tups, p.1 ≠ aY := fun p hp => Nat.ne_of_gt (Nat.lt_trans haYL (htu p hp))
        have tP : ∀ p ∈ tups, p.1 ≠ aP := fun p hp => Nat.ne_of_gt (Nat.lt_trans haPL (htu p hp))
        have tF : ∀ p ∈ tups, p.1 ≠ aF := fun p hp => Nat.ne_of_gt (Nat.lt_trans haFL (htu p hp))
        have wL : ∀ p ∈ own, p.1 ≠ aL := fun p hp => Nat.ne_of_gt (hown2 p hp)
        have wY : ∀ p ∈ own, p.1 ≠ aY := fun p hp => Nat.ne_of_gt (Nat.lt_trans haYL (hown2 p hp))
        have wP : ∀ p ∈ own, p.1 ≠ aP := fun p hp => Nat.ne_of_gt (Nat.lt_trans haPL (hown2 p hp))
        have wF : ∀ p ∈ own, p.1 ≠ aF := fun p hp => Nat.ne_of_gt (Nat.lt_trans haFL (hown2 p hp))
        have hNl := hIN.length
        have hix : i < xs.length := by (first | assumption | lia | omega)
        have hfl := hab.flen
        have hvFl : vF.length = free.length := by rw [hvF.length, toI_length]
        have hi7 : i < 7 := by have := hxl.out.2; (first | assumption | lia | omega)
        have hvPl : vP.length < 1000 := by rw [hvP.length, List.length_map, hab.plen]; (first | assumption | lia | omega)
        have hvYl : vY.length < 1000 := by rw [hvY.length, his, List.length_map, List.length_take]; (first | assumption | lia | omega)
        have hAll1 := (And.intro KX (And.intro T (And.intro K0 (And.intro hsh0 (And.intro hsh1 (And.intro dS (And.intro dH1 (And.intro dP1 (And.intro dY1 (And.intro dL1 (And.intro m1 (And.intro m2 (And.intro m3 (And.intro lN (And.intro y0 (And.intro y1 (And.intro y2 (And.intro y3 (And.intro y4 (And.intro y5 (And.intro haYL (And.intro haPL (And.intro haFL (And.intro haL0 (And.intro haL6 (And.intro hg (And.intro hIN (And.intro hxt (And.intro hcN (And.intro hxl (And.intro hi (And.intro hvF (And.intro hvP (And.intro hvY (And.intro his (And.intro hvL (And.intro hab (And.intro htI (And.intro hown (And.intro hI (And.intro F7 (And.intro N7 (And.intro htu (And.intro hown2 (And.intro tL (And.intro tY (And.intro tP (And.intro tF (And.intro wL (And.intro wY (And.intro wP (And.intro wF (And.intro hNl (And.intro hix (And.intro hfl (And.intro hvFl (And.intro hi7 (And.intro hvPl hvYl))))))))))))))))))))))))))))))))))))))))))))))))))))))))))
        clear KX T K0 hsh0 hsh1 dS dH1 dP1 dY1 dL1 m1 m2 m3 lN y0 y1 y2 y3 y4 y5 haYL haPL haFL haL0 haL6 hg hIN hxt hcN hxl hi hvF hvP hvY his hvL hab htI hown hI F7 N7 htu hown2 tL tY tP tF wL wY wP wF hNl hix hfl hvFl hi7 hvPl hvYl
        first | revert qk ek hAll1 | revert hAll1
        exact hP1 i vF nF free vP nP ps vY nY is vL nL K tups u h19 tk19 own h18 m0 ti oI tk18
      · rintro ⟨vF, nF, free, vP, nP, ps, vY, nY, is, vL, nL, K, tups⟩ u h19 tk19 ⟨hvF, hvP, hvY, his, hvL, hab, htI⟩ F7 N7
        dsimp only [kstB] at hvF hvP hvY his hvL hab htI F7 N7 ⊢
        replace F7 : Fr s₁.heap s₁.heap.objs.size h19 _ := F7
        replace N7 : News s₁.heap s₁.heap.objs.size h19 ((aL, lisO vL nL) :: (aY, lisO vY nY) :: (aP, lisO vP nP) :: (aF, lisO vF nF) :: (aN, lisO vN 0) :: (s₁.heap.objs.size + 1 + 1 + 1 + 1 + 1, oS) :: (s₁.heap.objs.size + 1 + 1 + 1 + 1, oL1) :: (s₁.heap.objs.size + 1 + 1 + 1, oY1) :: (s₁.heap.objs.size + 1 + 1, oP1) :: (s₁.heap.objs.size + 1, oH1) :: tups) := N7
        have hL19 : s₁.heap.objs.size < h19.objs.size := F7.ns.lt
        have mm := (show aY < aL ∧ aP < aL ∧ aF < aL ∧ aN < aL ∧ s₁.heap.objs.size + 1 + 1 + 1 + 1 + 1 < aL ∧ s₁.heap.objs.size + 1 + 1 + 1 + 1 < aL ∧ s₁.heap.objs.size + 1 + 1 + 1 < aL ∧ s₁.heap.objs.size + 1 + 1 < aL ∧ s₁.heap.objs.size + 1 < aL from m3)
        have hn := hIN.length
        have hnn := hxl.out
        rw [← hn] at hnn
        rw [List.take_of_length_le (by (first | assumption | lia | omega))] at his
        have tu5 : ∀ p ∈ tups, p.1 ≠ s₁.heap.objs.size + 1 + 1 + 1 + 1 + 1 := fun p hp => Nat.ne_of_gt (Nat.lt_trans (Nat.lt_trans mm.2.2.2.2.1 haL6) (htI p hp))
        clear F6 N6 hcN hIF hxl hR4 htI
        generalize hnv : vN.length = n at *
        have hvPl : vP.length = n := by rw [hvP.length, List.length_map, hab.plen]
        have hvP9 : vP.length < 1000 := by omega
        have hisl : is.length = n := by rw [his, List.length_map]; (first | assumption | lia | omega)
        have hpl : (ps.map castP).length = n := by rw [List.length_map, hab.plen]
        have hAll1 := (And.intro KX (And.intro T (And.intro K0 (And.intro hsh0 (And.intro hsh1 (And.intro dS (And.intro dH1 (And.intro dP1 (And.intro dY1 (And.intro dL1 (And.intro m1 (And.intro m2 (And.intro m3 (And.intro lN (And.intro y0 (And.intro y1 (And.intro y2 (And.intro y3 (And.intro y4 (And.intro y5 (And.intro haYL (And.intro haPL (And.intro haFL (And.intro haL0 (And.intro haL6 (And.intro hg (And.intro hIN (And.intro hxt (And.intro hvF (And.intro hvP (And.intro hvY (And.intro his (And.intro hvL (And.intro hab (And.intro F7 (And.intro N7 (And.intro tu5 (And.intro hL19 (And.intro mm (And.intro hn (And.intro hnn (And.intro hvPl (And.intro hvP9 (And.intro hisl hpl))))))))))))))))))))))))))))))))))))))))))))
        clear KX T K0 hsh0 hsh1 dS dH1 dP1 dY1 dL1 m1 m2 m3 lN y0 y1 y2 y3 y4 y5 haYL haPL haFL haL0 haL6 hg hIN hxt hvF hvP hvY his hvL hab F7 N7 tu5 hL19 mm hn hnn hvPl hvP9 hisl hpl
        first | revert qk ek hAll1 | revert hAll1
        exact hP2 vF nF free vP nP ps vY nY is vL nL K tups u h19 tk19 h18 m0 n
namespace TX
noncomputable abbrev RV : Type := Nat × List Value × Nat × List Nat × List Value × Nat × List (Nat × Nat) × List Value × Nat × List Int × List Value × Nat × List Tri × List (Addr × Obj) × (Str → Option Value) × Heap × Nat × List (Addr × Obj) × Heap × (Str → Option Value) × Tok × Obj × Nat
theorem ne : Nonempty RV := ⟨(0, [], 0, [], [], 0, [], [], 0, [], [], 0, [], [], fun _ => none, default, 0, [], default, fun _ => none, 0, default, 0)⟩
noncomputable def PP (v : RV) : Prop := tdIn.1 v.1 v.2.1 v.2.2.1 v.2.2.2.1 v.2.2.2.2.1 v.2.2.2.2.2.1 v.2.2.2.2.2.2.1 v.2.2.2.2.2.2.2.1 v.2.2.2.2.2.2.2.2.1 v.2.2.2.2.2.2.2.2.2.1 v.2.2.2.2.2.2.2.2.2.2.1 v.2.2.2.2.2.2.2.2.2.2.2.1 v.2.2.2.2.2.2.2.2.2.2.2.2.1 v.2.2.2.2.2.2.2.2.2.2.2.2.2.1 v.2.2.2.2.2.2.2.2.2.2.2.2.2.2.1 v.2.2.2.2.2.2.2.2.2.2.2.2.2.2.2.1 v.2.2.2.2.2.2.2.2.2.2.2.2.2.2.2.2.1 v.2.2.2.2.2.2.2.2.2.2.2.2.2.2.2.2.2.1 v.2.2.2.2.2.2.2.2.2.2.2.2.2.2.2.2.2.2.1 v.2.2.2.2.2.2.2.2.2.2.2.2.2.2.2.2.2.2.2.1 v.2.2.2.2.2.2.2.2.2.2.2.2.2.2.2.2.2.2.2.2.1 v.2.2.2.2.2.2.2.2.2.2.2.2.2.2.2.2.2.2.2.2.2.1 v.2.2.2.2.2.2.2.2.2.2.2.2.2.2.2.2.2.2.2.2.2.2
@[irreducible] noncomputable def rv : RV := @Classical.epsilon RV ne (fun v => ¬ PP v)
@[irreducible] noncomputable def i : Nat := rv.1
@[irreducible] noncomputable def vF : List Value := rv.2.1
@[irreducible] noncomputable def nF : Nat := rv.2.2.1
@[irreducible] noncomputable def free : List Nat := rv.2.2.2.1
@[irreducible] noncomputable def vP : List Value := rv.2.2.2.2.1
@[irreducible] noncomputable def nP : Nat := rv.2.2.2.2.2.1
@[irreducible] noncomputable def ps : List (Nat × Nat) := rv.2.2.2.2.2.2.1
@[irreducible] noncomputable def vY : List Value := rv.2.2.2.2.2.2.2.1
@[irreducible] noncomputable def nY : Nat := rv.2.2.2.2.2.2.2.2.1
@[irreducible] noncomputable def is : List Int := rv.2.2.2.2.2.2.2.2.2.1
@[irreducible] noncomputable def vL : List Value := rv.2.2.2.2.2.2.2.2.2.2.1
@[irreducible] noncomputable def nL : Nat := rv.2.2.2.2.2.2.2.2.2.2.2.1
@[irreducible] noncomputable def K : List Tri := rv.2.2.2.2.2.2.2.2.2.2.2.2.1
@[irreducible] noncomputable def tups : List (Addr × Obj) := rv.2.2.2.2.2.2.2.2.2.2.2.2.2.1
@[irreducible] noncomputable def u : Str → Option Value := rv.2.2.2.2.2.2.2.2.2.2.2.2.2.2.1
@[irreducible] noncomputable def h19 : Heap := rv.2.2.2.2.2.2.2.2.2.2.2.2.2.2.2.1
@[irreducible] noncomputable def tk19 : Nat := rv.2.2.2.2.2.2.2.2.2.2.2.2.2.2.2.2.1
@[irreducible] noncomputable def own : List (Addr × Obj) := rv.2.2.2.2.2.2.2.2.2.2.2.2.2.2.2.2.2.1
@[irreducible] noncomputable def h18 : Heap := rv.2.2.2.2.2.2.2.2.2.2.2.2.2.2.2.2.2.2.1
@[irreducible] noncomputable def m0 : Str → Option Value := rv.2.2.2.2.2.2.2.2.2.2.2.2.2.2.2.2.2.2.2.1
@[irreducible] noncomputable def ti : Tok := rv.2.2.2.2.2.2.2.2.2.2.2.2.2.2.2.2.2.2.2.2.1
@[irreducible] noncomputable def oI : Obj := rv.2.2.2.2.2.2.2.2.2.2.2.2.2.2.2.2.2.2.2.2.2.1
@[irreducible] noncomputable def tk18 : Nat := rv.2.2.2.2.2.2.2.2.2.2.2.2.2.2.2.2.2.2.2.2.2.2
set_option maxRecDepth 100000 in
set_option maxHeartbeats 8000000 in
theorem in0 : tdIn.1 i vF nF free vP nP ps vY nY is vL nL K tups u h19 tk19 own h18 m0 ti oI tk18 := by
  unfold tdIn
  (try dsimp only)
  intro hAll1
  obtain ⟨KX, T, K0, hsh0, hsh1, dS, dH1, dP1, dY1, dL1, m1, m2, m3, lN, y0, y1, y2, y3, y4, y5, haYL, haPL, haFL, haL0, haL6, hg, hIN, hxt, hcN, hxl, hi, hvF, hvP, hvY, his, hvL, hab, htI, hown, hI, F7, N7, htu, hown2, tL, tY, tP, tF, wL, wY, wP, wF, hNl, hix, hfl, hvFl, hi7, hvPl, hvYl⟩ := hAll1
  (try k_fold)
  k_steps
  generalize hxv : xs[((i : Nat) : Int).toNat]?.getD 0 = x at *
  have hk1 := fmod_bd (a := x) (b := (vF.length : Int)) (by (first | assumption | lia | omega))
  refine ⟨pop_at (by k_asm) (by k_asm) hvF hk1.1 (by have := hk1.2; (first | assumption | lia | omega)) (by (first | assumption | lia | omega)) (by k_upd) ?_⟩
  intro one to h20 hone hvF1 F8 N8
  have hj1 : (x.fmod (vF.length : Int)).toNat < free.length := by have := hk1.2; (first | assumption | lia | omega)
  have hfl1 : (free.eraseIdx (x.fmod (vF.length : Int)).toNat).length = free.length - 1 := List.length_eraseIdx_of_lt hj1
  generalize hjv1 : (x.fmod (vF.length : Int)).toNat = j1 at *
  generalize hvv1 : vF.eraseIdx j1 = vF1 at *
  have hvFl1 : vF1.length = (free.eraseIdx j1).length := by rw [hvF1.length, toI_length]
  clear hk1
  dsimp only
  k_steps
  have hk2 := fmod_bd (a := x.fdiv 16) (b := (vF1.length : Int)) (by (first | assumption | lia | omega))
  refine ⟨pop_at (by k_asm) (by k_asm) hvF1 hk2.1 (by have := hk2.2; (first | assumption | lia | omega)) (by (first | assumption | lia | omega)) (by k_upd) ?_⟩
  intro other tt h21 hother hvF2 F9 N9
  have hj2 : ((x.fdiv 16).fmod (vF1.length : Int)).toNat < (free.eraseIdx j1).length := by have := hk2.2; (first | assumption | lia | omega)
  generalize hjv2 : ((x.fdiv 16).fmod (vF1.length : Int)).toNat = j2 at *
  generalize hvv2 : vF1.eraseIdx j2 = vF2 at *
  clear hk2 y0 y1 y2 y3 y4 y5
  dsimp only
  k_steps
  rename_i D9 h22 F10 N10 l10
  refine ⟨append_upd F10 N10 hvPl (by k_upd) ?_⟩
  intro h23 F11 N11
  clear F10 N10
  have mk1 : Mk1 := ⟨trivial⟩
  dsimp only
  k_steps
  refine ⟨?_⟩
  dsimp only
  refine PyProof.Rows.callWith_method1 ?_
  have mk1 : Mk1 := ⟨trivial⟩
  k_steps
  refine ⟨?_⟩
  refine PyProof.Rows.Subscript_ ?_
  have mk1 : Mk1 := ⟨trivial⟩
  k_steps
  rename_i tY
  refine ⟨append_upd (by k_asm) (by k_asm) hvYl (by k_upd) ?_⟩
  intro h24 F12 N12
  (try clear mk1)
  dsimp only
  k_steps
  have hone16 : one < 16 := hab.lt one (List.mem_append_left _ (List.mem_of_getElem? hone))
  have hoth16 : other < 16 := hab.lt other (List.mem_append_left _ (List.mem_of_mem_eraseIdx (List.mem_of_getElem? hother)))
  have htu5 := fmod_bd (a := x.fdiv 2048) (b := 5) (by decide)
  have mm := (show aY < aL ∧ aP < aL ∧ aF < aL ∧ aN < aL ∧ s₁.heap.objs.size + 1 + 1 + 1 + 1 + 1 < aL ∧ s₁.heap.objs.size + 1 + 1 + 1 + 1 < aL ∧ s₁.heap.objs.size + 1 + 1 + 1 < aL ∧ s₁.heap.objs.size + 1 + 1 < aL ∧ s₁.heap.objs.size + 1 < aL from m3)
  have hD9 : h18.objs.size < D9 := of_allLt l10.2.2.2.2.2.2.2.2.2.2 (_, oI) (List.mem_append_right _ hI)
  have hKl : K.length < 900 := by rw [hab.klen]; (first | assumption | lia | omega)
  have ht0 : ∀ q ∈ tups ++ own, aL < q.1 := fun q hq => (List.mem_append.mp hq).elim (htu q) (hown2 q)
  refine ⟨told2 (h₀ := s₁.heap) (spot := one) (turn := ((x.fdiv 2048).fmod 5).toNat) (number := numOf sh ((one : Int), (i : Int), (1 : Int))) rfl (by (first | assumption | lia | omega)) (num1 _ _ _) ⟨rfl, rfl, rfl, rfl, ⟨_, by k_asm⟩, by k_asm, ⟨_, _, _, _, _, by k_asm⟩, Nat.le_of_ble_eq_true rfl, Nat.le_of_ble_eq_true rfl⟩ (by k_asm) (by k_asm) hone16 (by (first | assumption | lia | omega)) (num_lt _ _) ?_⟩
  intro r1 ta1 tb1 tc1 ha1 tka1 zb1 zc1 la1 Fa1 Na1
  dsimp only
  k_steps
  have Nb1 := sort1 (show News s₁.heap s₁.heap.objs.size ha1 (_ :: _ :: _ :: _ :: Led0 aY aP aF aN s₁.heap.objs.size _ _ _ _ _ _ _ _ _ (tups ++ own)) from Na1)
  have hr1 : h18.objs.size < r1 := la1 (_, oI) (.tail _ (.tail _ (.tail _ (led0_sub _ (List.mem_append_right _ hI)))))
  clear Na1 la1
  have hs1 := hvL.sides
  rw [due_hues] at hs1
  refine ⟨?_⟩
  show wpAny _ _ (call (.ref 44) [.ref aL, .ref r1] [(Str.ofString "key", .ref 113)]) _ _ _
  refine ir_spec (i := hueI ((one : Int), (i : Int), (1 : Int))) (is := K.map hueI) ⟨rfl, rfl, rfl, rfl, ⟨_, by k_asm⟩, by k_asm, ⟨_, _, _, _, _, by k_asm⟩, Nat.le_of_ble_eq_true rfl, Nat.le_of_ble_eq_true rfl⟩ (by k_asm) Nb1 (led0_ne mm ?_) (led0_sub _ (.head _)) (hs1.mono fun p hp => led0_sub _ (.tail _ (.tail _ (List.mem_append_left _ hp)))) (by rw [List.length_map]; (first | assumption | lia | omega)) (hues_sorted hab.ord hab.ok) ?_
  · intro q hq
    rcases List.mem_cons.mp hq with rfl | hq
    · exact Nat.lt_trans haL6 hr1
    rcases List.mem_cons.mp hq with rfl | hq
    · exact Nat.lt_trans haL6 hD9
    exact ht0 q hq
  intro p1 hb1 tkb1 hp1 Fb1 Nc1
  clear Nb1
  have hd1 := Stop.mk (dues_at (sh := sh) (e := ((one : Int), (i : Int), (1 : Int))) Nc1 zb1 zc1 hvL p1)
  dsimp only
  k_steps
  refine ⟨told2 (h₀ := s₁.heap) (spot := one) (turn := ((x.fdiv 2048).fmod 5).toNat) (number := numOf sh ((one : Int), (i : Int), (0 : Int))) rfl (by (first | assumption | lia | omega)) (num0 _ _ _) ⟨rfl, rfl, rfl, rfl, ⟨_, by k_asm⟩, by k_asm, ⟨_, _, _, _, _, by k_asm⟩, Nat.le_of_ble_eq_true rfl, Nat.le_of_ble_eq_true rfl⟩ (by k_asm) (by k_asm) hone16 (by (first | assumption | lia | omega)) (num_lt _ _) ?_⟩
  intro r2 ta2 tb2 tc2 ha2 tka2 zb2 zc2 la2 Fa2 Na2
  dsimp only
  k_steps
  have Nb2 := sort2 (show News s₁.heap s₁.heap.objs.size ha2 (_ :: _ :: Led0 aY aP aF aN s₁.heap.objs.size _ _ _ _ _ _ _ _ _ (_ :: _ :: (tups ++ own))) from Na2)
  have hr2 : h18.objs.size < r2 := la2 (_, oI) (.tail _ (led0_sub _ (.tail _ (.tail _ (List.mem_append_right _ hI)))))
  clear Na2 la2
  have hs2 := hd1.out.sides
  rw [due_hues] at hs2
  refine ⟨?_⟩
  show wpAny _ _ (call (.ref 62) [.ref aL, .ref r2] [(Str.ofString "key", .ref 113)]) _ _ _
  refine il_spec (i := hueI ((one : Int), (i : Int), (0 : Int))) (is := (ins K p1 ((one : Int), (i : Int), (1 : Int))).map hueI) ⟨rfl, rfl, rfl, rfl, ⟨_, by k_asm⟩, by k_asm, ⟨_, _, _, _, _, by k_asm⟩, Nat.le_of_ble_eq_true rfl, Nat.le_of_ble_eq_true rfl⟩ (by k_asm) Nb2 (led0_ne mm ?_) (led0_sub _ (.head _)) (hs2.mono fun p hp => led0_sub _ (.tail _ (skip9 (H := [_]) p hp))) (by rw [List.length_map, ins_len]; (first | assumption | lia | omega)) (hues_sorted (hab.o1 hone hother hp1).1 (hab.o1 hone hother hp1).2) ?_
  · intro q hq
    rcases List.mem_cons.mp hq with rfl | hq
    · exact Nat.lt_trans haL6 hr2
    rcases List.mem_cons.mp hq with rfl | hq
    · exact Nat.lt_trans haL6 hr1
    rcases List.mem_cons.mp hq with rfl | hq
    · exact Nat.lt_trans haL6 hD9
    exact ht0 q hq
  intro p2 hb2 tkb2 hp2 Fb2 Nc2
  clear Nb2
  have hd2 := Stop.mk (dues_at (sh := sh) (e := ((one : Int), (i : Int), (0 : Int))) Nc2 zb2 zc2 hd1.out p2)
  dsimp only
  k_steps
  refine ⟨told2 (h₀ := s₁.heap) (spot := other) (turn := ((x.fdiv 2048).fmod 5).toNat) (number := numOf sh ((other : Int), (i : Int), (0 : Int))) rfl (by (first | assumption | lia | omega)) (num0 _ _ _) ⟨rfl, rfl, rfl, rfl, ⟨_, by k_asm⟩, by k_asm, ⟨_, _, _, _, _, by k_asm⟩, Nat.le_of_ble_eq_true rfl, Nat.le_of_ble_eq_true rfl⟩ (by k_asm) (by k_asm) hoth16 (by (first | assumption | lia | omega)) (num_lt _ _) ?_⟩
  intro r3 ta3 tb3 tc3 ha3 tka3 zb3 zc3 la3 Fa3 Na3
  dsimp only
  k_steps
  have Nb3 := sort2 (show News s₁.heap s₁.heap.objs.size ha3 (_ :: _ :: Led0 aY aP aF aN s₁.heap.objs.size _ _ _ _ _ _ _ _ _ (_ :: _ :: _ :: (tups ++ own))) from Na3)
  have hr3 : h18.objs.size < r3 := la3 (_, oI) (.tail _ (led0_sub _ (.tail _ (.tail _ (.tail _ (List.mem_append_right _ hI))))))
  clear Na3 la3
  have hs3 := hd2.out.sides
  rw [due_hues] at hs3
  refine ⟨?_⟩
  show wpAny _ _ (call (.ref 62) [.ref aL, .ref r3] [(Str.ofString "key", .ref 113)]) _ _ _
  refine il_spec (i := hueI ((other : Int), (i : Int), (0 : Int))) (is := (ins (ins K p1 ((one : Int), (i : Int), (1 : Int))) p2 ((one : Int), (i : Int), (0 : Int))).map hueI) ⟨rfl, rfl, rfl, rfl, ⟨_, by k_asm⟩, by k_asm, ⟨_, _, _, _, _, by k_asm⟩, Nat.le_of_ble_eq_true rfl, Nat.le_of_ble_eq_true rfl⟩ (by k_asm) Nb3 (led0_ne mm ?_) (led0_sub _ (.head _)) (hs3.mono fun p hp => led0_sub _ (.tail _ (skip9 (H := [_, _]) p hp))) (by rw [List.length_map, ins_len, ins_len]; (first | assumption | lia | omega)) (hues_sorted (hab.o2 hone hother hp1 hp2).1 (hab.o2 hone hother hp1 hp2).2) ?_
  · intro q hq
    rcases List.mem_cons.mp hq with rfl | hq
    · exact Nat.lt_trans haL6 hr3
    rcases List.mem_cons.mp hq with rfl | hq
    · exact Nat.lt_trans haL6 hr2
    rcases List.mem_cons.mp hq with rfl | hq
    · exact Nat.lt_trans haL6 hr1
    rcases List.mem_cons.mp hq with rfl | hq
    · exact Nat.lt_trans haL6 hD9
    exact ht0 q hq
  intro p3 hb3 tkb3 hp3 Fb3 Nc3
  clear Nb3
  have hd3 := Stop.mk (dues_at (sh := sh) (e := ((other : Int), (i : Int), (0 : Int))) Nc3 zb3 zc3 hd2.out p3)
  dsimp only
  k_steps
  refine ⟨told2 (h₀ := s₁.heap) (spot := other) (turn := ((x.fdiv 2048).fmod 5).toNat) (number := numOf sh ((other : Int), (i : Int), (1 : Int))) rfl (by (first | assumption | lia | omega)) (num1 _ _ _) ⟨rfl, rfl, rfl, rfl, ⟨_, by k_asm⟩, by k_asm, ⟨_, _, _, _, _, by k_asm⟩, Nat.le_of_ble_eq_true rfl, Nat.le_of_ble_eq_true rfl⟩ (by k_asm) (by k_asm) hoth16 (by (first | assumption | lia | omega)) (num_lt _ _) ?_⟩
  intro r4 ta4 tb4 tc4 ha4 tka4 zb4 zc4 la4 Fa4 Na4
  dsimp only
  k_steps
  have Nb4 := sort2 (show News s₁.heap s₁.heap.objs.size ha4 (_ :: _ :: Led0 aY aP aF aN s₁.heap.objs.size _ _ _ _ _ _ _ _ _ (_ :: _ :: _ :: _ :: (tups ++ own))) from Na4)
  have hr4 : h18.objs.size < r4 := la4 (_, oI) (.tail _ (led0_sub _ (.tail _ (.tail _ (.tail _ (.tail _ (List.mem_append_right _ hI)))))))
  clear Na4 la4
  have hs4 := hd3.out.sides
  rw [due_hues] at hs4
  refine ⟨?_⟩
  show wpAny _ _ (call (.ref 44) [.ref aL, .ref r4] [(Str.ofString "key", .ref 113)]) _ _ _
  refine ir_spec (i := hueI ((other : Int), (i : Int), (1 : Int))) (is := (ins (ins (ins K p1 ((one : Int), (i : Int), (1 : Int))) p2 ((one : Int), (i : Int), (0 : Int))) p3 ((other : Int), (i : Int), (0 : Int))).map hueI) ⟨rfl, rfl, rfl, rfl, ⟨_, by k_asm⟩, by k_asm, ⟨_, _, _, _, _, by k_asm⟩, Nat.le_of_ble_eq_true rfl, Nat.le_of_ble_eq_true rfl⟩ (by k_asm) Nb4 (led0_ne mm ?_) (led0_sub _ (.head _)) (hs4.mono fun p hp => led0_sub _ (.tail _ (skip9 (H := [_, _, _]) p hp))) (by rw [List.length_map, ins_len, ins_len, ins_len]; (first | assumption | lia | omega)) (hues_sorted (hab.o3 hone hother hp1 hp2 hp3).1 (hab.o3 hone hother hp1 hp2 hp3).2) ?_
  · intro q hq
    rcases List.mem_cons.mp hq with rfl | hq
    · exact Nat.lt_trans haL6 hr4
    rcases List.mem_cons.mp hq with rfl | hq
    · exact Nat.lt_trans haL6 hr3
    rcases List.mem_cons.mp hq with rfl | hq
    · exact Nat.lt_trans haL6 hr2
    rcases List.mem_cons.mp hq with rfl | hq
    · exact Nat.lt_trans haL6 hr1
    rcases List.mem_cons.mp hq with rfl | hq
    · exact Nat.lt_trans haL6 hD9
    exact ht0 q hq
  intro p4 hb4 tkb4 hp4 Fb4 Nc4
  clear Nb4
  have hd4 := Stop.mk (dues_at (sh := sh) (e := ((other : Int), (i : Int), (1 : Int))) Nc4 zb4 zc4 hd3.out p4)
  dsimp only
  k_steps
  have htI5 : ∀ p ∈ tups, h18.objs.size < p.1 := htI
  refine ⟨turn_end (by k_asm) Nc4 ((free.eraseIdx j1).eraseIdx j2) (ps ++ [(one, other)]) (is ++ [symF x]) (ins (ins (ins (ins K p1 ((one : Int), (i : Int), (1 : Int))) p2 ((one : Int), (i : Int), (0 : Int))) p3 ((other : Int), (i : Int), (0 : Int))) p4 ((other : Int), (i : Int), (1 : Int))) haL6 mm ?_ (by kst_same) ⟨hvF2, ?_, ksk_snoc hvY, is_next hix hxv his, ?_, hab.next hone hother rfl rfl rfl rfl hp1 hp2 hp3 hp4, ?_⟩⟩
  · exact htails hr4 hr3 hr2 hr1 hD9 htI
  · rw [List.map_append]; exact pairs_snoc (pairs_mono hvP fun p hp => .tail _ (.tail _ (.tail _ (.tail _ (.tail _ hp))))) (.tail _ (.tail _ (.tail _ (.tail _ (.head _)))))
  · exact hd4.out.mono fun p hp => skip0 (H := [_, _, _, _]) p hp
  · exact htails hr4 hr3 hr2 hr1 hD9 htI
theorem in1 : PP rv := by
  have q := in0
  unfold i vF nF free vP nP ps vY nY is vL nL K tups u h19 tk19 own h18 m0 ti oI tk18 at q
  exact q
end TX
namespace DX
noncomputable abbrev RV : Type := List Value × Nat × List Nat × List Value × Nat × List (Nat × Nat) × List Value × Nat × List Int × List Value × Nat × List Tri × List (Addr × Obj) × (Str → Option Value) × Heap × Nat × Heap × (Str → Option Value) × Nat
theorem ne : Nonempty RV := ⟨([], 0, [], [], 0, [], [], 0, [], [], 0, [], [], fun _ => none, default, 0, default, fun _ => none, 0)⟩
noncomputable def PP (v : RV) : Prop := tdIn.2.1 v.1 v.2.1 v.2.2.1 v.2.2.2.1 v.2.2.2.2.1 v.2.2.2.2.2.1 v.2.2.2.2.2.2.1 v.2.2.2.2.2.2.2.1 v.2.2.2.2.2.2.2.2.1 v.2.2.2.2.2.2.2.2.2.1 v.2.2.2.2.2.2.2.2.2.2.1 v.2.2.2.2.2.2.2.2.2.2.2.1 v.2.2.2.2.2.2.2.2.2.2.2.2.1 v.2.2.2.2.2.2.2.2.2.2.2.2.2.1 v.2.2.2.2.2.2.2.2.2.2.2.2.2.2.1 v.2.2.2.2.2.2.2.2.2.2.2.2.2.2.2.1 v.2.2.2.2.2.2.2.2.2.2.2.2.2.2.2.2.1 v.2.2.2.2.2.2.2.2.2.2.2.2.2.2.2.2.2.1 v.2.2.2.2.2.2.2.2.2.2.2.2.2.2.2.2.2.2
@[irreducible] noncomputable def rv : RV := @Classical.epsilon RV ne (fun v => ¬ PP v)
@[irreducible] noncomputable def vF : List Value := rv.1
@[irreducible] noncomputable def nF : Nat := rv.2.1
@[irreducible] noncomputable def free : List Nat := rv.2.2.1
@[irreducible] noncomputable def vP : List Value := rv.2.2.2.1
@[irreducible] noncomputable def nP : Nat := rv.2.2.2.2.1
@[irreducible] noncomputable def ps : List (Nat × Nat) := rv.2.2.2.2.2.1
@[irreducible] noncomputable def vY : List Value := rv.2.2.2.2.2.2.1
@[irreducible] noncomputable def nY : Nat := rv.2.2.2.2.2.2.2.1
@[irreducible] noncomputable def is : List Int := rv.2.2.2.2.2.2.2.2.1
@[irreducible] noncomputable def vL : List Value := rv.2.2.2.2.2.2.2.2.2.1
@[irreducible] noncomputable def nL : Nat := rv.2.2.2.2.2.2.2.2.2.2.1
@[irreducible] noncomputable def K : List Tri := rv.2.2.2.2.2.2.2.2.2.2.2.1
@[irreducible] noncomputable def tups : List (Addr × Obj) := rv.2.2.2.2.2.2.2.2.2.2.2.2.1
@[irreducible] noncomputable def u : Str → Option Value := rv.2.2.2.2.2.2.2.2.2.2.2.2.2.1
@[irreducible] noncomputable def h19 : Heap := rv.2.2.2.2.2.2.2.2.2.2.2.2.2.2.1
@[irreducible] noncomputable def tk19 : Nat := rv.2.2.2.2.2.2.2.2.2.2.2.2.2.2.2.1
@[irreducible] noncomputable def h18 : Heap := rv.2.2.2.2.2.2.2.2.2.2.2.2.2.2.2.2.1
@[irreducible] noncomputable def m0 : Str → Option Value := rv.2.2.2.2.2.2.2.2.2.2.2.2.2.2.2.2.2.1
@[irreducible] noncomputable def n : Nat := rv.2.2.2.2.2.2.2.2.2.2.2.2.2.2.2.2.2.2
set_option maxRecDepth 100000 in
set_option maxHeartbeats 8000000 in
theorem in0 : tdIn.2.1 vF nF free vP nP ps vY nY is vL nL K tups u h19 tk19 h18 m0 n := by
  unfold tdIn
  (try dsimp only)
  intro hAll1
  obtain ⟨KX, T, K0, hsh0, hsh1, dS, dH1, dP1, dY1, dL1, m1, m2, m3, lN, y0, y1, y2, y3, y4, y5, haYL, haPL, haFL, haL0, haL6, hg, hIN, hxt, hvF, hvP, hvY, his, hvL, hab, F7, N7, tu5, hL19, mm, hn, hnn, hvPl, hvP9, hisl, hpl⟩ := hAll1
  (try k_fold)
  k_steps
  refine ⟨?_⟩
  refine comp_eval_st rfl (by decide) rfl (by decide) ?_
  k_steps
  refine ⟨?_⟩
  rename_i hR8 F8 N8 _
  replace F8 : Fr s₁.heap s₁.heap.objs.size _ _ := F8
  replace N8 : News s₁.heap s₁.heap.objs.size _ _ := N8
  refine csrc_triple (ps := ps.map castP) (ok := fun A' => A' = callerA.deeper _) (Src.range (n := vP.length) hR8 (by (first | assumption | lia | omega))) (by (first | assumption | lia | omega)) (by (first | assumption | lia | omega)) rfl F8 N8 ?_ rfl rfl rfl rfl (by decide) (by decide) (by decide) ⟨?_, ?_, ?_, ?_, fun _ _ => rfl, fun _ _ => rfl⟩ ?_
  · intro b e
    cases e
    exact Nat.ne_of_gt hL19
  · intro A' hA'
    subst hA'
    exact ⟨rfl, rfl⟩
  · intro A' C i t m' s Q E hA' hi hN hm F N hQ
    subst hA'
    have hcP : s.heap.IsCell (s₁.heap.objs.size + 1 + 1) (some (.ref aP)) := ⟨_, (N (s₁.heap.objs.size + 1 + 1, oP1) (by k_mem)).1, dP1⟩
    k_steps
    exact hQ _ _ _ (by k_mem)
  · intro A' C s Q E hA' F hQ
    subst hA'
    have N0 : News s₁.heap s₁.heap.objs.size s.heap [] := fun p hp => nomatch hp
    k_steps
    exact hQ _ _ _ _ _ _ (by assumption) (by assumption)
  · intro A' C va vb vc m' s Q E hA' hN h1 h2 h3 hQ
    subst hA'
    have mk3 : Mk3 := ⟨trivial⟩
    k_steps
    refine ⟨?_⟩
    exact new_tup3 hQ
  · intro D C ys nw m' h tk hT F' hns' N' hoff hD' hCL hC0
    refine comp_done F' hns' N' hoff hCL hC0 ?_
    intro h20 F20 N20
    obtain ⟨T3, hT3, hT3m⟩ := trips_own hT
    have N21 : News s₁.heap s₁.heap.objs.size h20 ((D, lisO ys ys.length) :: (aL, lisO vL nL) :: (aY, lisO vY nY) :: (aP, lisO vP nP) :: (aF, lisO vF nF) :: (aN, lisO vN 0) :: (s₁.heap.objs.size + 1 + 1 + 1 + 1 + 1, oS) :: (s₁.heap.objs.size + 1 + 1 + 1 + 1, oL1) :: (s₁.heap.objs.size + 1 + 1 + 1, oY1) :: (s₁.heap.objs.size + 1 + 1, oP1) :: (s₁.heap.objs.size + 1, oH1) :: (T3 ++ tups)) := news_sub N20 (mid_sub (H := [_, _, _, _, _, _, _, _, _, _]) fun p hp => (hT3m p hp).1)
    have tT : ∀ p ∈ T3, p.1 ≠ s₁.heap.objs.size + 1 + 1 + 1 + 1 + 1 := fun p hp => by
      obtain ⟨q1, l, q2⟩ := hT3m p hp
      exact tup_ne_cell N20 (c := s₁.heap.objs.size + 1 + 1 + 1 + 1 + 1) (o := oS) (.tail _ (List.mem_append_right _ (by k_mem))) dS (.tail _ q1) q2
    clear N20 N' hT hoff hD' hT3m
    dsimp only
    k_steps
    refine ⟨?_⟩
    have hT4 := hT3.mono (big := T3 ++ tups) fun p hp => List.mem_append_left _ hp
    have hfl := hT3.length
    rw [flat_len] at hfl
    obtain ⟨fk1, fk2, fk3⟩ := flat_K hab
    rw [hvPl] at hT4 hfl
    refine sorted_trips (by k_asm) N21 (.head _) (hT4.mono fun p hp => by k_mem) (by (first | assumption | lia | omega)) (by (first | assumption | lia | omega)) fk2 fk3 ?_
    intro D2 c2 h22 ys2 ts2 hT5 hm5 ho5 F22 N22 l22
    have hts : K = ts2 := (ord_uniq ho5 hab.ord fun x => (hm5 x).trans (fk1 x)).symm
    subst hts
    obtain ⟨T4, hT6, hT6m⟩ := trips_own hT5
    have N23 : News s₁.heap s₁.heap.objs.size h22 ((D2, lisO ys2 c2) :: (aL, lisO vL nL) :: (aY, lisO vY nY) :: (aP, lisO vP nP) :: (aF, lisO vF nF) :: (aN, lisO vN 0) :: (s₁.heap.objs.size + 1 + 1 + 1 + 1 + 1, oS) :: (s₁.heap.objs.size + 1 + 1 + 1 + 1, oL1) :: (s₁.heap.objs.size + 1 + 1 + 1, oY1) :: (s₁.heap.objs.size + 1 + 1, oP1) :: (s₁.heap.objs.size + 1, oH1) :: (T4 ++ tups)) := news_sub N22 (mid_sub2 (x := (D2, _)) (H := [_, _, _, _, _, _, _, _, _, _]) fun p hp => (hT6m p hp).1)
    have tT4 : ∀ p ∈ T4, p.1 ≠ s₁.heap.objs.size + 1 + 1 + 1 + 1 + 1 := fun p hp => by
      obtain ⟨q1, l, q2⟩ := hT6m p hp
      exact tup_ne_cell N22 (c := s₁.heap.objs.size + 1 + 1 + 1 + 1 + 1) (o := oS) (by k_mem) dS (.tail _ q1) q2
    have hD5 : s₁.heap.objs.size + 1 + 1 + 1 + 1 + 1 < D2 := ltN (l22 (s₁.heap.objs.size + 1 + 1 + 1 + 1 + 1, oS) (by k_mem))
    have hT7 := hT6.mono (big := T4 ++ tups) fun p hp => List.mem_append_left _ hp
    have hvL7 := hvL.mono (big := T4 ++ tups) fun p hp => List.mem_append_right _ hp
    have hvP7 := pairs_mono hvP (big := T4 ++ tups) fun p hp => List.mem_append_right _ hp
    have t5 : ∀ p ∈ T4 ++ tups, p.1 ≠ s₁.heap.objs.size + 1 + 1 + 1 + 1 + 1 := fun p hp => (List.mem_append.mp hp).elim (tT4 p) (tu5 p)
    generalize T4 ++ tups = tl at *
    clear N22 N21 hT5 hT6 hT6m tT4 tu5 hvP hvL hT3 hT4 tT fk2 fk3 l22 F20
    dsimp only
    k_steps
    refine ⟨?_⟩
    rename_i h24 oS2 F24 N24 dS2
    have hKl : K.length = 4 * n := hab.klen
    have hyl : ys2.length = K.length := hT7.length
    refine comp_eval_st rfl (by decide) rfl (by decide) ?_
    k_steps
    refine ⟨?_⟩
    refine csrc_tup3 (list_at N24 (show (D2, _) ∈ _ by k_mem)) (by (first | assumption | lia | omega)) rfl F24 N24 (N24 (D2, _) (.head _)).2.1 rfl rfl rfl rfl (fun i v hv => ?_) (fun i ys nx => Dues nx ys ((K.take i).map (dueOf sh))) .nil ?_ ?_
    · have hi : i < K.length := by rw [← hyl]; exact (List.getElem?_eq_some_iff.mp hv).1
      obtain ⟨r, t, u, v', e1, e2⟩ := hT7.get i hi
      rw [hv] at e1
      exact ⟨r, _, _, _, Option.some.inj e1, by k_mem⟩
    · intro I D3 C3 i r x y z ys3 nx nm h25 tk25 own oC E' hv hm hP hlen hsub hown hI hoff hoC F25 N25
      have hi : i < K.length := by rw [← hyl]; exact (List.getElem?_eq_some_iff.mp hv).1
      obtain ⟨r', t', u', v', e1, e2⟩ := hT7.get i hi
      rw [hv] at e1
      cases e1
      have hnx : ∀ p ∈ nx, p ∈ (C3, oC) :: (D3, lisO ys3 ys3.length) :: (nx ++ own) := fun p hp => .tail _ (.tail _ (List.mem_append_left _ hp))
      obtain ⟨rfl, rfl, rfl⟩ := news_tup N25 (hnx _ (hsub _ hm)) (hnx _ (hsub _ (List.mem_append_right [_, _, _, _, _, _, _, _, _, _, _] e2)))
      have hKi : K[i]? = some (K[i]?.getD (0, 0, 0)) := by rw [List.getElem?_eq_getElem hi]; rfl
      generalize he : K[i]?.getD (0, 0, 0) = e at *
      have hok := hab.ok e (List.mem_of_getElem? hKi)
      unfold tests1
      refine wpAny_tests_nil ?_
      rw [if_pos rfl]
      have hns := hoC.ns (N25 (C3, oC) (.head _)).1
      obtain ⟨mC, hmC⟩ : ∃ mC : Str → Option Value, mC = fun q => if q = Str.ofString "side" then some (.int e.2.2 v') else if q = Str.ofString "tie" then some (.int e.2.1 u') else if q = Str.ofString "spot" then some (.int e.1 t') else nm q := ⟨_, rfl⟩
      have hC1 : mC (Str.ofString "spot") = some (.int e.1 t') := by rw [hmC]; rfl
      have hC2 : mC (Str.ofString "tie") = some (.int e.2.1 u') := by rw [hmC]; rfl
      have hC3 : mC (Str.ofString "side") = some (.int e.2.2 v') := by rw [hmC]; rfl
      replace hns : h25.Ns C3 mC := by rw [hmC]; exact hns
      clear hmC
      have hcS : h25.IsCell (s₁.heap.objs.size + 1) _ := ⟨_, (N25 (s₁.heap.objs.size + 1, oH1) (hnx _ (hsub _ (by k_mem)))).1, dH1⟩
      k_steps
      have hsp := Int.toNat_of_nonneg hok.1
      refine ⟨due2 (h₀ := s₁.heap) (spot := e.1.toNat) (number := numOf sh e) hsp.symm (Int.toNat_of_nonneg (fmod_bd (by decide)).1).symm ⟨rfl, rfl, rfl, rfl, ⟨_, by k_asm⟩, by k_asm, ⟨_, _, _, _, _, by k_asm⟩, Nat.le_of_ble_eq_true rfl, Nat.le_of_ble_eq_true rfl⟩ (by k_asm) N25 (by have := hok.2.1; (first | assumption | lia | omega)) (num_lt _ _) ?_⟩
      intro a t1 t2 t3 h28 tk28 z2 z3 la F28 N28
      obtain ⟨oI, hoI⟩ := hI
      refine ⟨h28, tk28, _, (a, lisO [.int (hueI e) t1, .float (lightN (numOf sh e)) t2, .float (shareN (numOf sh e)) t3] 0) :: nx, rfl, F28, N28, .tail _ (.head _), .tail _ (.tail _ (.head _)), fun p hp => .tail _ (.tail _ (.tail _ (List.mem_append_right _ hp))), fun p hp => ?_, fun p hp => .tail _ (hsub p hp), fun p hp => ?_, ?_⟩
      · rcases List.mem_cons.mp hp with rfl | hp
        · exact .head _
        · exact .tail _ (hnx p hp)
      · rcases List.mem_cons.mp hp with rfl | hp
        · exact ⟨Nat.ne_of_gt (la (I, oI) (.tail _ (.tail _ (List.mem_append_right _ hoI)))), Nat.ne_of_gt (la (C3, oC) (.head _)), Nat.ne_of_gt (la (D3, _) (.tail _ (.head _)))⟩
        · exact hoff p hp
      · rw [List.take_add_one, hKi, List.map_append]
        exact (hP.mono fun p hp => .tail _ hp).snoc (.head _) z2 z3
    · intro D3 C3 ys3 nx m' h26 tk26 hP hsub F26 hns N26 hoff hD hCL hC0
      refine comp_done F26 hns N26 hoff hCL hC0 ?_
      intro h27 F27 N27
      dsimp only
      k_steps
      refine ⟨?_⟩
      rw [hyl, List.take_of_length_le (Nat.le_refl _)] at hP
      refine ne_dues (booked_kept (none_booked KX) fun b o e => F27.keep b o e) N27 (.tail _ (hsub _ (by k_mem))) (.head _) (hvL7.mono fun p hp => .tail _ (hsub _ (List.mem_append_right [_, _, _, _, _, _, _, _, _, _, _] hp))) (hP.mono fun p hp => .tail _ hp) (dues_nan sh K) (Nat.le_of_ble_eq_true rfl) (Nat.le_of_ble_eq_true rfl) ?_
      have N29 := news_sub N27 (fun p hp => .tail _ (hsub p hp))
      clear N27 hP N26 F26 hoff hD hsub hns N24 F24
      (try dsimp only)
      k_steps
      refine ⟨?_⟩
      refine comp_assign_st rfl rfl (by decide) rfl (by decide) ?_
      k_steps
      refine ⟨?_⟩
      rename_i F29 N29 _ _ _ _ _ hR9 F30 N30 _
      refine csrc_name (Src.range (n := ys2.length) hR9 (by (first | assumption | lia | omega))) (by (first | assumption | lia | omega)) rfl F30 N30 (fun b e => by cases e; exact Nat.ne_of_gt F29.ns.lt) rfl rfl (fun i ys _ => IntsAre ys ((rangeI i).filter fun p => isReal is (K[p.toNat]?.getD (0, 0, 0)))) .nil ?_ ?_
      · intro I D4 C4 i v ys4 nx4 nm4 h31 tk31 own oC E' hi hv hP hlen hsub hown hI hoff hoC F31 N31
        obtain ⟨_, ti, rfl⟩ := hv
        rw [hyl] at hi
        have hKi : K[((i : Nat) : Int).toNat]? = some (K[((i : Nat) : Int).toNat]?.getD (0, 0, 0)) := by rw [Int.toNat_natCast, List.getElem?_eq_getElem hi]; rfl
        have hok := hab.ok _ (List.mem_of_getElem? hKi)
        have htb := tie_lt hab (List.mem_of_getElem? hKi)
        rw [← hisl] at htb
        have hok1 := hok.2.2.1
        unfold tests1
        refine wpAny_tests_one ?_
        have hns := hoC.ns (N31 (C4, oC) (.head _)).1
        obtain ⟨mC, hmC⟩ : ∃ mC : Str → Option Value, mC = fun q => if q = Str.ofString "place" then some (.int ((i : Nat) : Int) ti) else nm4 q := ⟨_, rfl⟩
        have hC1 : mC (Str.ofString "place") = some (.int ((i : Nat) : Int) ti) := by rw [hmC]; rfl
        replace hns : h31.Ns C4 mC := by rw [hmC]; exact hns
        have hNo : NsObj oC mC := by rw [hmC]; exact hoC
        clear hmC
        have hm1 : (D2, lisO ys2 c2) ∈ nx4 := hsub _ (by k_mem)
        have hm2 : (aY, lisO vY nY) ∈ nx4 := hsub _ (by k_mem)
        have hT8 := hT7.mono (big := nx4) fun p hp => hsub _ (List.mem_append_right [_, _, _, _, _, _, _, _, _, _, _] hp)
        have hnx : ∀ p ∈ nx4, p ∈ (C4, oC) :: (D4, lisO ys4 ys4.length) :: (nx4 ++ own) := fun p hp => .tail _ (.tail _ (List.mem_append_left _ hp))
        have hcY : h31.IsCell (s₁.heap.objs.size + 1 + 1 + 1) _ := ⟨_, (N31 (s₁.heap.objs.size + 1 + 1 + 1, oY1) (hnx _ (hsub _ (by k_mem)))).1, dY1⟩
        have hcD : h31.IsCell (s₁.heap.objs.size + 1 + 1 + 1 + 1 + 1) _ := ⟨_, (N31 (s₁.heap.objs.size + 1 + 1 + 1 + 1 + 1, oS2) (hnx _ (hsub _ (by k_mem)))).1, dS2⟩
        clear hT7 F30 N30 N29 F29
        k_steps
        refine ⟨eof_spec ⟨rfl, rfl, rfl, rfl, ⟨_, by k_asm⟩, by k_asm, ⟨_, _, _, _, _, by k_asm⟩, Nat.le_of_ble_eq_true rfl, Nat.le_of_ble_eq_true rfl⟩ (by k_asm) N31 ?_⟩
        intro h34 tk34 F34 N34
        have hns2 := hNo.ns (N34 (C4, oC) (.head _)).1
        (try dsimp only)
        have hre : isReal is (K[((i : Nat) : Int).toNat]?.getD (0, 0, 0)) = !(is[(K[((i : Nat) : Int).toNat]?.getD (0, 0, 0)).2.1.toNat]?.getD 0 == 0) := rfl
        k_steps
        · rename_i hx
          exact ⟨h34, tk34, _, nx4, rfl, F34, N34, .head _, .tail _ (.head _), fun p hp => .tail _ (.tail _ (List.mem_append_right _ hp)), fun p hp => hnx p hp, hsub, hoff, ints_leave hP (by show isReal _ _ = false; rw [hre]; simpa using hx)⟩
        · rename_i hx
          exact ⟨h34, tk34, _, nx4, rfl, F34, N34, .head _, .tail _ (.head _), fun p hp => .tail _ (.tail _ (List.mem_append_right _ hp)), fun p hp => hnx p hp, hsub, hoff, ints_pick hP (by show isReal _ _ = true; rw [hre]; simpa using hx)⟩
      · intro D4 C4 ys4 nx4 m4 h32 tk32 hP hsub F32 hns N32 hoff hD hCL4 hC04
        refine comp_done_ass2 (L := s₁.heap.objs.size) (by rfl) (by rfl) (by rfl) (by exact F32) (by exact hns) (by exact N32) (by exact hoff) (by exact hCL4) (by exact hC04) ?_
        intro h33 tk33 F33 N33
        have N35 : News s₁.heap s₁.heap.objs.size h33 ((D4, lisO ys4 ys4.length) :: (D2, lisO ys2 c2) :: (aL, lisO vL nL) :: (aY, lisO vY nY) :: (aP, lisO vP nP) :: (aF, lisO vF nF) :: (aN, lisO vN 0) :: (s₁.heap.objs.size + 1 + 1 + 1 + 1 + 1, oS2) :: (s₁.heap.objs.size + 1 + 1 + 1 + 1, oL1) :: (s₁.heap.objs.size + 1 + 1 + 1, oY1) :: (s₁.heap.objs.size + 1 + 1, oP1) :: (s₁.heap.objs.size + 1, oH1) :: tl) := news_sub N33 fun p hp => by
          rcases List.mem_cons.mp hp with rfl | hp
          · exact .head _
          · exact .tail _ (hsub p hp)
        clear N33 N32 F32 hsub hns hoff hD F29 N29 F30 N30
        rw [hyl] at hP
        have hE2 := pick_map K (0, 0, 0) (isReal is)
        have hE1 : ∀ p ∈ (rangeI K.length).filter (fun p => isReal is (K[p.toNat]?.getD (0, 0, 0))), 0 ≤ p ∧ p < (K.length : Int) := fun p hp => mem_rangeI.mp (List.mem_filter.mp hp).1
        generalize hEv : (rangeI K.length).filter (fun p => isReal is (K[p.toNat]?.getD (0, 0, 0))) = ends at *
        have hEl : ends.length ≤ K.length := by
          have := congrArg List.length hE2
          rw [List.length_map] at this
          rw [this]
          exact List.length_filter_le _ _
        have hyl4 := hP.length
        have hdl : (K.map (dueOf sh)).length = K.length := List.length_map _
        (try dsimp only)
        k_steps
        refine ⟨?_⟩
        obtain ⟨fH, hfH⟩ : ∃ fH : Int → Int, fH = fun p => ((K.map (dueOf sh))[p.toNat]?.getD (0, 0, 0)).1 := ⟨_, rfl⟩
        refine comp_evalI (fun _ => true) fH rfl rfl (by decide) rfl (by decide) rfl ?_
        k_steps
        refine ⟨⟨_, _, _, _, _, F33, N35, .list (list_at N35 (show (D4, _) ∈ _ by k_mem)) hP (by (first | assumption | lia | omega)), ⟨?_, ?_⟩, ?_⟩⟩
        · intro C i t s₃ m₃ E' hi hN hm hk
          exact wpAny_tests_nil ⟨rfl, keeps_refl _⟩
        · intro C i t s₃ m₃ E' hi hq hN hm hk
          obtain ⟨hi1, hi2⟩ := hE1 i hi
          have N38 := news_kept N35 hk
          have F38 := fr_kept F33 hk
          have hcL : s₃.heap.IsCell (s₁.heap.objs.size + 1 + 1 + 1 + 1) _ := ⟨_, (N38 (s₁.heap.objs.size + 1 + 1 + 1 + 1, oL1) (by k_mem)).1, dL1⟩
          clear N35 F33
          have mk2 : Mk2 := ⟨trivial⟩
          k_steps
          refine ⟨?_⟩
          refine due_at N38 (by k_mem) hvL7 hi1 (by (first | assumption | lia | omega)) (by (first | assumption | lia | omega)) ?_
          intro r' t' its' n' hm'
          have hm2 : (r', lisO (.int (fH i) t' :: its') n') ∈ tl := by rw [hfH]; exact hm'
          clear hm' hfH hvL7
          (try dsimp only)
          k_steps
          exact keeps_refl _
        · intro D5 h40 tk40 ys5 nn5 hD5' hI5 F40 N40 _
          (try dsimp only)
          k_steps
          refine ⟨?_⟩
          refine comp_eval_st rfl (by decide) rfl (by decide) ?_
          k_steps
          refine ⟨?_⟩
          refine csrc_name (Src.list (list_at N40 (show (D4, _) ∈ _ by k_mem))) (by (first | assumption | lia | omega)) rfl F40 N40 (fun b e => by cases e; exact (N40 (D4, _) (by k_mem)).2.1) rfl rfl (fun i ys nx => Pairs nx ys ((ends.take i).map fun p => ((K[p.toNat]?.getD (0, 0, 0)).2.1, (K[p.toNat]?.getD (0, 0, 0)).2.2))) .nil ?_ ?_
          · intro I D6 C6 i v ys6 nx6 nm6 h41 tk41 own oC E' hi hv hPP hlen hsub hown hI hoff hoC F41 N41
            have hi6 : i < ends.length := by rw [← hyl4]; exact hi
            obtain ⟨ti, hti⟩ := hP.get i (ends[i]?.getD 0) (by simp [hi6])
            rw [hti] at hv
            cases hv
            have hpm : ends[i]?.getD 0 ∈ ends := by simp [hi6]
            obtain ⟨hp1, hp2⟩ := hE1 _ hpm
            have hei : ends[i]? = some (ends[i]?.getD 0) := by rw [List.getElem?_eq_getElem hi6]; rfl
            generalize hpv : ends[i]?.getD 0 = p at *
            unfold tests1
            refine wpAny_tests_nil ?_
            rw [if_pos rfl]
            have hns := hoC.ns (N41 (C6, oC) (.head _)).1
            obtain ⟨mC, hmC⟩ : ∃ mC : Str → Option Value, mC = fun q => if q = Str.ofString "place" then some (.int p ti) else nm6 q := ⟨_, rfl⟩
            have hC1 : mC (Str.ofString "place") = some (.int p ti) := by rw [hmC]; rfl
            replace hns : h41.Ns C6 mC := by rw [hmC]; exact hns
            clear hmC
            have hm1 : (D2, lisO ys2 c2) ∈ nx6 := hsub _ (by k_mem)
            have hT8 := hT7.mono (big := nx6) fun p hp => hsub _ (List.mem_append_right [_, _, _, _, _, _, _, _, _, _, _, _, _] hp)
            have hnx : ∀ p ∈ nx6, p ∈ (C6, oC) :: (D6, lisO ys6 ys6.length) :: (nx6 ++ own) := fun p hp => .tail _ (.tail _ (List.mem_append_left _ hp))
            have hcD : h41.IsCell (s₁.heap.objs.size + 1 + 1 + 1 + 1 + 1) _ := ⟨_, (N41 (s₁.heap.objs.size + 1 + 1 + 1 + 1 + 1, oS2) (hnx _ (hsub _ (by k_mem)))).1, dS2⟩
            clear hT7 F40 N40 hvL7 hfH
            k_steps
            refine ⟨?_⟩
            rename_i r' t' u' v' hm'
            refine kba_turn (value' := PySem.Expr.Name (PySem.Str.ofString "_") ⟨0, 0, 0, 0⟩) (fun _ => rfl) ?_
            refine slice_tuple_from (s := ⟨_, _, _, _, _⟩) F41 N41 (tup_at N41 (hnx _ hm')) (Nat.le_refl 1) (Nat.le_of_ble_eq_true rfl) ?_
            intro h44 F44 N44
            replace N44 : News s₁.heap s₁.heap.objs.size h44 ((h41.objs.size + 1, tupO [.int (K[p.toNat]?.getD (0, 0, 0)).2.1 u', .int (K[p.toNat]?.getD (0, 0, 0)).2.2 v']) :: (C6, oC) :: (D6, lisO ys6 ys6.length) :: (nx6 ++ own)) := N44
            have la : ∀ q ∈ (C6, oC) :: (D6, lisO ys6 ys6.length) :: (nx6 ++ own), q.1 < h41.objs.size + 1 := fun q hq => Nat.lt_succ_of_lt (Heap.lt_size (N41 q hq).1)
            obtain ⟨oI, hoI⟩ := hI
            refine ⟨h44, _, _, (h41.objs.size + 1, tupO [.int (K[p.toNat]?.getD (0, 0, 0)).2.1 u', .int (K[p.toNat]?.getD (0, 0, 0)).2.2 v']) :: nx6, rfl, F44, N44, .tail _ (.head _), .tail _ (.tail _ (.head _)), fun p hp => .tail _ (.tail _ (.tail _ (List.mem_append_right _ hp))), fun p hp => ?_, fun p hp => .tail _ (hsub p hp), fun p hp => ?_, ?_⟩
            · rcases List.mem_cons.mp hp with rfl | hp
              · exact .head _
              · exact .tail _ (hnx p hp)
            · rcases List.mem_cons.mp hp with rfl | hp
              · exact ⟨Nat.ne_of_gt (la (I, oI) (.tail _ (.tail _ (List.mem_append_right _ hoI)))), Nat.ne_of_gt (la (C6, oC) (.head _)), Nat.ne_of_gt (la (D6, _) (.tail _ (.head _)))⟩
              · exact hoff p hp
            · rw [List.take_add_one, hei, List.map_append]
              exact pairs_snoc (pairs_mono hPP fun p hp => .tail _ hp) (.head _)
          · intro D6 C6 ys6 nx6 m6 h42 tk42 hPP hsub F42 hns N42 hoff hD hCL6 hC06
            refine comp_done F42 hns N42 hoff hCL6 hC06 ?_
            intro h43 F43 N43
            rw [hyl4, List.take_of_length_le (Nat.le_refl _), marks_eq hab hisl hE2] at hPP
            rw [hues_eq hab hisl hE2 hE1 hfH] at hI5
            have hmY1 : (s₁.heap.objs.size + 1 + 1 + 1, oY1) ∈ nx6 := hsub _ (by k_mem)
            have hmY2 : (aY, lisO vY nY) ∈ nx6 := hsub _ (by k_mem)
            have hmD5 : (D5, lisO ys5 nn5) ∈ nx6 := hsub _ (by k_mem)
            (try dsimp only)
            k_steps
            have hmP1 : (s₁.heap.objs.size + 1 + 1, oP1) ∈ nx6 := hsub _ (by k_mem)
            have hmP2 : (aP, lisO vP nP) ∈ nx6 := hsub _ (by k_mem)
            have hvP8 := pairs_mono hvP7 (big := (D6, lisO ys6 ys6.length) :: nx6) fun p hp => .tail _ (hsub _ (List.mem_append_right [_, _, _, _, _, _, _, _, _, _, _, _, _] hp))
            have hTi := ties_of hab hisl
            have hEp := ends_pos hTi (some_real hxt his)
            refine ⟨rims_here hab hisl hnn.2 hTi hEp ⟨rfl, rfl, rfl, rfl, ⟨_, by k_asm⟩, by k_asm, ⟨_, _, _, _, _, by k_asm⟩, Nat.le_of_ble_eq_true rfl, Nat.le_of_ble_eq_true rfl⟩ F43 N43 (.tail _ hmD5) (.head _) (.tail _ hmY2) hI5 (pairs_mono hPP fun p hp => .tail _ hp) hvY ?_⟩
            intro R tkR h45 tk45 hR F45 N45
            have hcnt := law_count hTi hEp hR
            have hR10 := rims_few hab hisl hnn.2 rfl hcnt
            generalize hcv : (mixF (ps.map castP) is (realF is)).count 0 = cnt at *
            clear F40 N40 F42 N42 F43 N43 hPP hI5 hP hT7 hvL7 hD5' hsub hE1 hE2 hm5 fk1 hR hTi hEp
            (try dsimp only)
            k_steps
            rename_i h47 F47 N47
            refine ⟨ch_spec (ps := ps.map castP) (is := is) ⟨rfl, rfl, rfl, rfl, ⟨_, by k_asm⟩, by k_asm, ⟨_, _, _, _, _, by k_asm⟩, Nat.le_of_ble_eq_true rfl, Nat.le_of_ble_eq_true rfl⟩ (by k_asm) N47 (.tail _ hmP2) (.tail _ hmY2) hvP8 hvY (by (first | assumption | lia | omega)) (by (first | assumption | lia | omega)) ?_⟩
            intro tkc h48 tk48 F48 N48
            rw [hcv]
            clear N47
            (try dsimp only)
            k_steps
theorem in1 : PP rv := by
  have q := in0
  unfold vF nF free vP nP ps vY nY is vL nL K tups u h19 tk19 h18 m0 n at q
  exact q
end DX
theorem in0 : lawIn.1 w s₀ s₁ mg mb fa a12 ns aN aF aP aY aL vN xs sh vF nF oS oH1 oP1 oY1 oL1 h17 tk m0 tH :=
  tdIn.2.2 (fun i vF nF free vP nP ps vY nY is vL nL K tups u h19 tk19 own h18 m0 ti oI tk18 => eps_all (P := TX.PP) (ne := TX.ne) (by have q := TX.in1; unfold TX.rv at q; exact q) (i, vF, nF, free, vP, nP, ps, vY, nY, is, vL, nL, K, tups, u, h19, tk19, own, h18, m0, ti, oI, tk18)) (fun vF nF free vP nP ps vY nY is vL nL K tups u h19 tk19 h18 m0 n => eps_all (P := DX.PP) (ne := DX.ne) (by have q := DX.in1; unfold DX.rv at q; exact q) (vF, nF, free, vP, nP, ps, vY, nY, is, vL, nL, K, tups, u, h19, tk19, h18, m0, n))
theorem in1 : PP rv := by
  have q := in0
  unfold w s₀ s₁ mg mb fa a12 ns aN aF aP aY aL vN xs sh vF nF oS oH1 oP1 oY1 oL1 h17 tk m0 tH at q
  exact q
end LX
theorem law_holds : PySem.Challenge.rw_rs0100_01.Holds :=
  lawIn.2 (fun w s₀ s₁ mg mb fa a12 ns aN aF aP aY aL vN xs sh vF nF oS oH1 oP1 oY1 oL1 h17 tk m0 tH => eps_all (P := LX.PP) (ne := LX.ne) (by have q := LX.in1; unfold LX.rv at q; exact q) (w, s₀, s₁, mg, mb, fa, a12, ns, aN, aF, aP, aY, aL, vN, xs, sh, vF, nF, oS, oH1, oP1, oY1, oL1, h17, tk, m0, tH))
end
end Mine
end
theorem PySem.Challenge.cw_rs0100_01_holds : PySem.Challenge.rw_rs0100_01.Holds :=
  Mine.law_holds

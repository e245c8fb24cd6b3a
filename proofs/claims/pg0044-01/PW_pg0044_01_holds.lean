import PyProof.Rows.All
import Wide.All
import OpenK.AllK
import Wide.FinOn
import PySem.Challenge.RW_pg0044_01
set_option Elab.async false
section
open PySem PySem.W PyProof.Rows
set_option maxRecDepth 100000
set_option maxHeartbeats 8000000
namespace Mine
open_top hd for PySem.Challenge.rw_pg0044_01
abbrev Led := List (Addr × Obj)
/-- a new tuple of three -/
abbrev tup3 (a b c : Value) : Obj := { cls := .type "tuple", data := .seq #[a, b, c] }
/-- what a call of a def does from any frame: it comes back with what R tells, the elder things as they were -/
def Does (w : World) (f : Addr) (vs : List Value) (news : Led) (deep : Nat) (R : Value → Led → Prop) : Prop :=
  ∀ (mean : ExcName → Option Value) (mg mb : Str → Option Value) (dp un : Nat) (gd : Option (List Code)) (cn : Str) (cs : Scope) (a : Addr) (ccd : Value) (cl : List (Str × Addr)) (outer : List Env) (A₀ : Around) (base h₀ : Heap) (L : Addr) (m : Str → Option Value) (s : Shared) (Q E : Value → Shared → Prop),
    Below A₀ base outer h₀ → Fr h₀ L s.heap m → (hd.heap_39 w.params).In h₀ → News h₀ L s.heap news → Top hd.view_39 (looseW hd.view_39 []) mean mg mb h₀ → cs.kind = .function → dp + deep < recursionLimit → un + 8 * deep < cLine →
    (∀ (r : Value) (tl : Led) (h' : Heap) (tk' : Nat), Fr h₀ L h' m → News h₀ L h' (tl ++ news) → (∀ p ∈ news, ∀ q ∈ tl, p.1 ≠ q.1) → R r tl → Q r { s with heap := h', toks := tk' }) →
    wpAny (model PySem.Challenge.rw_pg0044_01.row.prog w) (ktrTop dp un gd cn cs L a ccd cl outer) (call (.ref f) vs) Q E s
end Mine
end
section
open PySem PySem.W PyProof.Rows
set_option maxRecDepth 100000
set_option maxHeartbeats 8000000
namespace Mine
def hsvI (h : UInt64) : Int := Flt.toInt Float64.truncOf (Float64.mul h 4618441417868443648)
def hsvF (h : UInt64) : UInt64 := Float64.sub (Float64.mul h 4618441417868443648) (Float64.ofInt (hsvI h))
def hsvP (s v : UInt64) : UInt64 := Float64.mul v (Float64.sub 4607182418800017408 s)
def hsvQ (h s v : UInt64) : UInt64 := Float64.mul v (Float64.sub 4607182418800017408 (Float64.mul s (hsvF h)))
def hsvT (h s v : UInt64) : UInt64 := Float64.mul v (Float64.sub 4607182418800017408 (Float64.mul s (Float64.sub 4607182418800017408 (hsvF h))))
def hsvOk (h s : UInt64) : Bool := (Float64.cmp s 0 == some Ordering.eq) || (Float64.isFinite (Float64.mul h 4618441417868443648) && decide ((hsvI h).natAbs < 2 ^ 60))
def hsvR (h s v : UInt64) : UInt64 × UInt64 × UInt64 :=
  if (Float64.cmp s 0 == some Ordering.eq) = true then (v, v, v)
  else if (hsvI h).fmod 6 = 0 then (v, hsvT h s v, hsvP s v)
  else if (hsvI h).fmod 6 = 1 then (hsvQ h s v, v, hsvP s v)
  else if (hsvI h).fmod 6 = 2 then (hsvP s v, v, hsvT h s v)
  else if (hsvI h).fmod 6 = 3 then (hsvP s v, hsvQ h s v, v)
  else if (hsvI h).fmod 6 = 4 then (hsvT h s v, hsvP s v, v)
  else (v, hsvP s v, hsvQ h s v)
theorem isFinite_not_nan {x : UInt64} (h : Float64.isFinite x = true) (h' : Float64.isNaN x = true) : False := by
  unfold Float64.isFinite at h; unfold Float64.isNaN at h'; split at h <;> simp_all
theorem isFinite_not_inf {x : UInt64} (h : Float64.isFinite x = true) (h' : Float64.isInf x = true) : False := by
  unfold Float64.isFinite at h; unfold Float64.isInf at h'; split at h <;> simp_all
theorem hsv_fin {h s : UInt64} (hok : hsvOk h s = true) (h1 : (Float64.cmp s 0 == some Ordering.eq) = false) : Float64.isFinite (Float64.mul h 4618441417868443648) = true ∧ (hsvI h).natAbs < 2 ^ 60 := by
  unfold hsvOk at hok
  rw [h1, Bool.false_or, Bool.and_eq_true, decide_eq_true_eq] at hok
  exact hok
theorem hsv_small {h s : UInt64} (hok : hsvOk h s = true) (h1 : (Float64.cmp s 0 == some Ordering.eq) = false) (h2 : 2 ^ 1024 - 2 ^ 970 ≤ (Flt.toInt Float64.truncOf (Float64.mul h 4618441417868443648)).natAbs) : False := by
  have h3 := (hsv_fin hok h1).2
  unfold hsvI at h3
  have h4 : (2 ^ 60 : Nat) ≤ 2 ^ 1024 - 2 ^ 970 := by decide +kernel
  exact absurd h3 (Nat.not_lt.mpr (Nat.le_trans h4 h2))
theorem six_all {n : Int} (h0 : n.fmod 6 ≠ 0) (h1 : n.fmod 6 ≠ 1) (h2 : n.fmod 6 ≠ 2) (h3 : n.fmod 6 ≠ 3) (h4 : n.fmod 6 ≠ 4) (h5 : n.fmod 6 ≠ 5) : False := by
  rw [Int.fmod_eq_emod_of_nonneg n (by decide : (0:Int) ≤ 6)] at *
  omega
theorem ne_tt {b : Bool} (h : b = false) : ¬ b = true := by rw [h]; decide
theorem end3 {h₀ h' : Heap} {L D : Addr} {m : Str → Option Value} {s : Shared} {Q : Value → Shared → Prop} {news : Led} {tk' : Nat} {R : UInt64 × UInt64 × UInt64} {x y z : UInt64} {a b c : Tok}
    (hret : ∀ (r : Value) (tl : Led) (h' : Heap) (tk' : Nat), Fr h₀ L h' m → News h₀ L h' (tl ++ news) → (∀ p ∈ news, ∀ q ∈ tl, p.1 ≠ q.1) → (∃ D a b c, r = .ref D ∧ tl = [(D, tup3 (.float R.1 a) (.float R.2.1 b) (.float R.2.2 c))]) → Q r { s with heap := h', toks := tk' })
    (F : Fr h₀ L h' m) (N : News h₀ L h' ((D, tup3 (.float x a) (.float y b) (.float z c)) :: news)) (l : ∀ p ∈ news, p.1 < D) (e : R = (x, y, z)) : Q (.ref D) { s with heap := h', toks := tk' } := by
  subst e
  exact hret (.ref D) [(D, tup3 (.float x a) (.float y b) (.float z c))] h' tk' F N (fun p hp q hq => by rw [List.mem_singleton.mp hq]; exact Nat.ne_of_lt (l p hp)) ⟨D, a, b, c, rfl, rfl⟩
theorem hsv_does (w : World) (hh hs hv : UInt64) (t1 t2 t3 : Tok) (news : Led) (hok : hsvOk hh hs = true) :
    Does w 28 [.float hh t1, .float hs t2, .float hv t3] news 1 (fun r tl => ∃ D a b c, r = .ref D ∧ tl = [(D, tup3 (.float (hsvR hh hs hv).1 a) (.float (hsvR hh hs hv).2.1 b) (.float (hsvR hh hs hv).2.2 c))]) := by
  w_top off
  unfold Does
  k_fill
  intro mean mg mb dp un gd cn cs a ccd cl outer A₀ base h₀ L m s Q E B F X N T hk hd hu hret
  refine wpAny_call ?_
  k_dflt cell_enter
  k_steps
  all_goals first
    | (exfalso; exact isFinite_not_nan (hsv_fin hok (by assumption)).1 (by assumption))
    | (exfalso; exact isFinite_not_inf (hsv_fin hok (by assumption)).1 (by assumption))
    | (exfalso; exact hsv_small hok (by assumption) (by assumption))
    | (exfalso; exact six_all (by assumption) (by assumption) (by assumption) (by assumption) (by assumption) (by assumption))
    | (refine end3 hret (by assumption) (by assumption) (by assumption) ?_
       unfold hsvR
       repeat (first | rw [if_pos (by assumption)] | rw [if_neg (by assumption)] | rw [if_neg (ne_tt (by assumption))])
       try rfl)
end Mine
end
section
open PySem PySem.W PyProof.Rows
set_option maxRecDepth 100000
set_option maxHeartbeats 8000000
namespace Mine
open PySem.Flt
def fmax2 (x y : UInt64) : UInt64 := if (Float64.cmp x y == some .lt) = true then y else x
def fmin2 (x y : UInt64) : UInt64 := if (Float64.cmp y x == some .lt) = true then y else x
def pickMax (a b : Value) : Value := if ltV a b then b else a
def pickMin (a b : Value) : Value := if ltV b a then b else a
theorem pickMax_ff (x y : UInt64) (t u : Tok) : ∃ v, pickMax (.float x t) (.float y u) = .float (fmax2 x y) v := by
  unfold pickMax fmax2
  show ∃ v, (if (Float64.cmp x y == some .lt) = true then _ else _) = _
  split
  · exact ⟨_, rfl⟩
  · exact ⟨_, rfl⟩
theorem pickMin_ff (x y : UInt64) (t u : Tok) : ∃ v, pickMin (.float x t) (.float y u) = .float (fmin2 x y) v := by
  unfold pickMin fmin2
  show ∃ v, (if (Float64.cmp y x == some .lt) = true then _ else _) = _
  split
  · exact ⟨_, rfl⟩
  · exact ⟨_, rfl⟩
section
variable {prog : Program} {w : World} {A : Around} {E : Value → Shared → Prop} {s : Shared} {Q : Value → Shared → Prop} {a b c : Value}
theorem max_three_num (hh : A.handled = none) (ha : NumV a) (hb : NumV b) (hc : NumV c)
    (h : ∀ h' tk, (∀ d o, s.heap.get? d = some o → h'.get? d = some o) → Q (pickMax (pickMax a b) c) { s with heap := h', toks := tk }) :
    wpAny (model prog w) A (call (.builtin "max") [a, b, c]) Q E s := by
  have hT : (s.heap.push { cls := .type "tuple", data := .seq #[a, b, c] }).IsTuple s.heap.objs.size #[a, b, c] := ⟨_, Heap.get?_push_size _ rfl, rfl, 0, rfl⟩
  refine call_max_three (wpAny_pyIter_tuple hT ?_)
  have hsz : (s.heap.push { cls := .type "tuple", data := .seq #[a, b, c] }).objs.size = s.heap.objs.size + 1 := Heap.size_push ..
  refine ⟨_, [_, s.heap.objs.size], [_], _, _, _, _, rfl, Walks.tuple (A := A.in1) hh _ s.heap.objs.size (by rw [hsz]; exact Nat.ne_of_lt (Nat.lt_succ_self _)) #[a, b, c],
    ⟨⟨_, Heap.get?_push_size _ rfl, rfl, rfl⟩, hT.push _⟩, fun d hd => ?_, by simp, cmpOf_gt #[a, b, c] (by simp [ha, hb, hc]), fun v h' tk hP hk => ?_⟩
  · show d < ((s.heap.push _).push _).objs.size
    rw [Heap.size_push, hsz]
    rcases List.mem_cons.mp hd with rfl | hd
    · rw [hsz]; exact Nat.lt_succ_self _
    · rcases List.mem_cons.mp hd with rfl | hd
      · exact Nat.lt_succ_of_lt (Nat.lt_succ_self _)
      · cases hd
  · have hold : ∀ d o, s.heap.get? d = some o → h'.get? d = some o := fun d o e => by
      refine hk d o (fun hm => ?_) (Heap.get?_push_of_some _ (Heap.get?_push_of_some _ e))
      rcases List.mem_cons.mp hm with e1 | hm
      · have := Heap.lt_size e; rw [e1, hsz] at this; exact Nat.lt_irrefl _ (Nat.lt_of_succ_lt this)
      · cases hm
    have := h h' tk hold
    have hv : v = pickMax (pickMax a b) c := by
      unfold pickMax
      cases h1 : ltV a b <;> simp [argBest, h1] at hP ⊢
      · cases h2 : ltV a c <;> simp [h2] at hP ⊢ <;> simp [hP]
      · cases h2 : ltV b c <;> simp [h2] at hP ⊢ <;> simp [hP]
    rw [hv]; exact this
theorem min_three_num (hh : A.handled = none) (ha : NumV a) (hb : NumV b) (hc : NumV c)
    (h : ∀ h' tk, (∀ d o, s.heap.get? d = some o → h'.get? d = some o) → Q (pickMin (pickMin a b) c) { s with heap := h', toks := tk }) :
    wpAny (model prog w) A (call (.builtin "min") [a, b, c]) Q E s := by
  have hT : (s.heap.push { cls := .type "tuple", data := .seq #[a, b, c] }).IsTuple s.heap.objs.size #[a, b, c] := ⟨_, Heap.get?_push_size _ rfl, rfl, 0, rfl⟩
  refine call_min_three (wpAny_pyIter_tuple hT ?_)
  have hsz : (s.heap.push { cls := .type "tuple", data := .seq #[a, b, c] }).objs.size = s.heap.objs.size + 1 := Heap.size_push ..
  refine ⟨_, [_, s.heap.objs.size], [_], _, _, _, _, rfl, Walks.tuple (A := A.in1) hh _ s.heap.objs.size (by rw [hsz]; exact Nat.ne_of_lt (Nat.lt_succ_self _)) #[a, b, c],
    ⟨⟨_, Heap.get?_push_size _ rfl, rfl, rfl⟩, hT.push _⟩, fun d hd => ?_, by simp, cmpOf_lt #[a, b, c] (by simp [ha, hb, hc]), fun v h' tk hP hk => ?_⟩
  · show d < ((s.heap.push _).push _).objs.size
    rw [Heap.size_push, hsz]
    rcases List.mem_cons.mp hd with rfl | hd
    · rw [hsz]; exact Nat.lt_succ_self _
    · rcases List.mem_cons.mp hd with rfl | hd
      · exact Nat.lt_succ_of_lt (Nat.lt_succ_self _)
      · cases hd
  · have hold : ∀ d o, s.heap.get? d = some o → h'.get? d = some o := fun d o e => by
      refine hk d o (fun hm => ?_) (Heap.get?_push_of_some _ (Heap.get?_push_of_some _ e))
      rcases List.mem_cons.mp hm with e1 | hm
      · have := Heap.lt_size e; rw [e1, hsz] at this; exact Nat.lt_irrefl _ (Nat.lt_of_succ_lt this)
      · cases hm
    have := h h' tk hold
    have hv : v = pickMin (pickMin a b) c := by
      unfold pickMin
      cases h1 : ltV b a <;> simp [argBest, h1] at hP ⊢
      · cases h2 : ltV c a <;> simp [h2] at hP ⊢ <;> simp [hP]
      · cases h2 : ltV c b <;> simp [h2] at hP ⊢ <;> simp [hP]
    rw [hv]; exact this
variable {h₀ : Heap} {L : Addr} {m : Str → Option Value} {news : Led}
theorem max_fff {x y z : UInt64} {t u v : Tok} (hh : A.handled = none) (F : Fr h₀ L s.heap m) (N : News h₀ L s.heap news)
    (h : ∀ h' tk t, Fr h₀ L h' m → News h₀ L h' news → Q (.float (fmax2 (fmax2 x y) z) t) { s with heap := h', toks := tk }) :
    wpAny (model prog w) A (call (.builtin "max") [.float x t, .float y u, .float z v]) Q E s :=
  max_three_num hh (.float x t) (.float y u) (.float z v) fun h' tk kp => by
    obtain ⟨t1, e1⟩ := pickMax_ff x y t u
    obtain ⟨t2, e2⟩ := pickMax_ff (fmax2 x y) z t1 v
    rw [e1, e2]
    exact h h' tk t2 (F.grownK kp) (N.grown kp)
theorem min_fff {x y z : UInt64} {t u v : Tok} (hh : A.handled = none) (F : Fr h₀ L s.heap m) (N : News h₀ L s.heap news)
    (h : ∀ h' tk t, Fr h₀ L h' m → News h₀ L h' news → Q (.float (fmin2 (fmin2 x y) z) t) { s with heap := h', toks := tk }) :
    wpAny (model prog w) A (call (.builtin "min") [.float x t, .float y u, .float z v]) Q E s :=
  min_three_num hh (.float x t) (.float y u) (.float z v) fun h' tk kp => by
    obtain ⟨t1, e1⟩ := pickMin_ff x y t u
    obtain ⟨t2, e2⟩ := pickMin_ff (fmin2 x y) z t1 v
    rw [e1, e2]
    exact h h' tk t2 (F.grownK kp) (N.grown kp)
end
end Mine
end
section
open PySem PySem.W PyProof.Rows
set_option maxRecDepth 100000
set_option maxHeartbeats 8000000
namespace Mine
/-- the walk stops here -/
def Stop (P : Prop) : Prop := P
theorem Stop.out {P : Prop} (h : Stop P) : P := h
local macro_rules | `(tactic| walk_at "call builtin:max") => `(tactic| refine Stop.out ?_)
local macro_rules | `(tactic| walk_at "call builtin:min") => `(tactic| refine Stop.out ?_)
def mx3 (r g b : UInt64) : UInt64 := fmax2 (fmax2 r g) b
def mn3 (r g b : UInt64) : UInt64 := fmin2 (fmin2 r g) b
def rng (r g b : UInt64) : UInt64 := Float64.sub (mx3 r g b) (mn3 r g b)
def frc (r g b x : UInt64) : UInt64 := Float64.div (Float64.sub (mx3 r g b) x) (rng r g b)
def hueOf (x : UInt64) : UInt64 := (Float64.divmod (Float64.div x 4618441417868443648) 4607182418800017408).2
def rgbOk (r g b : UInt64) : Bool := (Float64.cmp (mn3 r g b) (mx3 r g b) == some Ordering.eq) || (!Float64.isZero (mx3 r g b) && !Float64.isZero (rng r g b))
def rgbR (r g b : UInt64) : UInt64 × UInt64 × UInt64 :=
  if (Float64.cmp (mn3 r g b) (mx3 r g b) == some Ordering.eq) = true then (0, 0, mx3 r g b)
  else if (Float64.cmp r (mx3 r g b) == some Ordering.eq) = true then (hueOf (Float64.sub (frc r g b b) (frc r g b g)), Float64.div (rng r g b) (mx3 r g b), mx3 r g b)
  else if (Float64.cmp g (mx3 r g b) == some Ordering.eq) = true then (hueOf (Float64.sub (Float64.add 4611686018427387904 (frc r g b r)) (frc r g b b)), Float64.div (rng r g b) (mx3 r g b), mx3 r g b)
  else (hueOf (Float64.sub (Float64.add 4616189618054758400 (frc r g b g)) (frc r g b r)), Float64.div (rng r g b) (mx3 r g b), mx3 r g b)
theorem rgb_nz {r g b : UInt64} (hok : rgbOk r g b = true) (h1 : (Float64.cmp (mn3 r g b) (mx3 r g b) == some Ordering.eq) = false) : Float64.isZero (mx3 r g b) = false ∧ Float64.isZero (rng r g b) = false := by
  unfold rgbOk at hok
  rw [h1, Bool.false_or, Bool.and_eq_true, Bool.not_eq_true', Bool.not_eq_true'] at hok
  exact hok
theorem tf_no {b : Bool} (h : b = false) (h' : b = true) : False := by rw [h] at h'; cases h'
theorem rgb_does (w : World) (r g b : UInt64) (t1 t2 t3 : Tok) (news : Led) (hok : rgbOk r g b = true) :
    Does w 21 [.float r t1, .float g t2, .float b t3] news 1 (fun rv tl => ∃ D x y z, rv = .ref D ∧ tl = [(D, tup3 (.float (rgbR r g b).1 x) (.float (rgbR r g b).2.1 y) (.float (rgbR r g b).2.2 z))]) := by
  w_top off
  unfold Does
  k_fill
  intro mean mg mb dp un gd cn cs a ccd cl outer A₀ base h₀ L m s Q E B F X N T hk hd hu hret
  refine wpAny_call ?_
  k_dflt cell_enter
  k_steps
  unfold Stop
  refine' max_fff ?k0 ?k1 ?k2 ?_
  case k0 => rfl
  case k1 => k_asm
  case k2 => k_asm
  intro _ _ _ Fz Nz
  try k_sweep
  k_steps
  unfold Stop
  refine' min_fff ?k0 ?k1 ?k2 ?_
  case k0 => rfl
  case k1 => k_asm
  case k2 => k_asm
  intro _ _ _ Fz Nz
  try k_sweep
  k_steps
  all_goals first
    | (exfalso; exact tf_no (rgb_nz hok (by assumption)).1 (by assumption))
    | (exfalso; exact tf_no (rgb_nz hok (by assumption)).2 (by assumption))
    | (refine end3 hret (by assumption) (by assumption) (by assumption) ?_
       unfold rgbR
       repeat (first | rw [if_pos (by assumption)] | rw [if_neg (ne_tt (by assumption))])
       try rfl)
end Mine
end
section
open PySem PySem.W PyProof.Rows PySem.Calls PySem.Spec
set_option maxRecDepth 100000
set_option maxHeartbeats 8000000
namespace Mine
theorem Does.use {w : World} {f : Addr} {vs : List Value} {news : Led} {deep : Nat} {R : Value → Led → Prop} (C : Does w f vs news deep R)
    {mean : ExcName → Option Value} {mg mb : Str → Option Value} {dp un : Nat} {gd : Option (List Code)} {cn : Str} {cs : Scope} {a : Addr} {ccd : Value} {cl : List (Str × Addr)} {outer : List Env} {A₀ : Around} {base h₀ : Heap} {L : Addr} {m : Str → Option Value} {s : Shared} {Q E : Value → Shared → Prop}
    (B : Below A₀ base outer h₀) (F : Fr h₀ L s.heap m) (X : (hd.heap_39 w.params).In h₀) (N : News h₀ L s.heap news) (T : Top hd.view_39 (looseW hd.view_39 []) mean mg mb h₀) (hk : cs.kind = .function) (hd : dp + deep < recursionLimit) (hu : un + 8 * deep < cLine)
    (ret : ∀ (r : Value) (tl : Led) (h' : Heap) (tk' : Nat), Fr h₀ L h' m → News h₀ L h' (tl ++ news) → (∀ p ∈ news, ∀ q ∈ tl, p.1 ≠ q.1) → R r tl → Q r { s with heap := h', toks := tk' }) :
    wpAny (model PySem.Challenge.rw_pg0044_01.row.prog w) (ktrTop dp un gd cn cs L a ccd cl outer) (call (.ref f) vs) Q E s := C _ _ _ _ _ _ _ _ _ _ _ _ _ _ _ _ _ _ _ _ B F X N T hk hd hu ret
/-- the end of a comprehension's element: nothing changed, the value is as R tells -/
def ElEnd (h₀ : Heap) (L : Addr) (m : Str → Option Value) (led : Led) (s : Shared) (R : Value → Prop) (y : Value) (s₂ : Shared) : Prop :=
  ∃ h' tk, s₂ = { s with heap := h', toks := tk } ∧ Fr h₀ L h' m ∧ News h₀ L h' led ∧ R y
theorem ElEnd.intro {h₀ : Heap} {L : Addr} {m : Str → Option Value} {led all : Led} {s : Shared} {R : Value → Prop} {y : Value} {h' : Heap} {tk : Nat} (F : Fr h₀ L h' m) (N : News h₀ L h' all) (hs : ∀ p ∈ led, p ∈ all) (hy : R y) :
    ElEnd h₀ L m led s R y { s with heap := h', toks := tk } := ⟨h', tk, rfl, F, fun p hp => N p (hs p hp), hy⟩
section
variable {prog : Program} {w : World} {A : Around} {E : Value → Shared → Prop} {s : Shared} {h₀ : Heap} {L : Addr} {m : Str → Option Value} {env : Env}
/-- the turns of a comprehension whose element is always told by one rule -/
theorem rest_all {elt : PySem.Expr} {x : Str} {scope : Scope} {cl : List (Str × Addr)} {S : Led → Prop} {P : Nat → Value → Prop} {Fin : List Value → Led → Prop} {news : Led} {n : Nat} (R : Nat → Value → Prop) (hS : S news)
    (elem : ∀ i v I oI C oC D ys m₂ h tk (E' : Value → Shared → Prop), i < n → P i v → LCg.NsObj oC m₂ → m₂ x = some v → Fr h₀ L h m → News h₀ L h ((I, oI) :: (C, oC) :: (D, LCg.lst ys) :: news) → LCg.Off3 I C D news → ((@Ne Nat I C) ∧ (@Ne Nat I D) ∧ (@Ne Nat C D)) →
      wpAny (model prog w) A (eval elt (compEnvC scope cl C env)) (ElEnd h₀ L m ((I, oI) :: (C, oC) :: (D, LCg.lst ys) :: news) { s with heap := h, toks := tk } (R i)) E' { s with heap := h, toks := tk })
    (fin : ∀ ys, ys.length = n → (∀ i y, ys[i]? = some y → R i y) → Fin ys news) :
    LCg.CompRest prog w A h₀ L m env elt x scope cl s S P Fin n 0 [] news := by
  have all : ∀ k i ys, i + k = n → ys.length = i → (∀ j y, ys[j]? = some y → R j y) → LCg.CompRest prog w A h₀ L m env elt x scope cl s S P Fin k i ys news := by
    intro k
    induction k with
    | zero =>
      intro i ys hi hl hR
      exact LCg.CompRest.zero (fin ys (by omega) hR)
    | succ k ih =>
      intro i ys hi hl hR
      refine LCg.CompRest.succ ?_
      intro v I oI C oC D m₂ h tk E' hv hC hx F N off ne
      refine wpAny_mono (elem i v I oI C oC D ys m₂ h tk E' (by omega) hv hC hx F N off ne) (fun y s₂ hy => ?_) fun _ _ e => e
      obtain ⟨h', tk', rfl, F', N', hy'⟩ := hy
      refine ⟨h', tk', news, rfl, F', N', off, hS, ih (i + 1) (ys ++ [y]) (by omega) (by simp [hl]) ?_⟩
      intro j z hz
      by_cases hj : j < ys.length
      · rw [List.getElem?_append_left hj] at hz; exact hR j z hz
      · rw [List.getElem?_append_right (by omega)] at hz
        have hj' : j - ys.length = 0 := by
          cases hq : j - ys.length with
          | zero => rfl
          | succ q => rw [hq] at hz; simp at hz
        rw [hj'] at hz
        simp at hz
        subst hz
        have : j = i := by omega
        subst this
        exact hy'
  exact all n 0 [] (by omega) rfl (by simp)
/-- where a tuple of the call's own lies -/
def TupAt (ax : Addr) (its : Array Value) (news : Led) : Prop := ∃ o, (ax, o) ∈ news ∧ o.cls = .type "tuple" ∧ ∃ n, o.data = .seq its n
theorem TupAt.tup {h : Heap} {ax : Addr} {its : Array Value} {news : Led} (x : TupAt ax its news) (N : News h₀ L h news) : h.IsTuple ax its := by
  obtain ⟨o, hm, r⟩ := x
  exact ⟨o, (N _ hm).1, r⟩
theorem tup_st {ax I : Addr} {its : Array Value} : ∀ i (h h' : Heap) (o : Obj) (nw : Led), (h.IsTupleIter I ax i ∧ h.IsTuple ax its) → h.get? I = some o → h'.get? I = some o → (∀ b o, h₀.get? b = some o → h'.get? b = some o) → News h₀ L h' nw → TupAt ax its nw → (h'.IsTupleIter I ax i ∧ h'.IsTuple ax its) :=
  fun i h h' o nw st e e' k N S => ⟨by obtain ⟨o', q, r⟩ := st.1; rw [e] at q; cases q; exact ⟨o, e', r⟩, S.tup N⟩
/-- what a comprehension over a tuple of the call's own asks of the tuple -/
def TupSrc (prog : Program) (w : World) (A : Around) (h₀ : Heap) (L : Addr) (m : Str → Option Value) (env : Env) (elt : PySem.Expr) (x : Str) (scope : Scope) (cl : List (Str × Addr)) (Q : Value → Shared → Prop) (xv : Value) (s₁ : Shared) : Prop :=
  ∃ ax its news, xv = .ref ax ∧ A.handled = none ∧ Fr h₀ L s₁.heap m ∧ News h₀ L s₁.heap news ∧ TupAt ax its news ∧ its.size ≤ sizeLine ∧
    ∀ s₂ : Shared, (∃ h, s₂ = { s₁ with heap := h }) → LCg.CompRest prog w A h₀ L m env elt x scope cl s₂ (TupAt ax its) (fun i v => its[i]? = some v) (LCg.FinE h₀ L m s₂ Q) its.size 0 [] news
theorem ListComp_Tup {elt iter : PySem.Expr} {x : Str} {px : Pos} {scope : Scope} {cl : List (Str × Addr)} {pos : Pos} {Q : Value → Shared → Prop} (F₀ : Fr h₀ L s.heap m)
    (hclos : closureFor scope env = pure cl) (hcell : ∀ y ∈ scope.names, y.2 ≠ .cell) (hkind : scope.kind = .function)
    (hnames : ∀ y ∈ scope.names, y.2 = .local → scope.names.lookup y.1 = some .local) (hx : scope.names.lookup x = some .local)
    (h : wpAny (model prog w) A (eval iter env) (TupSrc prog w A h₀ L m env elt x scope cl Q) E s)
    (hs : ∀ x, foldedSetIterable iter env x = pure x := by intro _; rfl) :
    wpAny (model prog w) A (eval (.ListComp elt [⟨.Name x px, iter, [], 0⟩] scope pos) env) Q E s := by
  rw [eval_ListComp]
  refine wpAny_comprehension_free (use := none) rfl hs hclos hkind hnames (wpAny_mono h (fun xv s₁ h₁ => ?_) fun _ _ e => e)
  obtain ⟨ax, its, news, rfl, hh, F, N, S, hsz, R⟩ := h₁
  have hl := S.tup N
  have hlt : ax < s₁.heap.objs.size := by obtain ⟨_, e, _⟩ := hl; exact Heap.lt_size e
  refine wpAny_pyIter_tuple hl ?_
  have up : ∀ b o, s₁.heap.get? b = some o → (s₁.heap.push { cls := .type "tuple_iterator", data := .fields #[.ref ax, .int 0 0] }).get? b = some o := fun b o e => Heap.get?_push_of_some _ e
  refine LCg.block_U (Walks.tuple hh s₁.heap.objs.size ax (Nat.ne_of_lt hlt) its) hsz (fun i h st => by obtain ⟨o, e, _⟩ := st.1; exact ⟨o, e⟩) tup_st hcell hkind hx ⟨⟨_, Heap.get?_push_size _ rfl, rfl, rfl⟩, hl.push _⟩ (fun b hb => ?_)
    (F.keeps up) (N.grown up) (Nat.ne_of_lt F.ns.lt) (next_is_new F) (fun p hp => Nat.ne_of_lt (Heap.lt_size (N p hp).1)) S (R _ ⟨_, rfl⟩) ?_
  · show b < (s₁.heap.push _).objs.size
    rw [Heap.size_push]
    rcases List.mem_cons.mp hb with rfl | hb
    · exact Nat.lt_succ_self _
    · rw [List.mem_singleton.mp hb]; exact Nat.lt_succ_of_lt hlt
  · intro D C h tk m' ys news' F' N' o1 hn hC₀ hD₀ hCL hDL hCD offC fin
    refine ⟨m', hn, fun h'' hs'' => fin D h'' tk (F'.change hs'' hCL hC₀) (fun p hp => ?_) o1⟩
    refine ⟨hs''.extBut _ _ ?_ (N' p hp).1, (N' p hp).2⟩
    rcases List.mem_cons.mp hp with rfl | hp
    · exact Ne.symm hCD
    · exact offC p hp
/-- the same, the element told by one rule -/
theorem TupSrc.intro {elt : PySem.Expr} {x : Str} {scope : Scope} {cl : List (Str × Addr)} {Q : Value → Shared → Prop} {ax : Addr} {its : Array Value} {k : Nat} {news : Led} (R : Nat → Value → Prop)
    (hh : A.handled = none) (F : Fr h₀ L s.heap m) (N : News h₀ L s.heap news) (hm : (ax, ({ cls := .type "tuple", data := .seq its k } : Obj)) ∈ news) (hsz : its.size ≤ sizeLine)
    (elem : ∀ i v I oI C oC D ys m₂ h tk (E' : Value → Shared → Prop), i < its.size → its[i]? = some v → LCg.NsObj oC m₂ → m₂ x = some v → Fr h₀ L h m → News h₀ L h ((I, oI) :: (C, oC) :: (D, LCg.lst ys) :: news) → LCg.Off3 I C D news → ((@Ne Nat I C) ∧ (@Ne Nat I D) ∧ (@Ne Nat C D)) →
      wpAny (model prog w) A (eval elt (compEnvC scope cl C env)) (ElEnd h₀ L m ((I, oI) :: (C, oC) :: (D, LCg.lst ys) :: news) { s with heap := h, toks := tk } (R i)) E' { s with heap := h, toks := tk })
    (fin : ∀ ys D h tk, ys.length = its.size → (∀ i y, ys[i]? = some y → R i y) → Fr h₀ L h m → News h₀ L h ((D, LCg.lst ys) :: news) → LCg.Off1 D news → Q (.ref D) { s with heap := h, toks := tk }) :
    TupSrc prog w A h₀ L m env elt x scope cl Q (.ref ax) s := by
  refine ⟨ax, its, news, rfl, hh, F, N, ⟨_, hm, rfl, _, rfl⟩, hsz, ?_⟩
  rintro s₂ ⟨g, rfl⟩
  refine rest_all R ⟨_, hm, rfl, _, rfl⟩ (fun i v I oI C oC D ys m₂ h tk E' h1 h2 h3 h4 h5 h6 h7 h8 => elem i v I oI C oC D ys m₂ h tk E' h1 h2 h3 h4 h5 h6 h7 h8) ?_
  intro ys hl hR D h tk F' N' o
  exact fin ys D h tk hl hR F' N' o
end
end Mine
namespace Mine
theorem off1_mem {D : Addr} : ∀ {l : Led}, LCg.Off1 D l → ∀ p ∈ l, p.1 ≠ D
  | [], _, _, h => nomatch h
  | _ :: _, x, p, h => by
    rcases List.mem_cons.mp h with rfl | h
    · exact x.1
    · exact off1_mem x.2 p h
end Mine
end
section
open PySem PySem.W PyProof.Rows PySem.Calls PySem.Spec
set_option maxRecDepth 100000
set_option maxHeartbeats 8000000
namespace Mine
theorem three_at {a b c : UInt64} {ta tb tc : Tok} {i : Nat} {v : Value} (h : #[Value.float a ta, .float b tb, .float c tc][i]? = some v) : ∃ x t, v = .float x t ∧ [a, b, c].getD i 0 = x ∧ (x = a ∨ x = b ∨ x = c) := by
  match i, h with
  | 0, h => simp at h; exact ⟨a, ta, h.symm, rfl, .inl rfl⟩
  | 1, h => simp at h; exact ⟨b, tb, h.symm, rfl, .inr (.inl rfl)⟩
  | 2, h => simp at h; exact ⟨c, tc, h.symm, rfl, .inr (.inr rfl)⟩
  | n + 3, h => simp at h
/-- a share of 32 parts, rounded -/
def r32 (x : UInt64) : Int := Flt.toInt Float64.truncOf (Float64.add (Float64.mul (Float64.ofInt 32) x) 4602678819172646912)
def r32ok (x : UInt64) : Bool := Float64.isFinite (Float64.add (Float64.mul (Float64.ofInt 32) x) 4602678819172646912)
local macro_rules | `(tactic| walk_at "none such") => `(tactic| skip)
local macro_rules | `(tactic| walk_at "call ref") => `(tactic| refine Stop.out ?_)
local macro_rules | `(tactic| walk_at "eval ListComp") => `(tactic| refine Stop.out ?_)
def pntOk (h s v : UInt64) : Bool := hsvOk h s && r32ok (hsvR h s v).1 && r32ok (hsvR h s v).2.1 && r32ok (hsvR h s v).2.2
def pnt (h s v : UInt64) : List Int := [r32 (hsvR h s v).1, r32 (hsvR h s v).2.1, r32 (hsvR h s v).2.2]
theorem pnt_all {h s v x : UInt64} (hok : pntOk h s v = true) (hx : x = (hsvR h s v).1 ∨ x = (hsvR h s v).2.1 ∨ x = (hsvR h s v).2.2) : r32ok x = true := by
  unfold pntOk at hok
  simp only [Bool.and_eq_true] at hok
  rcases hx with e | e | e
  · rw [e]; exact hok.1.1.2
  · rw [e]; exact hok.1.2
  · rw [e]; exact hok.2
/-- a new list of three ints -/
abbrev li3 (x y z : Int) (a b c : Tok) (n : Nat := 3) : Obj := { cls := .type "list", data := .seq #[.int x a, .int y b, .int z c] n }
theorem three_ys {f : Nat → Int} {ys : List Value} (hl : ys.length = 3) (hR : ∀ i y, ys[i]? = some y → ∃ t, y = Value.int (f i) t) : ∃ a b c, ys = [.int (f 0) a, .int (f 1) b, .int (f 2) c] := by
  match ys, hl with
  | [x, y, z], _ =>
    obtain ⟨a, rfl⟩ := hR 0 x rfl
    obtain ⟨b, rfl⟩ := hR 1 y rfl
    obtain ⟨c, rfl⟩ := hR 2 z rfl
    exact ⟨a, b, c, rfl⟩
theorem sub_one {α : Type} {a b p : α} {l : List α} (h : p ∈ [a] ++ l) : p ∈ a :: b :: l := by
  rcases List.mem_cons.mp h with rfl | h
  · exact List.mem_cons_self
  · exact List.mem_cons_of_mem _ (List.mem_cons_of_mem _ h)
theorem painted_does (w : World) (hh hs hv : UInt64) (t1 t2 t3 : Tok) (news : Led) (hpk : pntOk hh hs hv = true) :
    Does w 40 [.float hh t1, .float hs t2, .float hv t3] news 2 (fun r tl => ∃ D a b c, r = .ref D ∧ tl = [(D, li3 (r32 (hsvR hh hs hv).1) (r32 (hsvR hh hs hv).2.1) (r32 (hsvR hh hs hv).2.2) a b c)]) := by
  have hok : hsvOk hh hs = true := by unfold pntOk at hpk; simp only [Bool.and_eq_true] at hpk; exact hpk.1.1.1
  w_top off
  unfold Does
  k_fill
  intro mean mg mb dp un gd cn cs a ccd cl outer A₀ base h₀ L m s Q E B F X N T hk hd hu hret
  refine wpAny_call ?_
  k_dflt cell_enter
  k_steps
  unfold Stop
  k_dflt (refine ListComp_Tup (F₀ := by k_asm) (by rfl) (by decide) (by rfl) (by decide) (by rfl) ?_)
  k_steps
  unfold Stop
  k_dflt (refine' Does.use (hsv_does _ _ _ _ _ _ _ _ ?ok) ?k1 ?k2 ?k3 ?k4 ?k5 ?kK ?kd ?ku ?_; (case k1 => k_asm); (case k2 => k_asm); (case k3 => k_asm); (case k4 => k_asm); (case k5 => k_asm); (case kK => first | exact rfl | assumption); (case kd => ktr_room); (case ku => ktr_units); (case ok => assumption))
  intro _ _ _ _ Fz Nz l1 hRz
  obtain ⟨_, _, _, _, e1z, e2z⟩ := hRz
  subst e1z e2z
  simp only [List.cons_append, List.nil_append] at Nz
  try k_sweep
  try dsimp only
  k_steps
  k_dflt (refine' TupSrc.intro (fun i y => ∃ t, y = Value.int (r32 ([(hsvR hh hs hv).1, (hsvR hh hs hv).2.1, (hsvR hh hs hv).2.2].getD i 0)) t) ?k0 ?k1 ?k2 ?k3 ?k4 ?k5 ?k6; (case k0 => rfl); (case k1 => k_asm); (case k2 => k_asm); (case k3 => k_mem); (case k4 => exact Nat.le_of_ble_eq_true rfl))
  · intro i v I oI C oC D ys m₂ h tk E' hi hv hC hx F' N' off ne
    obtain ⟨x, t, rfl, hg, h3⟩ := three_at hv
    have hfin := pnt_all hpk h3
    unfold r32ok at hfin
    k_steps
    exact ElEnd.intro (by assumption) (by assumption) (fun p hp => hp) ⟨_, by rw [hg]; rfl⟩
  · intro ys D h tk hl hR F' N' o1
    obtain ⟨ta, tb, tc, rfl⟩ := three_ys hl hR
    k_steps
    rename News h₀ L _ _ => kN
    exact hret (.ref D) [(D, _)] _ _ (by assumption) (fun p hp => kN p (sub_one hp)) (fun p hp q hq => by rw [List.mem_singleton.mp hq]; exact off1_mem o1 p (List.mem_cons_of_mem _ hp)) ⟨D, ta, tb, tc, rfl, rfl⟩
end Mine
end
section
open PySem PySem.W PyProof.Rows PySem.Calls PySem.Spec
set_option maxRecDepth 100000
set_option maxHeartbeats 8000000
namespace Mine
section
variable {prog : Program} {w : World} {A : Around} {E : Value → Shared → Prop} {s : Shared} {h₀ : Heap} {L : Addr} {m : Str → Option Value} {env : Env}
/-- one rule for the element of a comprehension, whatever the turn -/
def ElRule (prog : Program) (w : World) (A : Around) (h₀ : Heap) (L : Addr) (m : Str → Option Value) (env : Env) (elt : PySem.Expr) (x : Str) (scope : Scope) (cl : List (Str × Addr)) (s : Shared) (news : Led) (n : Nat) (P : Nat → Value → Prop) (R : Nat → Value → Prop) : Prop :=
  ∀ i v I oI C oC D ys m₂ h tk (E' : Value → Shared → Prop), i < n → P i v → LCg.NsObj oC m₂ → m₂ x = some v → Fr h₀ L h m → News h₀ L h ((I, oI) :: (C, oC) :: (D, LCg.lst ys) :: news) → LCg.Off3 I C D news → ((@Ne Nat I C) ∧ (@Ne Nat I D) ∧ (@Ne Nat C D)) →
      wpAny (model prog w) A (eval elt (compEnvC scope cl C env)) (ElEnd h₀ L m ((I, oI) :: (C, oC) :: (D, LCg.lst ys) :: news) { s with heap := h, toks := tk } (R i)) E' { s with heap := h, toks := tk }
theorem rest_fin {elt : PySem.Expr} {x : Str} {scope : Scope} {cl : List (Str × Addr)} {S : Led → Prop} {P : Nat → Value → Prop} {Fin : List Value → Led → Prop} {news : Led} {n : Nat} {g : Heap} (R : Nat → Value → Prop) (hS : S news)
    (elem : ElRule prog w A h₀ L m env elt x scope cl s news n P R)
    (fin : ∀ ys, ys.length = n → (∀ i y, ys[i]? = some y → R i y) → Fin ys news) :
    LCg.CompRest prog w A h₀ L m env elt x scope cl { s with heap := g } S P Fin n 0 [] news :=
  rest_all R hS (fun i v I oI C oC D ys m₂ h tk E' h1 h2 h3 h4 h5 h6 h7 h8 => elem i v I oI C oC D ys m₂ h tk E' h1 h2 h3 h4 h5 h6 h7 h8) fin
theorem src_ledE {elt : PySem.Expr} {x : Str} {scope : Scope} {cl : List (Str × Addr)} {Q : Value → Shared → Prop} {ax : Addr} {its : Array Value} {k : Nat} {news : Led} (R : Nat → Value → Prop)
    (hh : A.handled = none) (F : Fr h₀ L s.heap m) (N : News h₀ L s.heap news) (hm : (ax, ({ cls := .type "list", data := .seq its k } : Obj)) ∈ news) (hsz : its.size ≤ sizeLine)
    (elem : ElRule prog w A h₀ L m env elt x scope cl s news its.size (fun i v => its[i]? = some v) R)
    (fin : ∀ ys D h tk, ys.length = its.size → (∀ i y, ys[i]? = some y → R i y) → Fr h₀ L h m → News h₀ L h ((D, LCg.lst ys) :: news) → LCg.Off1 D news → Q (.ref D) { s with heap := h, toks := tk }) :
    LCg.CompSrc prog w A h₀ L m env elt x scope cl (fun s₂ => LCg.FinE h₀ L m s₂ Q) (.ref ax) s :=
  LCg.CompSrc.ledger hh F N hm hsz fun _ => rest_fin R (.inr ⟨_, hm, rfl, _, rfl⟩) elem fun ys hl hR D h tk F' N' o => fin ys D h tk hl hR F' N' o
theorem src_ledA {elt : PySem.Expr} {x y : Str} {scope : Scope} {cl : List (Str × Addr)} {Q : Flow → Shared → Prop} {ax : Addr} {its : Array Value} {k : Nat} {news : Led} (R : Nat → Value → Prop)
    (hh : A.handled = none) (F : Fr h₀ L s.heap m) (N : News h₀ L s.heap news) (hm : (ax, ({ cls := .type "list", data := .seq its k } : Obj)) ∈ news) (hsz : its.size ≤ sizeLine)
    (elem : ElRule prog w A h₀ L m env elt x scope cl s news its.size (fun i v => its[i]? = some v) R)
    (fin : ∀ ys D h tk, ys.length = its.size → (∀ i y, ys[i]? = some y → R i y) → Fr h₀ L h (fun z => if z = y then some (.ref D) else m z) → News h₀ L h ((D, LCg.lst ys) :: news) → LCg.Off1 D news → Q .next { s with heap := h, toks := tk }) :
    LCg.CompSrc prog w A h₀ L m env elt x scope cl (fun s₂ => LCg.FinA h₀ L m s₂ y Q) (.ref ax) s :=
  LCg.CompSrc.ledger hh F N hm hsz fun _ => rest_fin R (.inr ⟨_, hm, rfl, _, rfl⟩) elem fun ys hl hR D h tk F' N' o => fin ys D h tk hl hR F' N' o
theorem src_rngE {elt : PySem.Expr} {x : Str} {scope : Scope} {cl : List (Str × Addr)} {Q : Value → Shared → Prop} {r : Addr} {a b : Int} {t u v : Tok} {n : Nat} {news : Led} (R : Nat → Value → Prop)
    (hh : A.handled = none) (F : Fr h₀ L s.heap m) (N : News h₀ L s.heap news) (hr : IsRange s.heap r a b 1 t u v) (hsm : Builtin.Range.small a b 1 = true) (hn : Builtin.Range.rangeSize a b 1 = ((n : Nat) : Int)) (hsz : n ≤ sizeLine)
    (elem : ElRule prog w A h₀ L m env elt x scope cl s news n (fun i v => ∃ t, v = .int (a + (i : Int)) t) R)
    (fin : ∀ ys D h tk, ys.length = n → (∀ i y, ys[i]? = some y → R i y) → Fr h₀ L h m → News h₀ L h ((D, LCg.lst ys) :: news) → LCg.Off1 D news → Q (.ref D) { s with heap := h, toks := tk }) :
    LCg.CompSrc prog w A h₀ L m env elt x scope cl (fun s₂ => LCg.FinE h₀ L m s₂ Q) (.ref r) s :=
  LCg.CompSrc.range hh F N hr hsm hn hsz fun _ => rest_fin R trivial elem fun ys hl hR D h tk F' N' o => fin ys D h tk hl hR F' N' o
theorem src_rngA {elt : PySem.Expr} {x y : Str} {scope : Scope} {cl : List (Str × Addr)} {Q : Flow → Shared → Prop} {r : Addr} {a b : Int} {t u v : Tok} {n : Nat} {news : Led} (R : Nat → Value → Prop)
    (hh : A.handled = none) (F : Fr h₀ L s.heap m) (N : News h₀ L s.heap news) (hr : IsRange s.heap r a b 1 t u v) (hsm : Builtin.Range.small a b 1 = true) (hn : Builtin.Range.rangeSize a b 1 = ((n : Nat) : Int)) (hsz : n ≤ sizeLine)
    (elem : ElRule prog w A h₀ L m env elt x scope cl s news n (fun i v => ∃ t, v = .int (a + (i : Int)) t) R)
    (fin : ∀ ys D h tk, ys.length = n → (∀ i y, ys[i]? = some y → R i y) → Fr h₀ L h (fun z => if z = y then some (.ref D) else m z) → News h₀ L h ((D, LCg.lst ys) :: news) → LCg.Off1 D news → Q .next { s with heap := h, toks := tk }) :
    LCg.CompSrc prog w A h₀ L m env elt x scope cl (fun s₂ => LCg.FinA h₀ L m s₂ y Q) (.ref r) s :=
  LCg.CompSrc.range hh F N hr hsm hn hsz fun _ => rest_fin R trivial elem fun ys hl hR D h tk F' N' o => fin ys D h tk hl hR F' N' o
end
end Mine
end
section
open PySem PySem.W PyProof.Rows PySem.Calls PySem.Spec
set_option maxRecDepth 100000
set_option maxHeartbeats 8000000
namespace Mine
theorem threeI_at {a b c : Int} {ta tb tc : Tok} {i : Nat} {v : Value} (h : #[Value.int a ta, .int b tb, .int c tc][i]? = some v) : ∃ x t, v = .int x t ∧ [a, b, c].getD i 0 = x ∧ i < 3 := by
  match i, h with
  | 0, h => simp at h; exact ⟨a, ta, h.symm, rfl, by omega⟩
  | 1, h => simp at h; exact ⟨b, tb, h.symm, rfl, by omega⟩
  | 2, h => simp at h; exact ⟨c, tc, h.symm, rfl, by omega⟩
  | n + 3, h => simp at h
/-- the least of three -/
def least (x y z : Int) : Int := min (min x y) z
theorem least_is {x y z M : Int} (h1 : M = x ∨ M = y ∨ M = z) (h2 : M ≤ x ∧ M ≤ y ∧ M ≤ z) : M = least x y z := by unfold least; omega
theorem sub_led {α : Type} {a p : α} {b l : List α} (h : p ∈ [a] ++ l) : p ∈ a :: (b ++ l) := by
  rcases List.mem_cons.mp h with rfl | h
  · exact List.mem_cons_self
  · exact List.mem_cons_of_mem _ (List.mem_append.mpr (.inr h))
section
local macro_rules | `(tactic| k_mem) => `(tactic| first | exact List.Mem.head _ | with_reducible assumption | (refine List.mem_cons_of_mem _ ?_; k_mem))
local macro_rules | `(tactic| walk_at "CompSrc") => `(tactic| refine Stop.out ?_)
theorem on_does (w : World) (wh : Int) (tw : Tok) (P : Addr) (x y z : Int) (a1 b1 c1 : Tok) (n : Nat) (news : Led) (hm : (P, li3 x y z a1 b1 c1 n) ∈ news) :
    Does w 45 [.int wh tw, .ref P] news 1 (fun r tl => ∃ D a b c, r = .ref D ∧ tl = [(D, li3 (x - least x y z + wh) (y - least x y z + wh) (z - least x y z + wh) a b c)]) := by
  w_top off
  unfold Does
  k_fill
  intro mean mg mb dp un gd cn cs a ccd cl outer A₀ base h₀ L m s Q E B F X N T hk hd hu hret
  refine wpAny_call ?_
  k_dflt (refine' code_defC ?k1 ?k2 ?k3 ?k4 ?k5 ?kA ?kF ?kK ?k6 ?k7 ?k8 ?k9 ?kB ?kD ?_ ?c2 ?c3 ?c4; (case kA => exact rfl); (case kF => exact rfl); (case kK => assumption); (case k1 => k_asm); (case k2 => k_asm); (case k3 => k_asm); (case k4 => k_asm); (case k5 => k_asm); (case k6 => k_is); (case k7 => k_is); (case k8 => ktr_room); (case k9 => exact BindsTo.of_eq rfl); (case kB => exact rfl); (case kD => decide +kernel); (case c2 => exact rfl); (case c3 => exact rfl); (case c4 => exact rfl); k_whole; intro g' L' h' tk' cells' FG' F' N' Y' B' X' T' l1; (try k_lt l1); k_cells Y'; (try simp only [List.cons_append, List.nil_append] at N'); (try dsimp only); (try k_lift B'); (try k_fold))
  k_steps
  unfold Stop
  k_dflt (refine' src_ledE (its := #[.int x a1, .int y b1, .int z c1]) (k := n) (fun i v => ∃ t, v = Value.int ([x, y, z].getD i 0 - least x y z + wh) t) ?k0 ?k1 ?k2 ?k3 ?k4 ?k5 ?k6; (case k0 => rfl); (case k1 => k_asm); (case k2 => k_asm); (case k3 => k_mem); (case k4 => exact Nat.le_of_ble_eq_true rfl))
  · intro i v I oI C oC D ys m₂ h tk E' hi hv hC hx F' N' off ne
    obtain ⟨p, t, rfl, hg, h3⟩ := threeI_at hv
    k_steps
    exact ElEnd.intro (by assumption) (by assumption) (fun p hp => hp) ⟨_, by rw [hg, ← least_is (by assumption) (by assumption)]⟩
  · intro ys D h tk hl hR F' N' o1
    obtain ⟨ta, tb, tc, rfl⟩ := three_ys hl hR
    k_steps
    rename News h₀ L _ _ => kN
    exact hret (.ref D) [(D, _)] _ _ (by assumption) (fun p hp => kN p (sub_led (b := [_, _]) hp)) (fun p hp q hq => by rw [List.mem_singleton.mp hq]; exact off1_mem o1 p (List.mem_append.mpr (.inr hp) : p ∈ [_, _] ++ news)) ⟨D, ta, tb, tc, rfl, rfl⟩
end
end Mine
end
section
open PySem PySem.W PyProof.Rows PySem.Calls PySem.Spec
set_option maxRecDepth 100000
set_option maxHeartbeats 8000000
namespace Mine
/-- a number of parts of 32 as a float -/
def dv32 (n : Int) : UInt64 := Float64.ofFrac (decide (n < 0) != decide ((32 : Int) < 0)) n.natAbs (Int.natAbs 32)
def tldOk (r g b : Int) : Bool := !Float64.isInf (dv32 r) && !Float64.isInf (dv32 g) && !Float64.isInf (dv32 b) && rgbOk (dv32 r) (dv32 g) (dv32 b)
def tld (r g b : Int) : UInt64 × UInt64 × UInt64 := rgbR (dv32 r) (dv32 g) (dv32 b)
theorem tld_ok {r g b : Int} (h : tldOk r g b = true) : Float64.isInf (dv32 r) = false ∧ Float64.isInf (dv32 g) = false ∧ Float64.isInf (dv32 b) = false ∧ rgbOk (dv32 r) (dv32 g) (dv32 b) = true := by
  unfold tldOk at h
  simp only [Bool.and_eq_true, Bool.not_eq_true'] at h
  exact ⟨h.1.1.1, h.1.1.2, h.1.2, h.2⟩
section
local macro_rules | `(tactic| k_mem) => `(tactic| first | exact List.Mem.head _ | with_reducible assumption | (refine List.mem_cons_of_mem _ ?_; k_mem))
local macro_rules | `(tactic| walk_at "none such") => `(tactic| skip)
local macro_rules | `(tactic| walk_at "call ref") => `(tactic| refine Stop.out ?_)
theorem told_does (w : World) (wh : Int) (tw : Tok) (P : Addr) (x y z : Int) (a1 b1 c1 : Tok) (n : Nat) (news : Led) (hm : (P, li3 x y z a1 b1 c1 n) ∈ news) (r g b : Int) (er : x - least x y z + wh = r) (eg : y - least x y z + wh = g) (eb : z - least x y z + wh = b) (hok : tldOk r g b = true) :
    Does w 52 [.int wh tw, .ref P] news 2 (fun rv tl => ∃ D a b' c, rv = .ref D ∧ tl = [(D, tup3 (.float (tld r g b).1 a) (.float (tld r g b).2.1 b') (.float (tld r g b).2.2 c))]) := by
  subst er eg eb
  obtain ⟨hi1, hi2, hi3, hrgb⟩ := tld_ok hok
  w_top off
  unfold Does
  k_fill
  intro mean mg mb dp un gd cn cs a ccd cl outer A₀ base h₀ L m s Q E B F X N T hk hd hu hret
  refine wpAny_call ?_
  k_dflt cell_enter
  k_steps
  unfold Stop
  k_dflt (refine' Does.use (on_does _ _ _ _ _ _ _ _ _ _ _ _ ?ok) ?k1 ?k2 ?k3 ?k4 ?k5 ?kK ?kd ?ku ?_; (case k1 => k_asm); (case k2 => k_asm); (case k3 => k_asm); (case k4 => k_asm); (case k5 => k_asm); (case kK => first | exact rfl | assumption); (case kd => ktr_room); (case ku => ktr_units); (case ok => k_mem))
  intro _ _ _ _ Fz Nz l1 hRz
  obtain ⟨_, _, _, _, e1z, e2z⟩ := hRz
  subst e1z e2z
  simp only [List.cons_append, List.nil_append] at Nz
  try k_sweep
  try dsimp only
  k_steps
  all_goals first
    | (exfalso; exact tf_no hi1 (by assumption))
    | (exfalso; exact tf_no hi2 (by assumption))
    | (exfalso; exact tf_no hi3 (by assumption))
    | (skip
       unfold Stop
       k_dflt (refine' Does.use (rgb_does _ _ _ _ _ _ _ _ ?ok) ?k1 ?k2 ?k3 ?k4 ?k5 ?kK ?kd ?ku ?_; (case k1 => k_asm); (case k2 => k_asm); (case k3 => k_asm); (case k4 => k_asm); (case k5 => k_asm); (case kK => first | exact rfl | assumption); (case kd => ktr_room); (case ku => ktr_units); (case ok => assumption))
       intro _ _ _ _ Fz Nz l1 hRz
       obtain ⟨_, _, _, _, e1z, e2z⟩ := hRz
       subst e1z e2z
       simp only [List.cons_append, List.nil_append] at Nz
       try k_sweep
       try dsimp only
       k_steps
       rename News h₀ L _ _ => kN
       rename ∀ p ∈ _, ∀ q ∈ _, _ ≠ _ => ll
       exact hret _ [(_, _)] _ _ (by assumption) (fun p hp => kN p (sub_one hp)) (fun p hp q hq => ll p (List.mem_cons_of_mem _ hp) q hq) ⟨_, _, _, _, rfl, rfl⟩)
end
end Mine
end
section
open PySem PySem.W PyProof.Rows PySem.Calls PySem.Spec
set_option maxRecDepth 100000
set_option maxHeartbeats 8000000
namespace Mine
open PySem.Float64
theorem halfEven_scale {a b c : Nat} (hc : 0 < c) : halfEven (a * c) (b * c) = halfEven a b := by
  unfold halfEven
  have h1 : a * c / (b * c) = a / b := Nat.mul_div_mul_right a b hc
  have h2 : a * c % (b * c) = a % b * c := Nat.mul_mod_mul_right c a b
  rw [h1, h2]
  have e1 : (2 * (a % b * c) > b * c) ↔ (2 * (a % b) > b) := by
    rw [← Nat.mul_assoc]
    exact Nat.mul_lt_mul_right hc
  have e2 : (2 * (a % b * c) == b * c) = (2 * (a % b) == b) := by
    rw [← Nat.mul_assoc]
    rw [Bool.eq_iff_iff, beq_iff_eq, beq_iff_eq]
    exact ⟨fun h => Nat.eq_of_mul_eq_mul_right hc h, fun h => by rw [h]⟩
  simp only [e1, e2]
theorem halfEven_ratio {a b a' b' : Nat} (hb : 0 < b) (hb' : 0 < b') (h : a * b' = a' * b) : halfEven a b = halfEven a' b' := by
  rw [← halfEven_scale (a := a) (b := b) hb', ← halfEven_scale (a := a') (b := b') hb, h, Nat.mul_comm b b']
theorem halfEven_le {a b : Nat} : halfEven a b ≤ a / b + 1 := by
  unfold halfEven
  dsimp only
  split <;> omega
theorem shift_is (n d : Nat) (k : Int) : shift n d k = (n * 2 ^ k.toNat, d * 2 ^ (-k).toNat) := by
  unfold shift
  split
  · rw [show (-k).toNat = 0 by omega]; simp
  · rw [show k.toNat = 0 by omega]; simp
theorem p2 (k : Nat) : 0 < 2 ^ k := Nat.pow_pos (by decide)
theorem le_scale {x y : Nat} (P c : Nat) {k : Int} (hk : k = (P : Int) - (c : Int)) : x * 2 ^ k.toNat ≤ y * 2 ^ (-k).toNat ↔ x * 2 ^ P ≤ y * 2 ^ c := by
  by_cases h : c ≤ P
  · rw [show k.toNat = P - c by omega, show (-k).toNat = 0 by omega, Nat.pow_zero, Nat.mul_one]
    conv => rhs; rw [show P = (P - c) + c by omega, Nat.pow_add, ← Nat.mul_assoc]
    exact ⟨fun h => Nat.mul_le_mul_right _ h, fun h => Nat.le_of_mul_le_mul_right h (p2 c)⟩
  · rw [show k.toNat = 0 by omega, show (-k).toNat = c - P by omega, Nat.pow_zero, Nat.mul_one]
    conv => rhs; rw [show c = (c - P) + P by omega, Nat.pow_add, ← Nat.mul_assoc]
    exact ⟨fun h => Nat.mul_le_mul_right _ h, fun h => Nat.le_of_mul_le_mul_right h (p2 P)⟩
theorem eq_scale {x y : Nat} (P c : Nat) {k : Int} (hk : k = (P : Int) - (c : Int)) (h : x * 2 ^ P = y * 2 ^ c) : x * 2 ^ k.toNat = y * 2 ^ (-k).toNat := by
  apply Nat.le_antisymm
  · exact (le_scale P c hk).mpr (Nat.le_of_eq h)
  · have h' := (le_scale (x := y) (y := x) c P (k := -k) (by omega)).mpr (Nat.le_of_eq h.symm)
    rw [Int.neg_neg] at h'
    exact h'
theorem m1 (a b c d : Nat) : a * (b * (c * d)) = a * c * (d * b) := by ac_rfl
theorem m2 (a b c : Nat) : a * (b * c) = b * (a * c) := by ac_rfl
theorem m3 (a b c d : Nat) : a * (b * c) * d = a * (b * d) * c := by ac_rfl
theorem m4 (a b c d : Nat) : a * b * c * d = a * c * (d * b) := by ac_rfl
theorem m5 (a b c d : Nat) : a * b * (c * d) = a * (c * d) * b := by ac_rfl
theorem m6 (a b c : Nat) : a * b * c = a * (b * c) := Nat.mul_assoc a b c
theorem m7 (a b c : Nat) : a * b * c = a * (b * c) := Nat.mul_assoc a b c
theorem m8 (a b c : Nat) : a * b * c = a * c * b := by ac_rfl
theorem e52 (s E c : Nat) : ((52 + s + E : Nat) : Int) - (c : Int) - 52 = ((s + E : Nat) : Int) - (c : Int) := by omega
theorem e53 (s E c : Nat) : ((53 + s + E : Nat) : Int) - (c : Int) - 53 = ((s + E : Nat) : Int) - (c : Int) := by omega
theorem mag_K (K a q : Nat) (ha : a ≤ 2045) (hq : q ≤ 2 * K) : a * K + q ≤ 2047 * K := by
  have h := Nat.mul_le_mul_right K (Nat.add_le_add_right ha 2)
  rw [Nat.add_mul] at h
  exact Nat.le_trans (Nat.add_le_add_left hq _) h
theorem infMag_is : infMag = 2047 * 2 ^ 52 := by unfold infMag; rfl
theorem min_mag {a q : Nat} (ha : a ≤ 2045) (hq : q ≤ 2 ^ 53) : min infMag (a * 2 ^ 52 + q) = a * 2 ^ 52 + q := by
  rw [infMag_is]
  refine Nat.min_eq_right (mag_K _ _ _ ha ?_)
  have e : 2 * 2 ^ 52 = 2 ^ 53 := by decide
  rw [e]; exact hq
theorem rm_is {n d N D E c s : Nat} (hd : 0 < d) (hD : 0 < D) (hr : n * (D * 2 ^ c) = N * 2 ^ E * d) (h1 : D * 2 ^ (52 + s) ≤ N) (h2 : N < D * 2 ^ (53 + s))
    (hc : c ≤ s + E + 1074) (ha : s + E + 1074 ≤ c + 2045) : roundMag n d = (s + E + 1074 - c) * 2 ^ 52 + halfEven N (D * 2 ^ s) := by
  have g1 : d * 2 ^ (52 + s + E) ≤ n * 2 ^ c := by
    apply Nat.le_of_mul_le_mul_left _ hD
    have e1 : D * (d * 2 ^ (52 + s + E)) = D * 2 ^ (52 + s) * (2 ^ E * d) := by rw [Nat.pow_add 2 (52 + s) E]; exact m1 _ _ _ _
    have e2 : D * (n * 2 ^ c) = N * (2 ^ E * d) := by rw [← Nat.mul_assoc N, ← hr]; exact m2 _ _ _
    rw [e1, e2]
    exact Nat.mul_le_mul_right _ h1
  have g2 : n * 2 ^ c < d * 2 ^ (53 + s + E) := by
    apply Nat.lt_of_mul_lt_mul_left (a := D)
    have e1 : D * (d * 2 ^ (53 + s + E)) = D * 2 ^ (53 + s) * (2 ^ E * d) := by rw [Nat.pow_add 2 (53 + s) E]; exact m1 _ _ _ _
    have e2 : D * (n * 2 ^ c) = N * (2 ^ E * d) := by rw [← Nat.mul_assoc N, ← hr]; exact m2 _ _ _
    rw [e1, e2]
    exact (Nat.mul_lt_mul_right (Nat.mul_pos (p2 E) hd)).mpr h2
  have hn : n ≠ 0 := by
    intro e
    rw [e, Nat.zero_mul] at g1
    have := Nat.mul_pos hd (p2 (52 + s + E))
    omega
  have n1 : 2 ^ n.log2 ≤ n := (Nat.le_log2 hn).mp (Nat.le_refl _)
  have n2 : n < 2 ^ (n.log2 + 1) := (Nat.log2_lt hn).mp (Nat.lt_succ_self _)
  have d1 : 2 ^ d.log2 ≤ d := (Nat.le_log2 (by omega)).mp (Nat.le_refl _)
  have d2 : d < 2 ^ (d.log2 + 1) := (Nat.log2_lt (by omega)).mp (Nat.lt_succ_self _)
  have l1 : d.log2 + (52 + s + E) < n.log2 + 1 + c := by
    apply (Nat.pow_lt_pow_iff_right (a := 2) (by decide)).mp
    rw [Nat.pow_add 2 d.log2, Nat.pow_add 2 (n.log2 + 1)]
    exact Nat.lt_of_le_of_lt (Nat.mul_le_mul_right _ d1) (Nat.lt_of_le_of_lt g1 ((Nat.mul_lt_mul_right (p2 c)).mpr n2))
  have l2 : n.log2 + c < d.log2 + 1 + (53 + s + E) := by
    apply (Nat.pow_lt_pow_iff_right (a := 2) (by decide)).mp
    rw [Nat.pow_add 2 n.log2, Nat.pow_add 2 (d.log2 + 1)]
    exact Nat.lt_of_le_of_lt (Nat.mul_le_mul_right _ n1) (Nat.lt_trans g2 ((Nat.mul_lt_mul_right (p2 _)).mpr d2))
  have hq : halfEven N (D * 2 ^ s) ≤ 2 ^ 53 := by
    have : N / (D * 2 ^ s) < 2 ^ 53 := by
      rw [Nat.div_lt_iff_lt_mul (Nat.mul_pos hD (p2 s))]
      rw [Nat.pow_add 2 53 s] at h2
      rw [m2]; exact h2
    exact Nat.le_trans halfEven_le (Nat.succ_le_of_lt this)
  have ha' : s + E + 1074 - c ≤ 2045 := Nat.sub_le_iff_le_add.mpr (by rw [Nat.add_comm 2045 c]; exact ha)
  have main : ∀ e : Int, e = ((s + E : Nat) : Int) - (c : Int) → min infMag ((max e (-1074) + 1074).toNat * 2 ^ 52 + halfEven (shift n d (-(max e (-1074)))).1 (shift n d (-(max e (-1074)))).2) = (s + E + 1074 - c) * 2 ^ 52 + halfEven N (D * 2 ^ s) := by
    intro e he
    have hm : max e (-1074) = e := by omega
    rw [hm, show (e + 1074).toNat = s + E + 1074 - c by omega, shift_is]
    dsimp only
    rw [Int.neg_neg]
    have hh : halfEven (n * 2 ^ (-e).toNat) (d * 2 ^ e.toNat) = halfEven N (D * 2 ^ s) := by
      refine halfEven_ratio (Nat.mul_pos hd (p2 _)) (Nat.mul_pos hD (p2 _)) ?_
      have := eq_scale (x := N * d) (y := n * (D * 2 ^ s)) (s + E) c he (by
        rw [m3 n D (2 ^ s) (2 ^ c), hr, Nat.pow_add 2 s E]
        exact (m4 N (2 ^ E) d (2 ^ s)).symm)
      rw [m5 n (2 ^ (-e).toNat) D (2 ^ s), ← this]
      exact m6 _ _ _
    rw [hh]
    exact min_mag ha' hq
  unfold roundMag
  rw [if_neg (by simpa using hn)]
  dsimp only
  have hl : (n.log2 : Int) - (d.log2 : Int) = ((52 + s + E : Nat) : Int) - (c : Int) ∨ (n.log2 : Int) - (d.log2 : Int) = ((53 + s + E : Nat) : Int) - (c : Int) := by omega
  generalize (n.log2 : Int) - (d.log2 : Int) = l at hl
  have hcmp : (shift n d (-l)).1 ≥ (shift n d (-l)).2 ↔ d * 2 ^ l.toNat ≤ n * 2 ^ (-l).toNat := by
    rw [shift_is]
    dsimp only
    rw [Int.neg_neg]
  rcases hl with hl | hl
  · rw [if_pos (hcmp.mpr ((le_scale _ _ hl).mpr g1))]
    exact main (l - 52) (by rw [hl]; exact e52 s E c)
  · rw [if_neg (fun h => absurd ((le_scale _ _ hl).mp (hcmp.mp h)) (Nat.not_le.mpr g2))]
    exact main (l - 53) (by rw [hl]; exact e53 s E c)
end Mine
end
section
open PySem PySem.W PyProof.Rows PySem.Calls PySem.Spec
set_option maxRecDepth 100000
set_option maxHeartbeats 2000000
namespace Mine
open PySem.Float64
/-- a guess at the highest bit: one step of a search -/
def lgS (p k n a : Nat) (c : Nat → Nat → Nat) : Nat := cond (Nat.ble p n) (c (Nat.div n p) (Nat.add a k)) (c n a)
def lgB (n : Nat) : Nat := lgS (nat_lit 340282366920938463463374607431768211456) (nat_lit 128) n (nat_lit 0) fun n a => lgS (nat_lit 18446744073709551616) (nat_lit 64) n a fun n a => lgS (nat_lit 4294967296) (nat_lit 32) n a fun n a => lgS (nat_lit 65536) (nat_lit 16) n a fun n a => lgS (nat_lit 256) (nat_lit 8) n a fun n a => lgS (nat_lit 16) (nat_lit 4) n a fun n a => lgS (nat_lit 4) (nat_lit 2) n a fun n a => lgS (nat_lit 2) (nat_lit 1) n a fun _ a => a
def P52 : Nat := nat_lit 4503599627370496
def P53m : Nat := nat_lit 9007199254740991
def MX : Nat := nat_lit 9218868437227405311
theorem P52_eq : P52 = 2 ^ 52 := by decide +kernel
theorem P53m_eq : P53m + 1 = 2 ^ 53 := by decide +kernel
theorem MX_eq : MX + 1 = 2047 * 2 ^ 52 := by decide +kernel
/-- rounding, the scale guessed and then looked at -/
def rb2 (N b q e c slow : Nat) : Nat :=
  cond (Nat.ble P52 q) (cond (Nat.ble q P53m) (cond (Nat.ble c e) (cond (Nat.ble e (Nat.add c (nat_lit 2045)))
    (Nat.add (Nat.mul (Nat.sub e c) P52) (Nat.div (Nat.sub (Nat.add (Nat.add (Nat.mul (nat_lit 2) N) (Nat.mod q (nat_lit 2))) b) (nat_lit 1)) (Nat.mul (nat_lit 2) b))) slow) slow) slow) slow
def rb1 (N b s E c slow : Nat) : Nat := rb2 N b (Nat.div N b) (Nat.add (Nat.add s E) (nat_lit 1074)) c slow
def rb0 (N D s E c slow : Nat) : Nat := rb1 N (Nat.mul D (Nat.pow (nat_lit 2) s)) s E c slow
def rb (N D E c slow : Nat) : Nat := rb0 N D (Nat.sub (lgB (Nat.div N D)) (nat_lit 52)) E c slow
theorem cond_ble {α : Type} (a b : Nat) (x y : α) : cond (Nat.ble a b) x y = if a ≤ b then x else y := by
  by_cases h : a ≤ b
  · rw [if_pos h, Nat.ble_eq.mpr h]; rfl
  · have : Nat.ble a b = false := by
      cases e : Nat.ble a b with
      | false => rfl
      | true => exact absurd (Nat.ble_eq.mp e) h
    rw [if_neg h, this]; rfl
theorem cond_beq {α : Type} (a b : Nat) (x y : α) : cond (Nat.beq a b) x y = if a = b then x else y := by
  by_cases h : a = b
  · rw [if_pos h, Nat.beq_eq.mpr h]; rfl
  · have : Nat.beq a b = false := by
      cases e : Nat.beq a b with
      | false => rfl
      | true => exact absurd (Nat.beq_eq.mp e) h
    rw [if_neg h, this]; rfl
theorem hd1 {r b o : Nat} (hr : r < b) (ho : o ≤ 1) (h : b < 2 * r + o) : (2 * r + o + b - 1) / (2 * b) = 1 := by
  rw [Nat.div_eq_iff (by omega)]
  omega
theorem hd0 {r b o : Nat} (h : 2 * r + o ≤ b) (hb : 0 < b) : (2 * r + o + b - 1) / (2 * b) = 0 := Nat.div_eq_of_lt (by omega)
theorem hde {N b q r o : Nat} (h : b * q + r = N) (hb : 0 < b) : 2 * N + o + b - 1 = (2 * r + o + b - 1) + 2 * b * q := by
  rw [← h, Nat.mul_assoc]
  omega
theorem hup {r b o : Nat} (h : 2 * r > b ∨ (2 * r = b ∧ o = 1)) : b < 2 * r + o := by omega
theorem hdn {r b o : Nat} (ho : o < 2) (h : ¬ (2 * r > b ∨ (2 * r = b ∧ o = 1))) : 2 * r + o ≤ b := by omega
theorem half_div {N b : Nat} (hb : 0 < b) : (2 * N + N / b % 2 + b - 1) / (2 * b) = halfEven N b := by
  have h := Nat.div_add_mod N b
  have hm := Nat.mod_lt N hb
  unfold halfEven
  dsimp only
  generalize hq : N / b = q at *
  generalize hr : N % b = r at *
  have ho : q % 2 < 2 := Nat.mod_lt q (by decide)
  rw [hde h hb, Nat.add_mul_div_left _ _ (Nat.mul_pos (by decide) hb)]
  by_cases h1 : 2 * r > b ∨ (2 * r = b ∧ q % 2 = 1)
  · rw [if_pos (by simpa using h1), hd1 hm (Nat.le_of_lt_succ ho) (hup h1), Nat.add_comm]
  · rw [if_neg (by simpa using h1), hd0 (hdn ho h1) hb, Nat.zero_add]
theorem rb0_or {N D s E c slow n d : Nat} (hd : 0 < d) (hD : 0 < D) (hr : n * (D * 2 ^ c) = N * 2 ^ E * d) : rb0 N D s E c slow = slow ∨ (0 < N ∧ rb0 N D s E c slow = roundMag n d) := by
  unfold rb0 rb1 rb2
  simp only [cond_ble]
  show (if P52 ≤ N / (D * 2 ^ s) then (if N / (D * 2 ^ s) ≤ P53m then (if c ≤ s + E + 1074 then (if s + E + 1074 ≤ c + 2045 then (s + E + 1074 - c) * P52 + (2 * N + N / (D * 2 ^ s) % 2 + D * 2 ^ s - 1) / (2 * (D * 2 ^ s)) else slow) else slow) else slow) else slow) = slow ∨ (0 < N ∧ (if P52 ≤ N / (D * 2 ^ s) then (if N / (D * 2 ^ s) ≤ P53m then (if c ≤ s + E + 1074 then (if s + E + 1074 ≤ c + 2045 then (s + E + 1074 - c) * P52 + (2 * N + N / (D * 2 ^ s) % 2 + D * 2 ^ s - 1) / (2 * (D * 2 ^ s)) else slow) else slow) else slow) else slow) = roundMag n d)
  have hb : 0 < D * 2 ^ s := Nat.mul_pos hD (p2 s)
  by_cases h1 : P52 ≤ N / (D * 2 ^ s)
  · by_cases h2 : N / (D * 2 ^ s) ≤ P53m
    · by_cases h3 : c ≤ s + E + 1074
      · by_cases h4 : s + E + 1074 ≤ c + 2045
        · right
          rw [if_pos h1, if_pos h2, if_pos h3, if_pos h4]
          have k1 : D * 2 ^ (52 + s) ≤ N := by
            have := (Nat.le_div_iff_mul_le hb).mp h1
            rw [P52_eq] at this
            rw [Nat.pow_add 2 52 s, m2]
            exact this
          have k2 : N < D * 2 ^ (53 + s) := by
            have := (Nat.div_lt_iff_lt_mul hb).mp (Nat.lt_succ_of_le h2)
            have e : Nat.succ P53m = 2 ^ 53 := P53m_eq
            rw [e] at this
            rw [Nat.pow_add 2 53 s, m2]
            exact this
          refine ⟨Nat.lt_of_lt_of_le (Nat.mul_pos hD (p2 _)) k1, ?_⟩
          rw [rm_is hd hD hr k1 k2 h3 h4, half_div hb, P52_eq]
        · left; rw [if_pos h1, if_pos h2, if_pos h3, if_neg h4]
      · left; rw [if_pos h1, if_pos h2, if_neg h3]
    · left; rw [if_pos h1, if_neg h2]
  · left; rw [if_neg h1]
theorem rb_or {N D E c slow n d : Nat} (hd : 0 < d) (hD : 0 < D) (hr : n * (D * 2 ^ c) = N * 2 ^ E * d) : rb N D E c slow = slow ∨ (0 < N ∧ rb N D E c slow = roundMag n d) := rb0_or hd hD hr
end Mine
end
section
open PySem PySem.W PyProof.Rows PySem.Calls PySem.Spec
set_option maxRecDepth 100000
set_option maxHeartbeats 2000000
namespace Mine
open PySem.Float64
/-- the power and the figures of a float's bits -/
def fx (X : Nat) : Nat := Nat.sub (Nat.div X P52) (nat_lit 1)
def mant (X : Nat) : Nat := Nat.sub X (Nat.mul (fx X) P52)
theorem fx_is (X : Nat) : fx X = X / 2 ^ 52 - 1 := by unfold fx; rw [P52_eq]; rfl
theorem mant_is (X : Nat) : mant X = X - fx X * 2 ^ 52 := by unfold mant; rw [P52_eq]; rfl
theorem nat64 {X : Nat} (h : X < 2 ^ 64) : X.toUInt64.toNat = X := UInt64.toNat_ofNat_of_lt' h
theorem of64 (x : UInt64) : x.toNat.toUInt64 = x := UInt64.ofNat_toNat
theorem mx_div {X : Nat} (h : X ≤ MX) : X / 2 ^ 52 < 2047 := (Nat.div_lt_iff_lt_mul (by decide)).mpr (Nat.lt_of_lt_of_le (Nat.lt_succ_of_le h) (Nat.le_of_eq MX_eq))
theorem mx_63 {X : Nat} (h : X ≤ MX) : X < 2 ^ 63 := Nat.lt_of_le_of_lt h (by decide +kernel)
theorem mx_64 {X : Nat} (h : X ≤ MX) : X < 2 ^ 64 := Nat.lt_of_le_of_lt h (by decide +kernel)
theorem mx_neg {X : Nat} (h : X ≤ MX) : 2 ^ 63 + X < 2 ^ 64 := Nat.lt_of_lt_of_le (Nat.add_lt_add_left (mx_63 h) _) (by decide)
theorem fld1 (X : Nat) {q : Nat} (hq : X / 2 ^ 52 = q + 1) : 2 ^ 52 + X % 2 ^ 52 = X - q * 2 ^ 52 := by omega
theorem fld0 {X : Nat} (hq : X / 2 ^ 52 = 0) : X % 2 ^ 52 = X := Nat.mod_eq_of_lt (Nat.lt_of_div_eq_zero (by decide) hq)
theorem dec_fld {x : UInt64} {s : Bool} {X : Nat} (h1 : (x.toNat / 2 ^ 63 == 1) = s) (h2 : x.toNat / 2 ^ 52 % 2048 = X / 2 ^ 52) (h3 : x.toNat % 2 ^ 52 = X % 2 ^ 52) (h : X / 2 ^ 52 < 2047) : decode x = .fin s (mant X) ((fx X : Int) - 1074) := by
  unfold decode
  rw [h1, h2, h3, mant_is, fx_is]
  dsimp only
  rw [if_neg (by rw [beq_iff_eq]; exact Nat.ne_of_lt h)]
  by_cases h0 : X / 2 ^ 52 = 0
  · rw [if_pos (by rw [beq_iff_eq]; exact h0), h0, fld0 h0, Nat.zero_sub, Nat.zero_mul, Nat.sub_zero]; rfl
  · rw [if_neg (by rw [beq_iff_eq]; exact h0)]
    obtain ⟨q, hq⟩ := Nat.exists_eq_succ_of_ne_zero h0
    rw [fld1 X hq, hq, Nat.succ_sub_one]
    have e2 : ((q + 1 : Nat) : Int) - 1075 = (q : Int) - 1074 := by clear hq h0 h h1 h2 h3; omega
    rw [e2]
theorem decode_neg {X : Nat} (h : X ≤ MX) : decode (2 ^ 63 + X).toUInt64 = .fin true (mant X) ((fx X : Int) - 1074) := by
  have hx := mx_63 h
  have hd := mx_div h
  refine dec_fld ?_ ?_ ?_ hd <;> rw [nat64 (mx_neg h)]
  · rw [beq_iff_eq]; clear h hd; omega
  · clear h; omega
  · clear h hx hd; omega
theorem decode_pos {X : Nat} (h : X ≤ MX) : decode X.toUInt64 = .fin false (mant X) ((fx X : Int) - 1074) := by
  have hx := mx_63 h
  have hd := mx_div h
  refine dec_fld ?_ ?_ ?_ hd <;> rw [nat64 (mx_64 h)]
  · rw [Nat.div_eq_of_lt hx]; rfl
  · exact Nat.mod_eq_of_lt (Nat.lt_trans hd (by decide))
theorem pack_false (n : Nat) : pack false n = n.toUInt64 := by unfold pack; rw [if_neg (by decide), Nat.zero_add]
theorem pack_true (n : Nat) : pack true n = (2 ^ 63 + n).toUInt64 := by unfold pack; rw [if_pos rfl]
theorem sh_ratio {k : Int} (E c : Nat) (hk : k = (E : Int) - (c : Int)) : 2 ^ k.toNat * 2 ^ c = 2 ^ E * 2 ^ (-k).toNat := by
  have := eq_scale (x := 2 ^ c) (y := 2 ^ E) E c hk (Nat.mul_comm _ _)
  rw [Nat.mul_comm, this]
theorem ofBin_is (s : Bool) (m : Nat) (e : Int) : ofBin s m e = pack s (roundMag (m * 2 ^ e.toNat) (2 ^ (-e).toNat)) := by
  unfold ofBin ofFrac
  rw [shift_is]
  dsimp only
  rw [Nat.one_mul]
theorem roundMag_zero (d : Nat) : roundMag 0 d = 0 := by unfold roundMag; exact if_pos (by decide)
/-- one step: the fast road's word, or the model's own -/
theorem bin_rb {N E c slow m : Nat} {k : Int} (c' j : Nat) (hN : N = m * 2 ^ j) (hk : k = (E : Int) - (c' : Int)) (hc : c = c' + j) (hs : slow.toUInt64 = ofBin false m k) :
    (rb N 1 E c slow).toUInt64 = ofBin false m k := by
  subst hN hc
  rw [ofBin_is, pack_false] at *
  rcases rb_or (N := m * 2 ^ j) (D := 1) (E := E) (c := c' + j) (slow := slow) (n := m * 2 ^ k.toNat) (d := 2 ^ (-k).toNat) (p2 _) (by decide) (by
    have := sh_ratio E c' hk
    rw [Nat.one_mul, Nat.pow_add 2 c' j, ← Nat.mul_assoc, Nat.mul_assoc m, this]
    generalize 2 ^ E = u
    generalize 2 ^ (-k).toNat = v
    generalize 2 ^ j = w
    ac_rfl) with h | ⟨_, h⟩
  · rw [h]; exact hs
  · rw [h]
theorem mant_sp {X : Nat} (h : P52 ≤ X) : fx X * 2 ^ 52 + mant X = X ∧ 2 ^ 52 ≤ mant X ∧ mant X < 2 ^ 53 := by
  have hP := P52_eq
  have hf := fx_is X
  have hm := mant_is X
  omega
theorem fx_lt {X : Nat} (h : X ≤ MX) : fx X ≤ 2045 := by
  rw [fx_is]
  exact Nat.sub_le_of_le_add (Nat.le_of_lt_succ (mx_div h))
/-- a float's own bits -/
theorem self_rb {X : Nat} {k : Int} (j : Nat) (h1 : P52 ≤ X) (h2 : X ≤ MX) (hk : k + j = (fx X : Int) - 1074) : ofBin false (mant X * 2 ^ j) k = X.toUInt64 := by
  obtain ⟨hX, k1, k2⟩ := mant_sp h1
  have hf := fx_lt h2
  rw [ofBin_is, pack_false]
  obtain ⟨c, hc⟩ : ∃ c : Nat, c = 1074 := ⟨_, rfl⟩
  have := sh_ratio (fx X) (c + j) (k := k) (by clear hX k1 k2 h1 h2 hf; omega)
  have k1 : 1 * 2 ^ (52 + 0) ≤ mant X := by rw [Nat.one_mul]; exact k1
  have k2 : mant X < 1 * 2 ^ (53 + 0) := by rw [Nat.one_mul]; exact k2
  rw [rm_is (N := mant X) (D := 1) (E := fx X) (c := c) (s := 0) (p2 _) (by decide) (by
    rw [Nat.pow_add 2 c j] at this
    rw [Nat.one_mul, Nat.mul_assoc (mant X) (2 ^ fx X), ← this]
    generalize 2 ^ k.toNat = u
    generalize 2 ^ j = v
    generalize 2 ^ c = w
    ac_rfl) k1 k2 (by rw [hc]; exact Nat.le_add_left _ _) (by rw [hc, Nat.zero_add, Nat.add_comm]; exact Nat.add_le_add_left hf _)]
  have hh : halfEven (mant X) (1 * 2 ^ 0) = mant X := by
    unfold halfEven
    rw [if_neg (by simp [Nat.mod_one])]
    simp
  rw [hh, hc, Nat.zero_add, Nat.add_sub_cancel, hX]
def mulS (X Y : Nat) : Nat := (Float64.mul X.toUInt64 Y.toUInt64).toNat
def mulD (N E slow : Nat) : Nat := cond (Nat.beq N (nat_lit 0)) (nat_lit 0) (rb N (nat_lit 1) E (nat_lit 2148) slow)
def mulB (X Y : Nat) : Nat := cond (Nat.ble X MX) (cond (Nat.ble Y MX) (mulD (Nat.mul (mant X) (mant Y)) (Nat.add (fx X) (fx Y)) (mulS X Y)) (mulS X Y)) (mulS X Y)
theorem mul_B (X Y : Nat) : Float64.mul X.toUInt64 Y.toUInt64 = (mulB X Y).toUInt64 := by
  have hslow : (mulS X Y).toUInt64 = Float64.mul X.toUInt64 Y.toUInt64 := of64 _
  unfold mulB
  simp only [cond_ble]
  by_cases hX : X ≤ MX
  · by_cases hY : Y ≤ MX
    · rw [if_pos hX, if_pos hY]
      unfold mulD
      rw [cond_beq]
      have e : Float64.mul X.toUInt64 Y.toUInt64 = ofBin false (mant X * mant Y) (((fx X : Int) - 1074) + ((fx Y : Int) - 1074)) := by
        unfold Float64.mul
        rw [decode_pos hX, decode_pos hY]
        rfl
      rw [e] at hslow ⊢
      by_cases h0 : mant X * mant Y = 0
      · rw [if_pos (show Nat.mul (mant X) (mant Y) = 0 from h0), ofBin_is, h0, Nat.zero_mul, roundMag_zero, pack_false]
      · rw [if_neg (show ¬ Nat.mul (mant X) (mant Y) = 0 from h0)]
        exact (bin_rb 2148 0 (by rw [Nat.pow_zero, Nat.mul_one]; rfl) (by show _ = ((fx X + fx Y : Nat) : Int) - _; omega) rfl hslow).symm
    · rw [if_pos hX, if_neg hY]; exact hslow.symm
  · rw [if_neg hX]; exact hslow.symm
end Mine
end
section
open PySem PySem.W PyProof.Rows PySem.Calls PySem.Spec
set_option maxRecDepth 100000
set_option maxHeartbeats 2000000
namespace Mine
open PySem.Float64
theorem xor_top {Y : Nat} (h : Y < 2 ^ 63) : Y ^^^ 2 ^ 63 = 2 ^ 63 + Y := by
  have h1 : (Y ^^^ 2 ^ 63) / 2 ^ 63 = 1 := by
    rw [Nat.xor_div_two_pow, Nat.div_eq_of_lt h]
    decide
  have h2 : (Y ^^^ 2 ^ 63) % 2 ^ 63 = Y := by
    rw [Nat.xor_mod_two_pow, Nat.mod_eq_of_lt h, Nat.mod_self, Nat.xor_zero]
  omega
theorem neg_bits {Y : Nat} (h : Y ≤ MX) : neg Y.toUInt64 = (2 ^ 63 + Y).toUInt64 := by
  have hM := MX_eq
  unfold neg
  rw [if_neg (by unfold Float64.isNaN; rw [decode_pos h]; exact Bool.false_ne_true)]
  apply UInt64.toNat_inj.mp
  rw [UInt64.toNat_xor, nat64 (by omega), nat64 (by omega)]
  have : (pack true 0).toNat = 2 ^ 63 := by decide
  rw [this]
  exact xor_top (by omega)
theorem align_pos (a b : Bool) (m k p q : Nat) : align a m ((p : Int) - 1074) b k ((q : Int) - 1074) = (sgn a (m * 2 ^ (p - q)), sgn b (k * 2 ^ (q - p)), ((p - (p - q) : Nat) : Int) - 1074) := by
  unfold align
  dsimp only
  have e1 : ((p : Int) - 1074 - min ((p : Int) - 1074) ((q : Int) - 1074)).toNat = p - q := by omega
  have e2 : ((q : Int) - 1074 - min ((p : Int) - 1074) ((q : Int) - 1074)).toNat = q - p := by omega
  have e3 : min ((p : Int) - 1074) ((q : Int) - 1074) = ((p - (p - q) : Nat) : Int) - 1074 := by omega
  rw [e1, e2, e3]
theorem add_dec {x y : UInt64} {a b : Bool} {m k : Nat} {e f p q g P : Int} (hx : decode x = .fin a m e) (hy : decode y = .fin b k f) (ha : align a m e b k f = (p, q, g)) (hP : p + q = P) :
    Float64.add x y = if P = 0 then zero (a && b) else ofBin (decide (P < 0)) P.natAbs g := by
  subst hP
  unfold Float64.add
  rw [hx, hy]
  show (match align a m e b k f with | (p, q, g) => if (p + q == 0) = true then zero (a && b) else ofBin (decide (p + q < 0)) (p + q).natAbs g) = _
  rw [ha]
  show (if (p + q == 0) = true then zero (a && b) else ofBin (decide (p + q < 0)) (p + q).natAbs g) = _
  simp only [beq_iff_eq]
theorem sgn_f (n : Nat) : sgn false n = (n : Int) := rfl
theorem sgn_t (n : Nat) : sgn true n = -(n : Int) := rfl
theorem add_e {X Y : Nat} (hX : X ≤ MX) (hY : Y ≤ MX) (h0 : 0 < mant X * 2 ^ (fx X - fx Y) + mant Y * 2 ^ (fx Y - fx X)) :
    Float64.add X.toUInt64 Y.toUInt64 = ofBin false (mant X * 2 ^ (fx X - fx Y) + mant Y * 2 ^ (fx Y - fx X)) (((fx X - (fx X - fx Y) : Nat) : Int) - 1074) := by
  rw [add_dec (P := ((mant X * 2 ^ (fx X - fx Y) + mant Y * 2 ^ (fx Y - fx X) : Nat) : Int)) (decode_pos hX) (decode_pos hY) (align_pos ..) (by rw [sgn_f, sgn_f]; omega)]
  rw [if_neg (by omega), Int.natAbs_natCast]
  have e2 : ∀ n : Nat, decide ((n : Int) < 0) = false := fun n => by rw [decide_eq_false_iff_not]; omega
  rw [e2]
theorem sub_e {X Y : Nat} (hX : X ≤ MX) (hY : Y ≤ MX) (h0 : mant Y * 2 ^ (fx Y - fx X) < mant X * 2 ^ (fx X - fx Y)) :
    Float64.sub X.toUInt64 Y.toUInt64 = ofBin false (mant X * 2 ^ (fx X - fx Y) - mant Y * 2 ^ (fx Y - fx X)) (((fx X - (fx X - fx Y) : Nat) : Int) - 1074) := by
  unfold Float64.sub
  rw [neg_bits hY]
  rw [add_dec (P := ((mant X * 2 ^ (fx X - fx Y) - mant Y * 2 ^ (fx Y - fx X) : Nat) : Int)) (decode_pos hX) (decode_neg hY) (align_pos ..) (by rw [sgn_f, sgn_t]; omega)]
  rw [if_neg (by omega), Int.natAbs_natCast]
  have e2 : ∀ n : Nat, decide ((n : Int) < 0) = false := fun n => by rw [decide_eq_false_iff_not]; omega
  rw [e2]
theorem sub_n {X Y : Nat} (hX : X ≤ MX) (hY : Y ≤ MX) (h0 : mant X * 2 ^ (fx X - fx Y) < mant Y * 2 ^ (fx Y - fx X)) :
    Float64.sub X.toUInt64 Y.toUInt64 = ofBin true (mant Y * 2 ^ (fx Y - fx X) - mant X * 2 ^ (fx X - fx Y)) (((fx X - (fx X - fx Y) : Nat) : Int) - 1074) := by
  unfold Float64.sub
  rw [neg_bits hY]
  rw [add_dec (P := -((mant Y * 2 ^ (fx Y - fx X) - mant X * 2 ^ (fx X - fx Y) : Nat) : Int)) (decode_pos hX) (decode_neg hY) (align_pos ..) (by rw [sgn_f, sgn_t]; omega)]
  rw [if_neg (by omega), Int.natAbs_neg, Int.natAbs_natCast]
  have e2 : decide (-((mant Y * 2 ^ (fx Y - fx X) - mant X * 2 ^ (fx X - fx Y) : Nat) : Int) < 0) = true := by rw [decide_eq_true_iff]; omega
  rw [e2]
theorem sub_self {X : Nat} (hX : X ≤ MX) : Float64.sub X.toUInt64 X.toUInt64 = (0 : Nat).toUInt64 := by
  unfold Float64.sub
  rw [neg_bits hX]
  rw [add_dec (P := 0) (decode_pos hX) (decode_neg hX) (align_pos ..) (by rw [sgn_f, sgn_t]; omega)]
  rw [if_pos rfl]
  decide
theorem mant_pos {X : Nat} (h : P52 ≤ X) : 2 ^ 52 ≤ mant X := by
  have hP := P52_eq
  have hf := fx_is X
  have hm := mant_is X
  omega
theorem mant_zero : mant 0 = 0 := by decide +kernel
theorem fx_zero : fx 0 = 0 := by decide +kernel
theorem zero_le : 0 ≤ MX := Nat.zero_le _
theorem add_z {X : Nat} (h1 : P52 ≤ X) (h2 : X ≤ MX) : Float64.add X.toUInt64 (0 : Nat).toUInt64 = X.toUInt64 := by
  have h := mant_pos h1
  have hp : 0 < mant X * 2 ^ (fx X - 0) := Nat.mul_pos (by omega) (p2 _)
  rw [add_e h2 zero_le (by rw [fx_zero]; exact Nat.lt_of_lt_of_le hp (Nat.le_add_right _ _)), mant_zero, fx_zero, Nat.zero_mul, Nat.add_zero]
  exact self_rb (fx X - 0) h1 h2 (by omega)
theorem z_add {X : Nat} (h1 : P52 ≤ X) (h2 : X ≤ MX) : Float64.add (0 : Nat).toUInt64 X.toUInt64 = X.toUInt64 := by
  have h := mant_pos h1
  have hp : 0 < mant X * 2 ^ (fx X - 0) := Nat.mul_pos (by omega) (p2 _)
  rw [add_e zero_le h2 (by rw [fx_zero]; exact Nat.lt_of_lt_of_le hp (Nat.le_add_left _ _)), mant_zero, fx_zero, Nat.zero_mul, Nat.zero_add]
  exact self_rb (fx X - 0) h1 h2 (by omega)
theorem sub_z {X : Nat} (h1 : P52 ≤ X) (h2 : X ≤ MX) : Float64.sub X.toUInt64 (0 : Nat).toUInt64 = X.toUInt64 := by
  have h := mant_pos h1
  have hp : 0 < mant X * 2 ^ (fx X - 0) := Nat.mul_pos (by omega) (p2 _)
  rw [sub_e h2 zero_le (by rw [mant_zero, fx_zero, Nat.zero_mul]; exact hp), mant_zero, fx_zero, Nat.zero_mul, Nat.sub_zero]
  exact self_rb (fx X - 0) h1 h2 (by omega)
def addS (X Y : Nat) : Nat := (Float64.add X.toUInt64 Y.toUInt64).toNat
def addD (m k a b slow : Nat) : Nat := rb (Nat.add (Nat.mul m (Nat.pow (nat_lit 2) (Nat.sub a b))) (Nat.mul k (Nat.pow (nat_lit 2) (Nat.sub b a)))) (nat_lit 1) (Nat.sub a (Nat.sub a b)) (nat_lit 1074) slow
def addC (X Y slow : Nat) : Nat := cond (Nat.ble P52 X) (cond (Nat.ble P52 Y) (addD (mant X) (mant Y) (fx X) (fx Y) slow) (cond (Nat.beq Y (nat_lit 0)) X slow)) (cond (Nat.beq X (nat_lit 0)) (cond (Nat.ble P52 Y) Y slow) slow)
def addB (X Y : Nat) : Nat := cond (Nat.ble X MX) (cond (Nat.ble Y MX) (addC X Y (addS X Y)) (addS X Y)) (addS X Y)
theorem add_B (X Y : Nat) : Float64.add X.toUInt64 Y.toUInt64 = (addB X Y).toUInt64 := by
  have hslow : (addS X Y).toUInt64 = Float64.add X.toUInt64 Y.toUInt64 := of64 _
  unfold addB addC
  simp only [cond_ble, cond_beq]
  split
  · split
    · split
      · split
        · rename_i hX hY h1 h2
          have h := mant_pos h1
          have e := add_e hX hY (Nat.lt_of_lt_of_le (Nat.mul_pos (by omega) (p2 _)) (Nat.le_add_right _ _))
          rw [e] at hslow ⊢
          exact (bin_rb 1074 0 (by rw [Nat.pow_zero, Nat.mul_one]; rfl) rfl rfl hslow).symm
        · split
          · rename_i hX hY h1 h2 h3
            have h3 : Y = 0 := h3
            rw [h3]; exact add_z h1 hX
          · exact hslow.symm
      · split
        · split
          · rename_i hX hY h1 h3 h2
            have h3 : X = 0 := h3
            rw [h3]; exact z_add h2 hY
          · exact hslow.symm
        · exact hslow.symm
    · exact hslow.symm
  · exact hslow.symm
def subS (X Y : Nat) : Nat := (Float64.sub X.toUInt64 Y.toUInt64).toNat
def subE (N M E slow : Nat) : Nat := cond (Nat.ble N M) slow (rb (Nat.mul (Nat.sub N M) (Nat.pow (nat_lit 2) (nat_lit 60))) (nat_lit 1) E (nat_lit 1134) slow)
def subD (m k a b slow : Nat) : Nat := subE (Nat.mul m (Nat.pow (nat_lit 2) (Nat.sub a b))) (Nat.mul k (Nat.pow (nat_lit 2) (Nat.sub b a))) (Nat.sub a (Nat.sub a b)) slow
def subC (X Y slow : Nat) : Nat := cond (Nat.beq X Y) (nat_lit 0) (cond (Nat.ble P52 Y) (subD (mant X) (mant Y) (fx X) (fx Y) slow) (cond (Nat.beq Y (nat_lit 0)) (cond (Nat.ble P52 X) X slow) slow))
def subB (X Y : Nat) : Nat := cond (Nat.ble X MX) (cond (Nat.ble Y MX) (subC X Y (subS X Y)) (subS X Y)) (subS X Y)
theorem sub_B (X Y : Nat) : Float64.sub X.toUInt64 Y.toUInt64 = (subB X Y).toUInt64 := by
  have hslow : (subS X Y).toUInt64 = Float64.sub X.toUInt64 Y.toUInt64 := of64 _
  unfold subB subC subD subE
  simp only [cond_ble, cond_beq]
  split
  · split
    · split
      · rename_i hX hY h
        subst h; exact sub_self hX
      · split
        · split
          · exact hslow.symm
          · rename_i hX hY h0 h1 h2
            have h2' : mant Y * 2 ^ (fx Y - fx X) < mant X * 2 ^ (fx X - fx Y) := Nat.lt_of_not_le h2
            have e := sub_e hX hY h2'
            rw [e] at hslow ⊢
            exact (bin_rb 1074 60 rfl rfl rfl hslow).symm
        · split
          · split
            · rename_i hX hY h0 h1 h2 h3
              have h2 : Y = 0 := h2
              rw [h2]; exact sub_z h3 hX
            · exact hslow.symm
          · exact hslow.symm
    · exact hslow.symm
  · exact hslow.symm
def divS (X Y : Nat) : Nat := (Float64.div X.toUInt64 Y.toUInt64).toNat
def divE (m k a b slow : Nat) : Nat := cond (Nat.beq m (nat_lit 0)) (nat_lit 0) (rb (Nat.mul m (Nat.pow (nat_lit 2) (nat_lit 60))) k a (Nat.add b (nat_lit 60)) slow)
def divB (X Y : Nat) : Nat := cond (Nat.ble X MX) (cond (Nat.ble Y MX) (cond (Nat.ble P52 Y) (divE (mant X) (mant Y) (fx X) (fx Y) (divS X Y)) (divS X Y)) (divS X Y)) (divS X Y)
theorem div_e (s : Bool) {m : Nat} {X Y : Nat} {x : UInt64} (hX : decode x = .fin s m ((fx X : Int) - 1074)) (hY : Y ≤ MX) (h1 : P52 ≤ Y) : Float64.div x Y.toUInt64 = pack s (roundMag (m * 2 ^ ((fx X : Int) - (fx Y : Int)).toNat) (mant Y * 2 ^ (-((fx X : Int) - (fx Y : Int))).toNat)) := by
  have h := mant_pos h1
  unfold Float64.div
  rw [hX, decode_pos hY]
  dsimp only
  rw [if_neg (by rw [beq_iff_eq]; omega), shift_is]
  have e : (fx X : Int) - 1074 - ((fx Y : Int) - 1074) = (fx X : Int) - (fx Y : Int) := by omega
  rw [e]
  unfold ofFrac
  cases s <;> rfl
theorem div_B (X Y : Nat) : Float64.div X.toUInt64 Y.toUInt64 = (divB X Y).toUInt64 := by
  have hslow : (divS X Y).toUInt64 = Float64.div X.toUInt64 Y.toUInt64 := of64 _
  unfold divB divE
  simp only [cond_ble, cond_beq]
  split
  · split
    · split
      · rename_i hX hY h1
        have h := mant_pos h1
        have e := div_e (s := false) (X := X) (decode_pos hX) hY h1
        rw [e, pack_false] at hslow ⊢
        split
        · rename_i h0
          have h0 : mant X = 0 := h0
          rw [h0, Nat.zero_mul, roundMag_zero]
        · rcases rb_or (N := mant X * 2 ^ 60) (D := mant Y) (E := fx X) (c := fx Y + 60) (slow := divS X Y) (n := mant X * 2 ^ ((fx X : Int) - (fx Y : Int)).toNat) (d := mant Y * 2 ^ (-((fx X : Int) - (fx Y : Int))).toNat) (Nat.mul_pos (by omega) (p2 _)) (by omega) (by
            have := sh_ratio (k := (fx X : Int) - (fx Y : Int)) (fx X) (fx Y) rfl
            rw [Nat.pow_add 2 (fx Y) 60]
            generalize 2 ^ ((fx X : Int) - (fx Y : Int)).toNat = u at *
            generalize 2 ^ (-((fx X : Int) - (fx Y : Int))).toNat = v at *
            generalize 2 ^ fx Y = a at *
            generalize 2 ^ fx X = b at *
            generalize 2 ^ 60 = w at *
            have e1 : mant X * u * (mant Y * (a * w)) = mant X * w * mant Y * (u * a) := by ac_rfl
            have e2 : mant X * w * b * (mant Y * v) = mant X * w * mant Y * (b * v) := by ac_rfl
            rw [e1, e2, this]) with h | ⟨_, h⟩
          · exact hslow.symm.trans (congrArg Nat.toUInt64 h.symm)
          · exact congrArg Nat.toUInt64 h.symm
      · exact hslow.symm
    · exact hslow.symm
  · exact hslow.symm
def fracB (a b : Nat) : Nat := cond (Nat.beq a (nat_lit 0)) (nat_lit 0) (rb (Nat.mul a (Nat.pow (nat_lit 2) (nat_lit 60))) b (nat_lit 0) (nat_lit 60) (roundMag a b))
theorem frac_B {a b : Nat} (hb : 0 < b) : ofFrac false a b = (fracB a b).toUInt64 := by
  unfold fracB ofFrac
  rw [cond_beq, pack_false]
  split
  · rename_i h0
    have h0 : a = 0 := h0
    rw [h0, roundMag_zero]
  · rcases rb_or (N := a * 2 ^ 60) (D := b) (E := 0) (c := 60) (slow := roundMag a b) (n := a) (d := b) hb hb (by
      generalize 2 ^ 60 = w
      rw [Nat.pow_zero, Nat.mul_one]
      ac_rfl) with h | ⟨_, h⟩
    · exact congrArg Nat.toUInt64 h.symm
    · exact congrArg Nat.toUInt64 h.symm
def trB (X : Nat) : Nat := Nat.div (mant X) (Nat.pow (nat_lit 2) (Nat.sub (nat_lit 1074) (fx X)))
def TRM : Nat := nat_lit 4841369599423283200
theorem TRM_eq : TRM = 1075 * 2 ^ 52 := by decide +kernel
theorem TRM_le : TRM ≤ MX := by decide +kernel
theorem tr_B {X : Nat} (h : X ≤ TRM) : Flt.toInt truncOf X.toUInt64 = (trB X : Int) := by
  have hT := TRM_eq
  unfold Flt.toInt
  rw [decode_pos (Nat.le_trans h TRM_le)]
  show truncOf false (mant X) ((fx X : Int) - 1074) = ((mant X / 2 ^ (1074 - fx X) : Nat) : Int)
  have hf := fx_is X
  unfold truncOf
  rw [if_neg (by decide)]
  unfold floorOf sgn
  obtain ⟨c, hc⟩ : ∃ c : Nat, c = 1074 := ⟨_, rfl⟩
  have hc' : (1074 : Int) = (c : Int) := by omega
  rw [hc', ← hc]
  by_cases h0 : (fx X : Int) - (c : Int) ≥ 0
  · rw [if_pos h0, if_neg (by decide)]
    have e1 : ((fx X : Int) - (c : Int)).toNat = 0 := by omega
    have e2 : c - fx X = 0 := by omega
    rw [e1, e2]
    simp
  · rw [if_neg h0, if_neg (by decide)]
    have e1 : (-((fx X : Int) - (c : Int))).toNat = c - fx X := by omega
    rw [e1]
    have e2 : (2 : Int) ^ (c - fx X) = ((2 ^ (c - fx X) : Nat) : Int) := by simp
    rw [e2, Int.fdiv_eq_ediv_of_nonneg _ (Int.natCast_nonneg _)]
    rfl
theorem fin_B {X : Nat} (h : X ≤ MX) : isFinite X.toUInt64 = true := by
  unfold isFinite
  rw [decode_pos h]
theorem cmp_zero {S : Nat} (h : S ≤ MX) : (cmp S.toUInt64 0 == some Ordering.eq) = true ↔ S = 0 := by
  have e0 : (0 : UInt64) = (0 : Nat).toUInt64 := rfl
  rw [e0]
  unfold cmp
  rw [decode_pos h, decode_pos zero_le, mant_zero, fx_zero]
  dsimp only
  rw [align_pos]
  dsimp only [sgn]
  rw [if_neg (by decide), if_neg (by decide), Nat.zero_mul]
  have hm := mant_is S
  have hf := fx_is S
  by_cases h0 : S = 0
  · subst h0
    rw [mant_zero, Nat.zero_mul]
    exact ⟨fun _ => rfl, fun _ => by decide⟩
  · have hm0 : 0 < mant S := by omega
    have hp := Nat.mul_pos hm0 (p2 (fx S - 0))
    generalize mant S * 2 ^ (fx S - 0) = q at hp
    have : compare (q : Int) ((0 : Nat) : Int) = .gt := by
      rw [Int.compare_eq_gt]; omega
    rw [this]
    exact ⟨fun e => absurd e (by decide), fun e => absurd e h0⟩
end Mine
end
section
open PySem PySem.W PyProof.Rows PySem.Calls PySem.Spec
set_option maxRecDepth 100000
set_option maxHeartbeats 8000000
namespace Mine
/-- a quotient of two ints as a float -/
def dvI (a b : Int) : UInt64 := Float64.ofFrac (decide (a < 0) != decide (b < 0)) a.natAbs b.natAbs
/-- what painting three floats gives -/
structure PntIs (h s v : UInt64) (a b c : Int) : Prop where
  ok : pntOk h s v = true
  ea : r32 (hsvR h s v).1 = a
  eb : r32 (hsvR h s v).2.1 = b
  ec : r32 (hsvR h s v).2.2 = c
/-- what telling three parts gives -/
structure TldIs (w x y z r g b : Int) : Prop where
  ok : tldOk r g b = true
  er : x - least x y z + w = r
  eg : y - least x y z + w = g
  eb : z - least x y z + w = b
def max3 (x y z : Int) : Int := max (max x y) z
/-- a colour of up to n parts, the least none -/
structure Upto (n x y z : Int) : Prop where
  x0 : 0 ≤ x
  xn : x ≤ n
  y0 : 0 ≤ y
  yn : y ≤ n
  z0 : 0 ≤ z
  zn : z ≤ n
  some0 : x = 0 ∨ y = 0 ∨ z = 0
def wheelX (c : Int) : Int × Int × Int := if c = 0 then (1, 0, 0) else if c = 1 then (1, 1, 0) else if c = 2 then (0, 1, 0) else if c = 3 then (0, 1, 1) else if c = 4 then (0, 0, 1) else (1, 0, 1)
def codeX (c : Int) : Int × Int × Int := if c = 0 then (11, 5, 0) else if c = 1 then (6, 11, 0) else if c = 2 then (0, 11, 5) else if c = 3 then (0, 6, 11) else if c = 4 then (5, 0, 11) else (11, 0, 6)
/-- the place on the wheel, in parts -/
def placeX (x y z : Int) : Int := if x = max3 x y z then (if z ≤ y then y - z else 6 * max3 x y z + y - z) else if y = max3 x y z then 2 * max3 x y z + z - x else 4 * max3 x y z + x - y
def sixX (x y z : Int) : Int := (placeX x y z).fdiv (max3 x y z)
def one : UInt64 := 4607182418800017408
def half : UInt64 := 4602678819172646912
def mostE (s v : UInt64) : UInt64 := Float64.add (Float64.mul (Float64.mul (Float64.ofInt 32) s) v) 4602678819172646912
def sixE (k : Int) (h : UInt64) : UInt64 := Float64.add (Float64.mul (Float64.ofInt (6 * k)) h) 4602678819172646912
end Mine
end
section
open PySem PySem.W PyProof.Rows PySem.Calls PySem.Spec
set_option maxRecDepth 100000
set_option maxHeartbeats 2000000
namespace Mine
open PySem.Float64
def SIX : Nat := nat_lit 4618441417868443648
def ONE : Nat := nat_lit 4607182418800017408
def HALF : Nat := nat_lit 4602678819172646912
def TWO : Nat := nat_lit 4611686018427387904
def FOUR : Nat := nat_lit 4616189618054758400
theorem SIX_le : SIX ≤ MX := by decide +kernel
theorem ONE_le : ONE ≤ MX := by decide +kernel
theorem SIX_ge : P52 ≤ SIX := by decide +kernel
theorem ONE_ge : P52 ≤ ONE := by decide +kernel
theorem six_is : (4618441417868443648 : UInt64) = SIX.toUInt64 := by decide
theorem one_is : (4607182418800017408 : UInt64) = ONE.toUInt64 := by decide
theorem half_is : (4602678819172646912 : UInt64) = HALF.toUInt64 := by decide
theorem two_is : (4611686018427387904 : UInt64) = TWO.toUInt64 := by decide
theorem four_is : (4616189618054758400 : UInt64) = FOUR.toUInt64 := by decide
theorem mant_lt {X : Nat} : mant X < 2 ^ 53 := by
  have hf := fx_is X
  have hm := mant_is X
  omega
theorem mant_ge {X : Nat} (h : 0 < fx X) : 2 ^ 52 ≤ mant X := by
  have hf := fx_is X
  have hm := mant_is X
  omega
theorem fx_le {X Y : Nat} (h : X ≤ Y) : fx X ≤ fx Y := by
  rw [fx_is, fx_is]
  exact Nat.sub_le_sub_right (Nat.div_le_div_right h) 1
theorem mant_same {X Y : Nat} (h : X < Y) (he : fx X = fx Y) : mant X < mant Y := by
  have hf := fx_is Y
  have hm := mant_is Y
  have hx := mant_is X
  rw [he] at hx
  omega
/-- the order of bits is the order of numbers -/
theorem bits_lt {X Y : Nat} (h : X < Y) : mant X * 2 ^ (fx X - fx Y) < mant Y * 2 ^ (fx Y - fx X) := by
  by_cases he : fx X = fx Y
  · rw [he, Nat.sub_self, Nat.pow_zero, Nat.mul_one, Nat.mul_one]
    exact mant_same h he
  · have hlt : fx X < fx Y := Nat.lt_of_le_of_ne (fx_le (Nat.le_of_lt h)) he
    rw [Nat.sub_eq_zero_of_le (Nat.le_of_lt hlt), Nat.pow_zero, Nat.mul_one]
    have h1 := mant_lt (X := X)
    have h2 := mant_ge (X := Y) (Nat.lt_of_le_of_lt (Nat.zero_le _) hlt)
    obtain ⟨j, hj⟩ := Nat.exists_eq_succ_of_ne_zero (Nat.sub_ne_zero_of_lt hlt)
    rw [hj, Nat.pow_succ]
    have h3 : mant Y * 1 ≤ mant Y * 2 ^ j := Nat.mul_le_mul_left _ (p2 j)
    rw [← Nat.mul_assoc]
    clear hj hlt he h
    omega
theorem cmp_B {X Y : Nat} (hX : X ≤ MX) (hY : Y ≤ MX) : cmp X.toUInt64 Y.toUInt64 = some (compare X Y) := by
  unfold cmp
  rw [decode_pos hX, decode_pos hY]
  dsimp only
  rw [align_pos]
  show some (compare (sgn false (mant X * 2 ^ (fx X - fx Y))) (sgn false (mant Y * 2 ^ (fx Y - fx X)))) = _
  rw [sgn_f, sgn_f]
  congr 1
  rcases Nat.lt_trichotomy X Y with h | h | h
  · have := bits_lt h
    rw [Nat.compare_eq_lt.mpr h, Int.compare_eq_lt]
    exact Int.ofNat_lt.mpr this
  · subst h
    rw [Nat.compare_eq_eq.mpr rfl, Int.compare_eq_eq]
  · have := bits_lt h
    rw [Nat.compare_eq_gt.mpr h, Int.compare_eq_gt]
    exact Int.ofNat_lt.mpr this
theorem isZero_B {X : Nat} (hX : X ≤ MX) : isZero X.toUInt64 = decide (X = 0) := by
  have hf := fx_is X
  have hm := mant_is X
  unfold isZero
  rw [decode_pos hX]
  by_cases h : X = 0
  · subst h; rw [mant_zero]; rfl
  · obtain ⟨j, hj⟩ : ∃ j, mant X = j + 1 := ⟨mant X - 1, by omega⟩
    rw [hj, decide_eq_false h]; rfl
theorem isZero_neg {X : Nat} (hX : X ≤ MX) (h : X ≠ 0) : isZero (2 ^ 63 + X).toUInt64 = false := by
  have hf := fx_is X
  have hm := mant_is X
  unfold isZero
  rw [decode_neg hX]
  obtain ⟨j, hj⟩ : ∃ j, mant X = j + 1 := ⟨mant X - 1, by omega⟩
  rw [hj]; rfl
theorem fmod_dec {x y : UInt64} {a b : Bool} {m k : Nat} {e f : Int} {p q : Nat} {g : Int} (hx : decode x = .fin a m e) (hy : decode y = .fin b k f) (hk : k ≠ 0) (ha : align false m e false k f = ((p : Int), (q : Int), g)) (hpq : p < q) : fmod x y = ofBin a p g := by
  unfold fmod
  rw [hx, hy]
  show (if (k == 0) = true then nan else match align false m e false k f with | (p, q, g) => ofBin a (p.toNat % q.toNat) g) = _
  rw [if_neg (by rw [beq_iff_eq]; exact hk), ha]
  show ofBin a ((p : Int).toNat % (q : Int).toNat) g = _
  rw [Int.toNat_natCast, Int.toNat_natCast, Nat.mod_eq_of_lt hpq]
theorem bin_zero (k : Int) : ofBin false 0 k = (0 : Nat).toUInt64 := by rw [ofBin_is, Nat.zero_mul, roundMag_zero, pack_false]
/-- a float's own bits, or nought -/
theorem self_any {X : Nat} {k : Int} (j : Nat) (h1 : X = 0 ∨ P52 ≤ X) (h2 : X ≤ MX) (hk : k + j = (fx X : Int) - 1074) : ofBin false (mant X * 2 ^ j) k = X.toUInt64 := by
  rcases h1 with rfl | h1
  · rw [mant_zero, Nat.zero_mul]; exact bin_zero _
  · exact self_rb j h1 h2 hk
theorem hue_pos {H W : Nat} (hH : Float64.div H.toUInt64 SIX.toUInt64 = W.toUInt64) (h0 : W = 0 ∨ P52 ≤ W) (h1 : W < ONE) : hueOf H.toUInt64 = W.toUInt64 := by
  have hW : W ≤ MX := Nat.le_trans (Nat.le_of_lt h1) ONE_le
  unfold hueOf
  rw [six_is, one_is, hH]
  have hm : fmod W.toUInt64 ONE.toUInt64 = W.toUInt64 := by
    rw [fmod_dec (decode_pos hW) (decode_pos ONE_le) (by decide +kernel) (align_pos ..) (bits_lt h1)]
    exact self_any _ h0 hW (by omega)
  unfold divmod
  rw [hm]
  dsimp only
  rw [isZero_B hW]
  by_cases hz : W = 0
  · subst hz
    rw [if_pos (by decide)]
    show copysign (zero false) ONE.toUInt64 = _
    decide +kernel
  · rw [if_neg (by simp [hz]), if_neg ?_]
    unfold lt
    have ez : zero false = (0 : Nat).toUInt64 := by decide
    rw [ez, cmp_B ONE_le zero_le, cmp_B hW zero_le]
    have e1 : compare W 0 = .gt := Nat.compare_eq_gt.mpr (by omega)
    have e2 : compare ONE 0 = .gt := Nat.compare_eq_gt.mpr (by decide +kernel)
    rw [e1, e2]
    decide
theorem roundMag_le (n d : Nat) : roundMag n d ≤ MX + 1 := by
  have hM := MX_eq
  have hi := infMag_is
  unfold roundMag
  split
  · exact Nat.zero_le _
  · dsimp only
    refine Nat.le_trans (Nat.min_le_left _ _) ?_
    omega
theorem bin_true (m : Nat) (k : Int) {Z : Nat} (hZ : Z ≤ MX) (h : ofBin false m k = Z.toUInt64) : ofBin true m k = (2 ^ 63 + Z).toUInt64 := by
  have hM := MX_eq
  rw [ofBin_is, pack_false] at h
  rw [ofBin_is, pack_true]
  have h1 := roundMag_le (m * 2 ^ k.toNat) (2 ^ (-k).toNat)
  have h2 := congrArg UInt64.toNat h
  rw [nat64 (by omega), nat64 (by omega)] at h2
  rw [h2]
theorem sub_neg {X Y Z : Nat} (hX : X ≤ MX) (hY : Y ≤ MX) (h : X < Y) (hZ : Z ≤ MX) (e : Float64.sub Y.toUInt64 X.toUInt64 = Z.toUInt64) : Float64.sub X.toUInt64 Y.toUInt64 = (2 ^ 63 + Z).toUInt64 := by
  have h0 := bits_lt h
  rw [sub_e hY hX h0] at e
  rw [sub_n hX hY h0]
  have e1 : fx X - (fx X - fx Y) = fx Y - (fx Y - fx X) := by omega
  rw [e1]
  exact bin_true _ _ hZ e
theorem div_neg {X W : Nat} (hX : X ≤ MX) (hW : W ≤ MX) (e : Float64.div X.toUInt64 SIX.toUInt64 = W.toUInt64) : Float64.div (2 ^ 63 + X).toUInt64 SIX.toUInt64 = (2 ^ 63 + W).toUInt64 := by
  have hM := MX_eq
  rw [div_e (s := false) (X := X) (decode_pos hX) SIX_le SIX_ge, pack_false] at e
  rw [div_e (s := true) (X := X) (decode_neg hX) SIX_le SIX_ge, pack_true]
  have h2 := congrArg UInt64.toNat e
  rw [nat64 (Nat.lt_of_le_of_lt (roundMag_le _ _) (by omega)), nat64 (by omega)] at h2
  rw [h2]
theorem neg_add {W : Nat} (hW : W ≤ MX) (h : W < ONE) : Float64.add (2 ^ 63 + W).toUInt64 ONE.toUInt64 = Float64.sub ONE.toUInt64 W.toUInt64 := by
  have h0 := bits_lt h
  rw [sub_e ONE_le hW h0]
  rw [add_dec (P := ((mant ONE * 2 ^ (fx ONE - fx W) - mant W * 2 ^ (fx W - fx ONE) : Nat) : Int)) (decode_neg hW) (decode_pos ONE_le) (align_pos ..) (by rw [sgn_f, sgn_t]; omega)]
  rw [if_neg (by omega), Int.natAbs_natCast]
  have e2 : ∀ n : Nat, decide ((n : Int) < 0) = false := fun n => by rw [decide_eq_false_iff_not]; omega
  rw [e2]
  have e1 : fx W - (fx W - fx ONE) = fx ONE - (fx ONE - fx W) := by omega
  rw [e1]
theorem hue_neg {X Y Z W : Nat} (hX : X ≤ MX) (hY : Y ≤ MX) (h : X < Y) (hZ : Z ≤ MX) (e : Float64.sub Y.toUInt64 X.toUInt64 = Z.toUInt64) (hH : Float64.div Z.toUInt64 SIX.toUInt64 = W.toUInt64) (h0 : P52 ≤ W) (h1 : W < ONE) : hueOf (Float64.sub X.toUInt64 Y.toUInt64) = Float64.sub ONE.toUInt64 W.toUInt64 := by
  have hW : W ≤ MX := Nat.le_trans (Nat.le_of_lt h1) ONE_le
  have hP := P52_eq
  rw [sub_neg hX hY h hZ e]
  unfold hueOf
  rw [six_is, one_is, div_neg hZ hW hH]
  have hm : fmod (2 ^ 63 + W).toUInt64 ONE.toUInt64 = (2 ^ 63 + W).toUInt64 := by
    rw [fmod_dec (decode_neg hW) (decode_pos ONE_le) (by decide +kernel) (align_pos ..) (bits_lt h1)]
    exact bin_true _ _ hW (self_any _ (.inr h0) hW (by omega))
  unfold divmod
  rw [hm]
  dsimp only
  rw [isZero_neg hW (by omega)]
  rw [if_neg (by decide), if_pos ?_]
  · exact neg_add hW h1
  · unfold lt
    have ez : zero false = (0 : Nat).toUInt64 := by decide
    rw [ez, cmp_B ONE_le zero_le]
    have e2 : compare ONE 0 = .gt := Nat.compare_eq_gt.mpr (by decide +kernel)
    have e1 : cmp (2 ^ 63 + W).toUInt64 (0 : Nat).toUInt64 = some .lt := by
      unfold cmp
      rw [decode_neg hW, decode_pos zero_le, mant_zero, fx_zero]
      dsimp only
      rw [align_pos]
      show some (compare (sgn true (mant W * 2 ^ (fx W - 0))) (sgn false (0 * 2 ^ (0 - fx W)))) = _
      rw [sgn_f, sgn_t, Nat.zero_mul]
      congr 1
      rw [Int.compare_eq_lt]
      have hp : 0 < mant W * 2 ^ (fx W - 0) := Nat.mul_pos (by have := mant_pos h0; omega) (p2 _)
      omega
    rw [e1, e2]
    decide
end Mine
end
section
open PySem PySem.W PyProof.Rows PySem.Calls PySem.Spec
set_option maxRecDepth 100000
set_option maxHeartbeats 2000000
namespace Mine
open PySem.Float64
/-- faults counted -/
def sumN (n : Nat) (f : Nat → Nat) : Nat := Nat.rec (nat_lit 0) (fun i a => Nat.add a (f i)) n
theorem sumN_zero {f : Nat → Nat} : ∀ {n : Nat}, sumN n f = 0 → ∀ i, i < n → f i = 0
  | 0, _, i, hi => absurd hi (Nat.not_lt_zero _)
  | n + 1, h, i, hi => by
    have h' : sumN n f + f n = 0 := h
    have h1 : sumN n f = 0 := by omega
    have h2 : f n = 0 := by omega
    rcases Nat.lt_succ_iff_lt_or_eq.mp hi with hi | hi
    · exact sumN_zero h1 i hi
    · rw [hi]; exact h2
theorem beq_zero {n : Nat} (h : Nat.beq n 0 = true) : n = 0 := Nat.beq_eq.mp h
/-- a fault unless -/
def ckEq (a b r : Nat) : Nat := cond (Nat.beq a b) r (nat_lit 1)
def ckLe (a b r : Nat) : Nat := cond (Nat.ble a b) r (nat_lit 1)
theorem ckEq_ok {a b r : Nat} (h : ckEq a b r = 0) : a = b ∧ r = 0 := by
  unfold ckEq at h
  rw [cond_beq] at h
  by_cases e : a = b
  · rw [if_pos e] at h; exact ⟨e, h⟩
  · rw [if_neg e] at h; cases h
theorem ckLe_ok {a b r : Nat} (h : ckLe a b r = 0) : a ≤ b ∧ r = 0 := by
  unfold ckLe at h
  rw [cond_ble] at h
  by_cases e : a ≤ b
  · rw [if_pos e] at h; exact ⟨e, h⟩
  · rw [if_neg e] at h; cases h
/-- a 32nd part, a times -/
def D (a : Nat) : Nat := fracB a (nat_lit 32)
theorem dv_D (a : Nat) : dv32 (a : Int) = (D a).toUInt64 := by
  unfold dv32 D
  have e1 : (decide ((a : Int) < 0) != decide ((32 : Int) < 0)) = false := by
    have : decide ((a : Int) < 0) = false := by rw [decide_eq_false_iff_not]; omega
    rw [this]; rfl
  rw [e1, Int.natAbs_natCast]
  exact frac_B (by decide)
theorem dvI_F {a b : Nat} (hb : 0 < b) : dvI (a : Int) (b : Int) = (fracB a b).toUInt64 := by
  unfold dvI
  have e1 : (decide ((a : Int) < 0) != decide ((b : Int) < 0)) = false := by
    have h1 : decide ((a : Int) < 0) = false := by rw [decide_eq_false_iff_not]; omega
    have h2 : decide ((b : Int) < 0) = false := by rw [decide_eq_false_iff_not]; omega
    rw [h1, h2]; rfl
  rw [e1, Int.natAbs_natCast, Int.natAbs_natCast]
  exact frac_B hb
theorem ofInt_F (a : Nat) : ofInt (a : Int) = (fracB a 1).toUInt64 := by
  unfold ofInt
  have h1 : decide ((a : Int) < 0) = false := by rw [decide_eq_false_iff_not]; omega
  rw [h1, Int.natAbs_natCast]
  exact frac_B (by decide)
theorem tab_D : Nat.beq (sumN 32 fun a => ckLe (Nat.succ (D a)) (D (Nat.succ a)) (ckLe (D a) MX (nat_lit 0))) 0 = true := by decide +kernel
theorem D_step {a : Nat} (h : a < 32) : D a < D (a + 1) := (ckLe_ok (sumN_zero (beq_zero tab_D) a h)).1
theorem D_le {a : Nat} (h : a < 32) : D a ≤ MX := (ckLe_ok (ckLe_ok (sumN_zero (beq_zero tab_D) a h)).2).1
theorem D_mono {a b : Nat} (h : a < b) (hb : b < 32) : D a < D b := by
  induction b with
  | zero => omega
  | succ n ih =>
    by_cases e : a = n
    · subst e; exact D_step (by omega)
    · exact Nat.lt_trans (ih (by omega) (by omega)) (D_step (by omega))
theorem D_zero : D 0 = 0 := by decide +kernel
theorem D_inj {a b : Nat} (ha : a < 32) (hb : b < 32) : D a = D b ↔ a = b := by
  refine ⟨fun h => ?_, fun h => by rw [h]⟩
  rcases Nat.lt_trichotomy a b with h' | h' | h'
  · have := D_mono h' hb; omega
  · exact h'
  · have := D_mono h' ha; omega
theorem tab_sub : Nat.beq (sumN 32 fun a => sumN (Nat.succ a) fun b => ckEq (subB (D a) (D b)) (D (Nat.sub a b)) (nat_lit 0)) 0 = true := by decide +kernel
theorem D_sub {a b : Nat} (ha : a < 32) (hb : b ≤ a) : Float64.sub (D a).toUInt64 (D b).toUInt64 = (D (a - b)).toUInt64 := by
  rw [sub_B]
  exact congrArg Nat.toUInt64 (ckEq_ok (sumN_zero (sumN_zero (beq_zero tab_sub) a ha) b (by omega))).1
theorem tab_div : Nat.beq (sumN 31 fun k => sumN (Nat.add k (nat_lit 2)) fun a => ckEq (divB (D a) (D (Nat.succ k))) (fracB a (Nat.succ k)) (nat_lit 0)) 0 = true := by decide +kernel
theorem D_div {a k : Nat} (h0 : 0 < k) (hk : k < 32) (ha : a ≤ k) : Float64.div (D a).toUInt64 (D k).toUInt64 = (fracB a k).toUInt64 := by
  rw [div_B]
  obtain ⟨j, rfl⟩ : ∃ j, k = j + 1 := ⟨k - 1, by omega⟩
  exact congrArg Nat.toUInt64 (ckEq_ok (sumN_zero (sumN_zero (beq_zero tab_div) j (by omega)) a (show a < j + 2 by omega))).1
theorem fmax_D {a b : Nat} (ha : a < 32) (hb : b < 32) : fmax2 (D a).toUInt64 (D b).toUInt64 = (D (max a b)).toUInt64 := by
  unfold fmax2
  rw [cmp_B (D_le ha) (D_le hb)]
  by_cases h : a < b
  · rw [Nat.compare_eq_lt.mpr (D_mono h hb), if_pos (by decide), Nat.max_eq_right (by omega)]
  · have hn : compare (D a) (D b) ≠ .lt := fun e => by
      have := Nat.compare_eq_lt.mp e
      rcases Nat.eq_or_lt_of_not_lt h with e | e
      · subst e; omega
      · have := D_mono e ha; omega
    rw [if_neg (by simpa using hn), Nat.max_eq_left (by omega)]
theorem fmin_D {a b : Nat} (ha : a < 32) (hb : b < 32) : fmin2 (D a).toUInt64 (D b).toUInt64 = (D (min a b)).toUInt64 := by
  unfold fmin2
  rw [cmp_B (D_le hb) (D_le ha)]
  by_cases h : b < a
  · rw [Nat.compare_eq_lt.mpr (D_mono h ha), if_pos (by decide), Nat.min_eq_right (by omega)]
  · have hn : compare (D b) (D a) ≠ .lt := fun e => by
      have := Nat.compare_eq_lt.mp e
      rcases Nat.eq_or_lt_of_not_lt h with e | e
      · subst e; omega
      · have := D_mono e hb; omega
    rw [if_neg (by simpa using hn), Nat.min_eq_left (by omega)]
theorem cmpeq_D {a b : Nat} (ha : a < 32) (hb : b < 32) : ((cmp (D a).toUInt64 (D b).toUInt64 == some Ordering.eq) = true) ↔ a = b := by
  rw [cmp_B (D_le ha) (D_le hb), ← D_inj ha hb, ← Nat.compare_eq_eq]
  simp
theorem mx_D {a b c : Nat} (ha : a < 32) (hb : b < 32) (hc : c < 32) : mx3 (D a).toUInt64 (D b).toUInt64 (D c).toUInt64 = (D (max (max a b) c)).toUInt64 := by
  unfold mx3
  rw [fmax_D ha hb, fmax_D (by omega) hc]
theorem mn_D {a b c : Nat} (ha : a < 32) (hb : b < 32) (hc : c < 32) : mn3 (D a).toUInt64 (D b).toUInt64 (D c).toUInt64 = (D (min (min a b) c)).toUInt64 := by
  unfold mn3
  rw [fmin_D ha hb, fmin_D (by omega) hc]
/-- the quotient's float -/
def F (a b : Nat) : UInt64 := (fracB a b).toUInt64
/-- the hue told, of parts x, y, z, the most k -/
def hueX (x y z k : Nat) : UInt64 :=
  if x = k then hueOf (Float64.sub (F (k - z) k) (F (k - y) k))
  else if y = k then hueOf (Float64.sub (Float64.add TWO.toUInt64 (F (k - x) k)) (F (k - z) k))
  else hueOf (Float64.sub (Float64.add FOUR.toUInt64 (F (k - y) k)) (F (k - x) k))
theorem lt_max3 {a b c : Nat} (ha : a < 32) (hb : b < 32) (hc : c < 32) : max (max a b) c < 32 := Nat.max_lt.mpr ⟨Nat.max_lt.mpr ⟨ha, hb⟩, hc⟩
theorem min_le_max {a b c : Nat} : min (min a b) c ≤ max (max a b) c := Nat.le_trans (Nat.min_le_right _ _) (Nat.le_max_right _ _)
theorem rgb_ok {a b c : Nat} (ha : a < 32) (hb : b < 32) (hc : c < 32) : rgbOk (D a).toUInt64 (D b).toUInt64 (D c).toUInt64 = true := by
  unfold rgbOk rng
  rw [mx_D ha hb hc, mn_D ha hb hc, D_sub (lt_max3 ha hb hc) min_le_max]
  have hM := lt_max3 ha hb hc
  have hm := min_le_max (a := a) (b := b) (c := c)
  generalize min (min a b) c = m at *
  generalize max (max a b) c = M at *
  clear ha hb hc
  by_cases h : m = M
  · rw [(cmpeq_D (h ▸ hM) hM).mpr h, Bool.true_or]
  · have h1 : D M ≠ 0 := fun e => by
      rw [← D_zero, D_inj hM (by decide)] at e; omega
    have hl : M - m < 32 := Nat.lt_of_le_of_lt (Nat.sub_le _ _) hM
    have h2 : D (M - m) ≠ 0 := fun e => by
      rw [← D_zero, D_inj hl (by decide)] at e; clear hl h1 hM; omega
    rw [isZero_B (D_le hM), isZero_B (D_le hl), decide_eq_false h1, decide_eq_false h2]
    simp
theorem tld_ok' {a b c : Nat} (ha : a < 32) (hb : b < 32) (hc : c < 32) : tldOk (a : Int) (b : Int) (c : Int) = true := by
  have hi : ∀ n, n < 32 → isInf (D n).toUInt64 = false := fun n hn => by
    unfold Float64.isInf
    rw [decode_pos (D_le hn)]
  unfold tldOk
  rw [dv_D, dv_D, dv_D, hi a ha, hi b hb, hi c hc, rgb_ok ha hb hc]
  rfl
theorem max_add (x y z w : Nat) : max (max (x + w) (y + w)) (z + w) = max (max x y) z + w := by
  rw [← Nat.add_max_add_right, ← Nat.add_max_add_right]
theorem min_add {x y z : Nat} (w : Nat) (h0 : x = 0 ∨ y = 0 ∨ z = 0) : min (min (x + w) (y + w)) (z + w) = w := by
  rw [Nat.add_min_add_right, Nat.add_min_add_right]
  rcases h0 with rfl | rfl | rfl
  · rw [Nat.zero_min, Nat.zero_min, Nat.zero_add]
  · rw [Nat.min_zero, Nat.zero_min, Nat.zero_add]
  · rw [Nat.min_zero, Nat.zero_add]
theorem add_inj {a b w : Nat} : a + w = b + w ↔ a = b := Nat.add_right_cancel_iff
theorem tld_nat {x y z w k : Nat} (hM : max (max (x + w) (y + w)) (z + w) = k + w) (hm : min (min (x + w) (y + w)) (z + w) = w) (hx : x ≤ k) (hy : y ≤ k) (hz : z ≤ k) (hw : k + w < 32) :
    rgbR (D (x + w)).toUInt64 (D (y + w)).toUInt64 (D (z + w)).toUInt64 = if k = 0 then (0, 0, (D w).toUInt64) else (hueX x y z k, F k (k + w), (D (k + w)).toUInt64) := by
  have lx : x + w < 32 := Nat.lt_of_le_of_lt (Nat.add_le_add_right hx w) hw
  have ly : y + w < 32 := Nat.lt_of_le_of_lt (Nat.add_le_add_right hy w) hw
  have lz : z + w < 32 := Nat.lt_of_le_of_lt (Nat.add_le_add_right hz w) hw
  have lw : w < 32 := Nat.lt_of_le_of_lt (Nat.le_add_left w k) hw
  have lk : k < 32 := Nat.lt_of_le_of_lt (Nat.le_add_right k w) hw
  unfold rgbR frc rng
  rw [mx_D lx ly lz, mn_D lx ly lz, hM, hm, D_sub (a := k + w) (b := w) hw (Nat.le_add_left w k),
    D_sub (a := k + w) (b := x + w) hw (Nat.add_le_add_right hx w), D_sub (a := k + w) (b := y + w) hw (Nat.add_le_add_right hy w), D_sub (a := k + w) (b := z + w) hw (Nat.add_le_add_right hz w)]
  rw [Nat.add_sub_cancel, Nat.add_sub_add_right, Nat.add_sub_add_right, Nat.add_sub_add_right]
  have cw : w = k + w ↔ k = 0 := ⟨fun e => by clear hM hm; omega, fun e => by rw [e, Nat.zero_add]⟩
  by_cases hk0 : k = 0
  · rw [if_pos ((cmpeq_D lw hw).mpr (cw.mpr hk0)), if_pos hk0, ← cw.mpr hk0]
  · rw [if_neg (fun e => hk0 (cw.mp ((cmpeq_D lw hw).mp e))), if_neg hk0]
    have kp : 0 < k := Nat.pos_of_ne_zero hk0
    rw [D_div (a := k - x) (k := k) kp lk (Nat.sub_le k x), D_div (a := k - y) (k := k) kp lk (Nat.sub_le k y), D_div (a := k - z) (k := k) kp lk (Nat.sub_le k z), D_div (a := k) (k := k + w) (Nat.lt_of_lt_of_le kp (Nat.le_add_right k w)) hw (Nat.le_add_right k w)]
    unfold hueX F
    by_cases hx : x = k
    · rw [if_pos ((cmpeq_D lx hw).mpr (add_inj.mpr hx)), if_pos hx]
    · rw [if_neg (fun e => hx (add_inj.mp ((cmpeq_D lx hw).mp e))), if_neg hx]
      by_cases hy : y = k
      · rw [if_pos ((cmpeq_D ly hw).mpr (add_inj.mpr hy)), if_pos hy]
        rfl
      · rw [if_neg (fun e => hy (add_inj.mp ((cmpeq_D ly hw).mp e))), if_neg hy]
        rfl
theorem tld_is {x y z w k : Nat} (hk : max (max x y) z = k) (h0 : x = 0 ∨ y = 0 ∨ z = 0) (hw : k + w < 32) :
    tld ((x : Int) + (w : Int)) ((y : Int) + (w : Int)) ((z : Int) + (w : Int)) = if k = 0 then (0, 0, (D w).toUInt64) else (hueX x y z k, F k (k + w), (D (k + w)).toUInt64) := by
  unfold tld
  rw [← Int.natCast_add, ← Int.natCast_add, ← Int.natCast_add, dv_D, dv_D, dv_D]
  refine tld_nat (by rw [max_add, hk]) (min_add w h0) ?_ ?_ ?_ hw
  · exact hk ▸ Nat.le_trans (Nat.le_max_left x y) (Nat.le_max_left _ z)
  · exact hk ▸ Nat.le_trans (Nat.le_max_right x y) (Nat.le_max_left _ z)
  · exact hk ▸ Nat.le_max_right _ z
end Mine
end
section
open PySem PySem.W PyProof.Rows PySem.Calls PySem.Spec
set_option maxRecDepth 100000
set_option maxHeartbeats 2000000
namespace Mine
open PySem.Float64
/-- the hue on bits -/
def hueW (x y z k : Nat) : Nat :=
  cond (Nat.beq x k) (cond (Nat.ble z y) (divB (subB (fracB (Nat.sub k z) k) (fracB (Nat.sub k y) k)) SIX) (subB ONE (divB (subB (fracB (Nat.sub k y) k) (fracB (Nat.sub k z) k)) SIX)))
    (cond (Nat.beq y k) (divB (subB (addB TWO (fracB (Nat.sub k x) k)) (fracB (Nat.sub k z) k)) SIX) (divB (subB (addB FOUR (fracB (Nat.sub k y) k)) (fracB (Nat.sub k x) k)) SIX))
def ckW (W r : Nat) : Nat := cond (Nat.beq W (nat_lit 0)) r (ckLe P52 W (ckLe (Nat.succ W) ONE r))
def ckN (X Y Z W r : Nat) : Nat := ckLe X MX (ckLe Y MX (ckLe (Nat.succ X) Y (ckLe Z MX (ckLe P52 W (ckLe (Nat.succ W) ONE r)))))
def hueCk (x y z k r : Nat) : Nat :=
  cond (Nat.beq x k) (cond (Nat.ble z y) (ckW (divB (subB (fracB (Nat.sub k z) k) (fracB (Nat.sub k y) k)) SIX) r)
      (ckN (fracB (Nat.sub k z) k) (fracB (Nat.sub k y) k) (subB (fracB (Nat.sub k y) k) (fracB (Nat.sub k z) k)) (divB (subB (fracB (Nat.sub k y) k) (fracB (Nat.sub k z) k)) SIX) r))
    (cond (Nat.beq y k) (ckW (divB (subB (addB TWO (fracB (Nat.sub k x) k)) (fracB (Nat.sub k z) k)) SIX) r) (ckW (divB (subB (addB FOUR (fracB (Nat.sub k y) k)) (fracB (Nat.sub k x) k)) SIX) r))
theorem ckW_ok {W r : Nat} (h : ckW W r = 0) : (W = 0 ∨ P52 ≤ W) ∧ W < ONE ∧ r = 0 := by
  unfold ckW at h
  rw [cond_beq] at h
  by_cases e : W = 0
  · rw [if_pos e] at h
    exact ⟨.inl e, by rw [e]; decide +kernel, h⟩
  · rw [if_neg e] at h
    obtain ⟨h1, h⟩ := ckLe_ok h
    obtain ⟨h2, h⟩ := ckLe_ok h
    exact ⟨.inr h1, h2, h⟩
theorem hue_is {x y z k r : Nat} (h : hueCk x y z k r = 0) : hueX x y z k = (hueW x y z k).toUInt64 ∧ r = 0 := by
  unfold hueCk at h
  unfold hueX hueW F
  simp only [cond_beq, cond_ble] at h ⊢
  by_cases hx : x = k
  · rw [if_pos hx] at h ⊢
    rw [if_pos hx]
    by_cases hzy : z ≤ y
    · rw [if_pos hzy] at h ⊢
      obtain ⟨a, b, c⟩ := ckW_ok h
      refine ⟨?_, c⟩
      show hueOf (Float64.sub (fracB (Nat.sub k z) k).toUInt64 (fracB (Nat.sub k y) k).toUInt64) = _
      rw [sub_B]
      exact hue_pos (div_B _ _) a b
    · rw [if_neg hzy] at h ⊢
      unfold ckN at h
      obtain ⟨h1, h⟩ := ckLe_ok h
      obtain ⟨h2, h⟩ := ckLe_ok h
      obtain ⟨h3, h⟩ := ckLe_ok h
      obtain ⟨h4, h⟩ := ckLe_ok h
      obtain ⟨h5, h⟩ := ckLe_ok h
      obtain ⟨h6, h⟩ := ckLe_ok h
      refine ⟨?_, h⟩
      show hueOf (Float64.sub (fracB (Nat.sub k z) k).toUInt64 (fracB (Nat.sub k y) k).toUInt64) = _
      rw [hue_neg h1 h2 h3 h4 (sub_B _ _) (div_B _ _) h5 h6, sub_B]
  · rw [if_neg hx] at h ⊢
    rw [if_neg hx]
    by_cases hy : y = k
    · rw [if_pos hy] at h ⊢
      rw [if_pos hy]
      obtain ⟨a, b, c⟩ := ckW_ok h
      refine ⟨?_, c⟩
      show hueOf (Float64.sub (Float64.add TWO.toUInt64 (fracB (Nat.sub k x) k).toUInt64) (fracB (Nat.sub k z) k).toUInt64) = _
      rw [add_B, sub_B]
      exact hue_pos (div_B _ _) a b
    · rw [if_neg hy] at h ⊢
      rw [if_neg hy]
      obtain ⟨a, b, c⟩ := ckW_ok h
      refine ⟨?_, c⟩
      show hueOf (Float64.sub (Float64.add FOUR.toUInt64 (fracB (Nat.sub k y) k).toUInt64) (fracB (Nat.sub k x) k).toUInt64) = _
      rw [add_B, sub_B]
      exact hue_pos (div_B _ _) a b
/-- 32 parts and a half -/
def r32B (X : Nat) : Nat := addB (mulB (fracB (nat_lit 32) (nat_lit 1)) X) HALF
theorem of32 : Float64.ofInt 32 = (fracB 32 1).toUInt64 := ofInt_F 32
theorem r32_is {X a r : Nat} (h : ckLe (r32B X) TRM (ckEq (trB (r32B X)) a r) = 0) : r32ok X.toUInt64 = true ∧ r32 X.toUInt64 = (a : Int) ∧ r = 0 := by
  obtain ⟨h1, h⟩ := ckLe_ok h
  obtain ⟨h2, h⟩ := ckEq_ok h
  have e : Float64.add (Float64.mul (Float64.ofInt 32) X.toUInt64) 4602678819172646912 = (r32B X).toUInt64 := by
    rw [of32, half_is, mul_B, add_B]; rfl
  unfold r32ok r32
  rw [e]
  exact ⟨fin_B (Nat.le_trans h1 TRM_le), by rw [tr_B h1, h2], h⟩
def ck3 (X Y Z a b c : Nat) : Nat := ckLe (r32B X) TRM (ckEq (trB (r32B X)) a (ckLe (r32B Y) TRM (ckEq (trB (r32B Y)) b (ckLe (r32B Z) TRM (ckEq (trB (r32B Z)) c (nat_lit 0))))))
def pnt3 (j P Q T V a b c : Nat) : Nat :=
  cond (Nat.beq j (nat_lit 0)) (ck3 V T P a b c) (cond (Nat.beq j (nat_lit 1)) (ck3 Q V P a b c) (cond (Nat.beq j (nat_lit 2)) (ck3 P V T a b c) (cond (Nat.beq j (nat_lit 3)) (ck3 P Q V a b c) (cond (Nat.beq j (nat_lit 4)) (ck3 T P V a b c) (ck3 V P Q a b c)))))
def pnt2 (i f S V a b c : Nat) : Nat := ckLe i (nat_lit 1000) (pnt3 (Nat.mod i (nat_lit 6)) (mulB V (subB ONE S)) (mulB V (subB ONE (mulB S f))) (mulB V (subB ONE (mulB S (subB ONE f)))) V a b c)
def pnt1 (G S V a b c : Nat) : Nat := ckLe G TRM (pnt2 (trB G) (subB G (fracB (trB G) (nat_lit 1))) S V a b c)
def pntB (H S V a b c : Nat) : Nat := cond (Nat.beq S (nat_lit 0)) (ck3 V V V a b c) (ckLe S MX (pnt1 (mulB H SIX) S V a b c))
theorem three_is {X Y Z a b c : Nat} (h : ck3 X Y Z a b c = 0) : (r32ok X.toUInt64 = true ∧ r32ok Y.toUInt64 = true ∧ r32ok Z.toUInt64 = true) ∧ r32 X.toUInt64 = (a : Int) ∧ r32 Y.toUInt64 = (b : Int) ∧ r32 Z.toUInt64 = (c : Int) := by
  obtain ⟨a1, a2, h⟩ := r32_is h
  obtain ⟨b1, b2, h⟩ := r32_is h
  obtain ⟨c1, c2, h⟩ := r32_is h
  exact ⟨⟨a1, b1, c1⟩, a2, b2, c2⟩
theorem pnt_of {h s v x y z : UInt64} {a b c : Int} (hok : hsvOk h s = true) (hR : hsvR h s v = (x, y, z)) (hx : (r32ok x = true ∧ r32ok y = true ∧ r32ok z = true) ∧ r32 x = a ∧ r32 y = b ∧ r32 z = c) : PntIs h s v a b c := by
  obtain ⟨⟨o1, o2, o3⟩, e1, e2, e3⟩ := hx
  refine ⟨?_, ?_, ?_, ?_⟩
  · unfold pntOk; rw [hR, hok, o1, o2, o3]; rfl
  · rw [hR]; exact e1
  · rw [hR]; exact e2
  · rw [hR]; exact e3
theorem pnt_grey {h s : UInt64} {V a b c : Nat} (hs : s = 0) (hc : ck3 V V V a b c = 0) : PntIs h s V.toUInt64 a b c := by
  have h0 : (cmp s 0 == some Ordering.eq) = true := by rw [hs]; exact (cmp_zero zero_le).mpr rfl
  refine pnt_of ?_ ?_ (three_is hc)
  · unfold hsvOk; rw [h0]; rfl
  · unfold hsvR; rw [if_pos h0]
theorem mod6 (i : Nat) : (i : Int).fmod 6 = ((i % 6 : Nat) : Int) := by
  rw [Int.fmod_eq_emod_of_nonneg _ (by decide : (0:Int) ≤ 6)]; omega
theorem castN (j n : Nat) : ((j : Int) = (n : Int)) = (j = n) := by rw [eq_iff_iff]; exact Int.ofNat_inj
theorem pnt3_is {h s v p q t : UInt64} {V P Q T a b c j i : Nat} (h0 : ¬ (cmp s 0 == some Ordering.eq) = true) (hok : hsvOk h s = true) (hI : hsvI h = (i : Int)) (hj : i % 6 = j)
    (hv : v = V.toUInt64) (hp : hsvP s v = p) (hq : hsvQ h s v = q) (ht : hsvT h s v = t) (ep : p = P.toUInt64) (eq : q = Q.toUInt64) (et : t = T.toUInt64) (hc : pnt3 j P Q T V a b c = 0) : PntIs h s v a b c := by
  have hR : hsvR h s v = (if j = 0 then (v, t, p) else if j = 1 then (q, v, p) else if j = 2 then (p, v, t) else if j = 3 then (p, q, v) else if j = 4 then (t, p, v) else (v, p, q)) := by
    unfold hsvR
    rw [if_neg h0, hI, mod6, hj, hp, hq, ht]
    have e0 : ((j : Int) = 0) = (j = 0) := castN j 0
    have e1 : ((j : Int) = 1) = (j = 1) := castN j 1
    have e2 : ((j : Int) = 2) = (j = 2) := castN j 2
    have e3 : ((j : Int) = 3) = (j = 3) := castN j 3
    have e4 : ((j : Int) = 4) = (j = 4) := castN j 4
    simp only [e0, e1, e2, e3, e4]
  clear hp hq ht hI hj
  subst hv ep eq et
  unfold pnt3 at hc
  simp only [cond_beq] at hc
  by_cases j0 : j = 0
  · rw [if_pos j0] at hc hR; exact pnt_of hok hR (three_is hc)
  · rw [if_neg j0] at hc hR
    by_cases j1 : j = 1
    · rw [if_pos j1] at hc hR; exact pnt_of hok hR (three_is hc)
    · rw [if_neg j1] at hc hR
      by_cases j2 : j = 2
      · rw [if_pos j2] at hc hR; exact pnt_of hok hR (three_is hc)
      · rw [if_neg j2] at hc hR
        by_cases j3 : j = 3
        · rw [if_pos j3] at hc hR; exact pnt_of hok hR (three_is hc)
        · rw [if_neg j3] at hc hR
          by_cases j4 : j = 4
          · rw [if_pos j4] at hc hR; exact pnt_of hok hR (three_is hc)
          · rw [if_neg j4] at hc hR; exact pnt_of hok hR (three_is hc)
theorem lt60 {i : Nat} (h : i ≤ 1000) : i < 2 ^ 60 := Nat.lt_of_le_of_lt h (by decide)
theorem pnt1_is {h : UInt64} {G S V a b c : Nat} (h0 : ¬ (cmp S.toUInt64 0 == some Ordering.eq) = true) (eG : Float64.mul h 4618441417868443648 = G.toUInt64) (hc : pnt1 G S V a b c = 0) : PntIs h S.toUInt64 V.toUInt64 a b c := by
  unfold pnt1 at hc
  obtain ⟨hG, hc⟩ := ckLe_ok hc
  have hi : hsvI h = (trB G : Int) := by unfold hsvI; rw [eG, tr_B hG]
  generalize trB G = i at hc hi
  unfold pnt2 at hc
  obtain ⟨hl, hc⟩ := ckLe_ok hc
  have eF : hsvF h = (subB G (fracB i 1)).toUInt64 := by unfold hsvF; rw [hi, eG, ofInt_F, sub_B]
  have hc : pnt3 (i % 6) (mulB V (subB ONE S)) (mulB V (subB ONE (mulB S (subB G (fracB i 1))))) (mulB V (subB ONE (mulB S (subB ONE (subB G (fracB i 1)))))) V a b c = 0 := hc
  generalize subB G (fracB i 1) = f at hc eF
  refine pnt3_is (i := i) h0 ?_ hi rfl rfl rfl rfl rfl ?_ ?_ ?_ hc
  · unfold hsvOk
    rw [eG, hi, fin_B (Nat.le_trans hG TRM_le), Int.natAbs_natCast, decide_eq_true (lt60 hl), Bool.and_true, Bool.or_true]
  · unfold hsvP; rw [one_is, sub_B, mul_B]
  · unfold hsvQ; rw [eF, one_is, mul_B, sub_B, mul_B]
  · unfold hsvT; rw [eF, one_is, sub_B, mul_B, sub_B, mul_B]
theorem pnt_is {H S V a b c : Nat} (hc : pntB H S V a b c = 0) : PntIs H.toUInt64 S.toUInt64 V.toUInt64 a b c := by
  unfold pntB at hc
  rw [cond_beq] at hc
  by_cases hS : S = 0
  · rw [if_pos hS] at hc
    exact pnt_grey (by rw [hS]; rfl) hc
  · rw [if_neg hS] at hc
    obtain ⟨hSm, hc⟩ := ckLe_ok hc
    exact pnt1_is (fun e => hS ((cmp_zero hSm).mp e)) (by rw [six_is, mul_B]) hc
end Mine
end
section
open PySem PySem.W PyProof.Rows PySem.Calls PySem.Spec
set_option maxRecDepth 100000
set_option maxHeartbeats 2000000
namespace Mine
open PySem.Float64
def mxN (a b : Nat) : Nat := cond (Nat.ble a b) b a
theorem mxN_is (a b : Nat) : mxN a b = max a b := by
  unfold mxN
  rw [cond_ble]
  by_cases h : a ≤ b
  · rw [if_pos h]; omega
  · rw [if_neg h]; omega
/-- faults of f over the parts up to n, one of them none, another p -/
def rowN (n : Nat) (f : Nat → Nat → Nat → Nat) (p : Nat) : Nat := sumN (Nat.succ n) fun q => Nat.add (f (nat_lit 0) p q) (Nat.add (f p (nat_lit 0) q) (f p q (nat_lit 0)))
def three (n : Nat) (f : Nat → Nat → Nat → Nat) : Nat := sumN (Nat.succ n) (rowN n f)
theorem rows_zero {n : Nat} {f : Nat → Nat → Nat → Nat} (h : ∀ p, p < n + 1 → rowN n f p = 0) {x y z : Nat} (hx : x ≤ n) (hy : y ≤ n) (hz : z ≤ n) (h0 : x = 0 ∨ y = 0 ∨ z = 0) : f x y z = 0 := by
  have h1 := fun p hp => sumN_zero (h p hp)
  rcases h0 with rfl | rfl | rfl
  · have : f 0 y z + (f y 0 z + f y z 0) = 0 := h1 y (Nat.lt_succ_of_le hy) z (Nat.lt_succ_of_le hz)
    omega
  · have : f 0 x z + (f x 0 z + f x z 0) = 0 := h1 x (Nat.lt_succ_of_le hx) z (Nat.lt_succ_of_le hz)
    omega
  · have : f 0 x y + (f x 0 y + f x y 0) = 0 := h1 x (Nat.lt_succ_of_le hx) y (Nat.lt_succ_of_le hy)
    omega
theorem three_zero {n : Nat} {f : Nat → Nat → Nat → Nat} (h : Nat.beq (three n f) 0 = true) {x y z : Nat} (hx : x ≤ n) (hy : y ≤ n) (hz : z ≤ n) (h0 : x = 0 ∨ y = 0 ∨ z = 0) : f x y z = 0 :=
  rows_zero (sumN_zero (beq_zero h)) hx hy hz h0
theorem up0 {P : Nat → Prop} : ∀ p, p < 0 → P p := fun p h => absurd h (Nat.not_lt_zero p)
theorem up {P : Nat → Prop} {n : Nat} (h : ∀ p, p < n → P p) (hn : P n) : ∀ p, p < n + 1 → P p := fun p hp => (Nat.lt_succ_iff_lt_or_eq.mp hp).elim (h p) (fun e => e ▸ hn)
def placeN (x y z k : Nat) : Nat := cond (Nat.beq x k) (cond (Nat.ble z y) (Nat.sub y z) (Nat.sub (Nat.add (Nat.mul (nat_lit 6) k) y) z)) (cond (Nat.beq y k) (Nat.sub (Nat.add (Nat.mul (nat_lit 2) k) z) x) (Nat.sub (Nat.add (Nat.mul (nat_lit 4) k) x) y))
def sixCk (S p : Nat) : Nat := ckLe S TRM (ckEq (trB S) p (nat_lit 0))
def six2 (x y z k : Nat) : Nat := cond (Nat.ble k (nat_lit 5)) (nat_lit 0) (hueCk x y z k (sixCk (addB (mulB (fracB (Nat.mul (nat_lit 6) k) (nat_lit 1)) (hueW x y z k)) HALF) (placeN x y z k)))
def six1 (x y z : Nat) : Nat := six2 x y z (mxN (mxN x y) z)
/-- the code taken off, on bits -/
def cA (c : Nat) : Nat := cond (Nat.beq c 0) 11 (cond (Nat.beq c 1) 6 (cond (Nat.beq c 4) 5 (cond (Nat.beq c 5) 11 0)))
def cB (c : Nat) : Nat := cond (Nat.beq c 0) 5 (cond (Nat.beq c 1) 11 (cond (Nat.beq c 2) 11 (cond (Nat.beq c 3) 6 0)))
def cC (c : Nat) : Nat := cond (Nat.beq c 2) 5 (cond (Nat.beq c 3) 11 (cond (Nat.beq c 4) 11 (cond (Nat.beq c 5) 6 0)))
def ckD (x y a b k r : Nat) : Nat := ckLe (Nat.add x b) (Nat.add (Nat.add y a) (Nat.sub k (nat_lit 1))) r
def dec3 (x y z k c : Nat) : Nat := ckLe c (nat_lit 5) (ckD x y (cA c) (cB c) k (ckD y x (cB c) (cA c) k (ckD x z (cA c) (cC c) k (ckD z x (cC c) (cA c) k (ckD y z (cB c) (cC c) k (ckD z y (cC c) (cB c) k (nat_lit 0)))))))
def dec2 (x y z k : Nat) : Nat := cond (Nat.ble k (nat_lit 5)) (nat_lit 0) (ckLe (placeN x y z k) (nat_lit 120) (dec3 x y z k (Nat.div (placeN x y z k) k)))
def dec1 (x y z : Nat) : Nat := dec2 x y z (mxN (mxN x y) z)
theorem tab_dec : Nat.beq (three 20 dec1) 0 = true := by decide +kernel
theorem six_p0 : rowN 20 six1 0 = 0 := beq_zero (by decide +kernel)
theorem six_p1 : rowN 20 six1 1 = 0 := beq_zero (by decide +kernel)
theorem six_p2 : rowN 20 six1 2 = 0 := beq_zero (by decide +kernel)
theorem six_p3 : rowN 20 six1 3 = 0 := beq_zero (by decide +kernel)
theorem six_p4 : rowN 20 six1 4 = 0 := beq_zero (by decide +kernel)
theorem six_p5 : rowN 20 six1 5 = 0 := beq_zero (by decide +kernel)
theorem six_p6 : rowN 20 six1 6 = 0 := beq_zero (by decide +kernel)
theorem six_p7 : rowN 20 six1 7 = 0 := beq_zero (by decide +kernel)
theorem six_p8 : rowN 20 six1 8 = 0 := beq_zero (by decide +kernel)
theorem six_p9 : rowN 20 six1 9 = 0 := beq_zero (by decide +kernel)
theorem six_p10 : rowN 20 six1 10 = 0 := beq_zero (by decide +kernel)
theorem six_p11 : rowN 20 six1 11 = 0 := beq_zero (by decide +kernel)
theorem six_p12 : rowN 20 six1 12 = 0 := beq_zero (by decide +kernel)
theorem six_p13 : rowN 20 six1 13 = 0 := beq_zero (by decide +kernel)
theorem six_p14 : rowN 20 six1 14 = 0 := beq_zero (by decide +kernel)
theorem six_p15 : rowN 20 six1 15 = 0 := beq_zero (by decide +kernel)
theorem six_p16 : rowN 20 six1 16 = 0 := beq_zero (by decide +kernel)
theorem six_p17 : rowN 20 six1 17 = 0 := beq_zero (by decide +kernel)
theorem six_p18 : rowN 20 six1 18 = 0 := beq_zero (by decide +kernel)
theorem six_p19 : rowN 20 six1 19 = 0 := beq_zero (by decide +kernel)
theorem six_p20 : rowN 20 six1 20 = 0 := beq_zero (by decide +kernel)
theorem tab_six : ∀ p, p < 20 + 1 → rowN 20 six1 p = 0 := (up (up (up (up (up (up (up (up (up (up (up (up (up (up (up (up (up (up (up (up (up up0 six_p0) six_p1) six_p2) six_p3) six_p4) six_p5) six_p6) six_p7) six_p8) six_p9) six_p10) six_p11) six_p12) six_p13) six_p14) six_p15) six_p16) six_p17) six_p18) six_p19) six_p20)
/-- the told parts painted, a turn t on -/
def paintCk (H x y z w k a b c : Nat) : Nat := cond (Nat.beq k (nat_lit 0)) (ck3 (D w) (D w) (D w) a b c) (hueCk x y z k (pntB H (fracB k (Nat.add k w)) (D (Nat.add k w)) a b c))
def turn2 (x y z w k : Nat) : Nat := paintCk (addB (hueW x y z k) (fracB (nat_lit 1) (nat_lit 3))) x y z w k (Nat.add z w) (Nat.add x w) (Nat.add y w)
def fin2 (x y z w k : Nat) : Nat := paintCk (hueW x y z k) x y z w k (Nat.add x w) (Nat.add y w) (Nat.add z w)
def turn1 (w x y z : Nat) : Nat := turn2 x y z w (mxN (mxN x y) z)
def fin1 (w x y z : Nat) : Nat := fin2 x y z w (mxN (mxN x y) z)
theorem turn_w0 : Nat.beq (three 5 (turn1 0)) 0 = true := by decide +kernel
theorem turn_w1 : Nat.beq (three 5 (turn1 1)) 0 = true := by decide +kernel
theorem turn_w2 : Nat.beq (three 5 (turn1 2)) 0 = true := by decide +kernel
theorem turn_w3 : Nat.beq (three 5 (turn1 3)) 0 = true := by decide +kernel
theorem turn_w4 : Nat.beq (three 5 (turn1 4)) 0 = true := by decide +kernel
theorem turn_w5 : Nat.beq (three 5 (turn1 5)) 0 = true := by decide +kernel
theorem turn_w6 : Nat.beq (three 5 (turn1 6)) 0 = true := by decide +kernel
theorem turn_w7 : Nat.beq (three 5 (turn1 7)) 0 = true := by decide +kernel
theorem turn_w8 : Nat.beq (three 5 (turn1 8)) 0 = true := by decide +kernel
theorem turn_w9 : Nat.beq (three 5 (turn1 9)) 0 = true := by decide +kernel
theorem turn_w10 : Nat.beq (three 5 (turn1 10)) 0 = true := by decide +kernel
theorem turn_w11 : Nat.beq (three 5 (turn1 11)) 0 = true := by decide +kernel
theorem tab_turn : ∀ w, w < 11 + 1 → Nat.beq (three 5 (turn1 w)) 0 = true := (up (up (up (up (up (up (up (up (up (up (up (up up0 turn_w0) turn_w1) turn_w2) turn_w3) turn_w4) turn_w5) turn_w6) turn_w7) turn_w8) turn_w9) turn_w10) turn_w11)
theorem fin_w0 : Nat.beq (three 5 (fin1 0)) 0 = true := by decide +kernel
theorem fin_w1 : Nat.beq (three 5 (fin1 1)) 0 = true := by decide +kernel
theorem fin_w2 : Nat.beq (three 5 (fin1 2)) 0 = true := by decide +kernel
theorem fin_w3 : Nat.beq (three 5 (fin1 3)) 0 = true := by decide +kernel
theorem fin_w4 : Nat.beq (three 5 (fin1 4)) 0 = true := by decide +kernel
theorem fin_w5 : Nat.beq (three 5 (fin1 5)) 0 = true := by decide +kernel
theorem fin_w6 : Nat.beq (three 5 (fin1 6)) 0 = true := by decide +kernel
theorem fin_w7 : Nat.beq (three 5 (fin1 7)) 0 = true := by decide +kernel
theorem fin_w8 : Nat.beq (three 5 (fin1 8)) 0 = true := by decide +kernel
theorem fin_w9 : Nat.beq (three 5 (fin1 9)) 0 = true := by decide +kernel
theorem fin_w10 : Nat.beq (three 5 (fin1 10)) 0 = true := by decide +kernel
theorem fin_w11 : Nat.beq (three 5 (fin1 11)) 0 = true := by decide +kernel
theorem tab_fin : ∀ w, w < 11 + 1 → Nat.beq (three 5 (fin1 w)) 0 = true := (up (up (up (up (up (up (up (up (up (up (up (up up0 fin_w0) fin_w1) fin_w2) fin_w3) fin_w4) fin_w5) fin_w6) fin_w7) fin_w8) fin_w9) fin_w10) fin_w11)
def mostB (k w : Nat) : Nat := addB (mulB (mulB (fracB (nat_lit 32) (nat_lit 1)) (fracB k (Nat.add k w))) (D (Nat.add k w))) HALF
theorem tab_most : Nat.beq (sumN 12 fun w => sumN 21 fun k => sixCk (mostB k w) k) 0 = true := by decide +kernel
def wA (c : Nat) : Nat := cond (Nat.beq c 0) 1 (cond (Nat.beq c 1) 1 (cond (Nat.beq c 5) 1 0))
def wB (c : Nat) : Nat := cond (Nat.beq c 1) 1 (cond (Nat.beq c 2) 1 (cond (Nat.beq c 3) 1 0))
def wC (c : Nat) : Nat := cond (Nat.beq c 3) 1 (cond (Nat.beq c 4) 1 (cond (Nat.beq c 5) 1 0))
theorem tab_ink : Nat.beq (sumN 6 fun c => sumN 16 fun d => pntB (fracB c 6) ONE (D d) (Nat.mul d (wA c)) (Nat.mul d (wB c)) (Nat.mul d (wC c))) 0 = true := by decide +kernel
def codeH (c : Nat) : Nat := divB (addB (fracB c 1) (fracB 5 11)) (fracB 6 1)
theorem tab_c0 : pntB (codeH 0) ONE (fracB 11 32) 11 5 0 = 0 := by decide +kernel
theorem tab_c1 : pntB (codeH 1) ONE (fracB 11 32) 6 11 0 = 0 := by decide +kernel
theorem tab_c2 : pntB (codeH 2) ONE (fracB 11 32) 0 11 5 = 0 := by decide +kernel
theorem tab_c3 : pntB (codeH 3) ONE (fracB 11 32) 0 6 11 = 0 := by decide +kernel
theorem tab_c4 : pntB (codeH 4) ONE (fracB 11 32) 5 0 11 = 0 := by decide +kernel
theorem tab_c5 : pntB (codeH 5) ONE (fracB 11 32) 11 0 6 = 0 := by decide +kernel
end Mine
end
section
open PySem PySem.W PyProof.Rows PySem.Calls PySem.Spec
set_option maxRecDepth 100000
set_option maxHeartbeats 2000000
namespace Mine
theorem max_cast (a b c : Nat) : max3 (a : Int) (b : Int) (c : Int) = ((max (max a b) c : Nat) : Int) := by
  have h : ∀ p q : Nat, max (p : Int) (q : Int) = ((max p q : Nat) : Int) := fun p q => by omega
  unfold max3
  rw [h, h]
theorem upto_nat {n : Nat} {x y z w : Int} {m : Nat} (h : Upto (n : Int) x y z) (h0 : 0 ≤ w) (h1 : w ≤ (m : Int)) : ∃ a b c d k : Nat, x = (a : Int) ∧ y = (b : Int) ∧ z = (c : Int) ∧ w = (d : Int) ∧ max (max a b) c = k ∧ max3 x y z = (k : Int) ∧ a ≤ n ∧ b ≤ n ∧ c ≤ n ∧ d ≤ m ∧ (a = 0 ∨ b = 0 ∨ c = 0) := by
  obtain ⟨a1, a2, a3, a4, a5, a6, a7⟩ := h
  obtain ⟨a, rfl⟩ := Int.eq_ofNat_of_zero_le a1
  obtain ⟨b, rfl⟩ := Int.eq_ofNat_of_zero_le a3
  obtain ⟨c, rfl⟩ := Int.eq_ofNat_of_zero_le a5
  obtain ⟨d, rfl⟩ := Int.eq_ofNat_of_zero_le h0
  exact ⟨a, b, c, d, _, rfl, rfl, rfl, rfl, rfl, max_cast a b c, Int.ofNat_le.mp a2, Int.ofNat_le.mp a4, Int.ofNat_le.mp a6, Int.ofNat_le.mp h1,
    a7.imp Int.ofNat_eq_zero.mp (Or.imp Int.ofNat_eq_zero.mp Int.ofNat_eq_zero.mp)⟩
theorem max_bnd {a b c n k : Nat} (hk : max (max a b) c = k) (ha : a ≤ n) (hb : b ≤ n) (hc : c ≤ n) : a ≤ k ∧ b ≤ k ∧ c ≤ k ∧ k ≤ n :=
  hk ▸ ⟨Nat.le_trans (Nat.le_max_left a b) (Nat.le_max_left _ c), Nat.le_trans (Nat.le_max_right a b) (Nat.le_max_left _ c), Nat.le_max_right _ c, Nat.max_le.mpr ⟨Nat.max_le.mpr ⟨ha, hb⟩, hc⟩⟩
theorem kw32 {a b c n k d : Nat} (hk : max (max a b) c = k) (ha : a ≤ n) (hb : b ≤ n) (hc : c ≤ n) (hd : d ≤ 11) (hn : n ≤ 20) : k + d < 32 :=
  Nat.lt_of_le_of_lt (Nat.add_le_add (Nat.le_trans (max_bnd hk ha hb hc).2.2.2 hn) hd) (by decide)
theorem place_N {a b c k : Nat} (hm : max3 (a : Int) (b : Int) (c : Int) = (k : Int)) (ha : a ≤ k) (hb : b ≤ k) (hc : c ≤ k) : placeX (a : Int) (b : Int) (c : Int) = (placeN a b c k : Int) := by
  unfold placeX placeN
  rw [hm, cond_beq, cond_ble, cond_beq]
  clear hm
  show _ = (((if a = k then (if c ≤ b then b - c else 6 * k + b - c) else if b = k then 2 * k + c - a else 4 * k + a - b : Nat)) : Int)
  by_cases e1 : a = k
  · rw [if_pos (Int.ofNat_inj.mpr e1), if_pos e1]
    clear e1
    by_cases e2 : c ≤ b
    · rw [if_pos (Int.ofNat_le.mpr e2), if_pos e2]; clear ha hb hc; omega
    · rw [if_neg (fun e => e2 (Int.ofNat_le.mp e)), if_neg e2]; clear ha hb e2; omega
  · rw [if_neg (fun e => e1 (Int.ofNat_inj.mp e)), if_neg e1]
    clear e1
    by_cases e2 : b = k
    · rw [if_pos (Int.ofNat_inj.mpr e2), if_pos e2]; clear hb hc e2; omega
    · rw [if_neg (fun e => e2 (Int.ofNat_inj.mp e)), if_neg e2]; clear ha hc e2; omega
theorem mx_is {a b c k : Nat} (h : max (max a b) c = k) : mxN (mxN a b) c = k := by rw [mxN_is, mxN_is, h]
theorem tld_s {x y z w k : Nat} (hk : max (max x y) z = k) (h0 : x = 0 ∨ y = 0 ∨ z = 0) (hw : k + w < 32) :
    (tld ((x : Int) + (w : Int)) ((y : Int) + (w : Int)) ((z : Int) + (w : Int))).2.1 = (fracB k (k + w)).toUInt64 ∧ (tld ((x : Int) + (w : Int)) ((y : Int) + (w : Int)) ((z : Int) + (w : Int))).2.2 = (D (k + w)).toUInt64 := by
  rw [tld_is hk h0 hw]
  by_cases h : k = 0
  · rw [if_pos h, h, Nat.zero_add]
    have e : fracB 0 w = 0 := rfl
    rw [e]
    exact ⟨rfl, rfl⟩
  · rw [if_neg h]
    exact ⟨rfl, rfl⟩
theorem tld_h {x y z w k : Nat} (hk : max (max x y) z = k) (h0 : x = 0 ∨ y = 0 ∨ z = 0) (hw : k + w < 32) (h : k ≠ 0) :
    (tld ((x : Int) + (w : Int)) ((y : Int) + (w : Int)) ((z : Int) + (w : Int))).1 = hueX x y z k := by
  rw [tld_is hk h0 hw, if_neg h]
theorem paint_ok {x y z w k a b c H : Nat} {h s v : UInt64} (hc : paintCk H x y z w k a b c = 0) (hs : s = (fracB k (k + w)).toUInt64) (hv : v = (D (k + w)).toUInt64) (hh : k ≠ 0 → hueX x y z k = (hueW x y z k).toUInt64 → h = H.toUInt64) : PntIs h s v a b c := by
  unfold paintCk at hc
  rw [cond_beq] at hc
  by_cases h0 : k = 0
  · rw [if_pos h0] at hc
    subst h0
    rw [Nat.zero_add] at hs hv
    subst hv
    exact pnt_grey hs hc
  · rw [if_neg h0] at hc
    obtain ⟨e, hc⟩ := hue_is hc
    rw [hs, hv, hh h0 e]
    exact pnt_is hc
theorem n_turn {x y z w : Int} (hb : Upto 5 x y z) (h0 : 0 ≤ w) (h1 : w ≤ 11) :
    PntIs (Float64.add (tld (x + w) (y + w) (z + w)).1 (dvI 1 3)) (tld (x + w) (y + w) (z + w)).2.1 (tld (x + w) (y + w) (z + w)).2.2 (z + w) (x + w) (y + w) := by
  obtain ⟨a, b, c, d, k, rfl, rfl, rfl, rfl, hk, -, ha, hb, hc, hd, hz⟩ := upto_nat (n := 5) (m := 11) hb h0 h1
  have hw : k + d < 32 := kw32 hk ha hb hc hd (by decide)
  obtain ⟨e1, e2⟩ := tld_s hk hz hw
  have ht : turn1 d a b c = 0 := three_zero (tab_turn d (Nat.lt_succ_of_le hd)) ha hb hc hz
  unfold turn1 turn2 at ht
  rw [mx_is hk] at ht
  have := paint_ok (h := Float64.add (tld ((a : Int) + (d : Int)) ((b : Int) + (d : Int)) ((c : Int) + (d : Int))).1 (dvI 1 3)) ht e1 e2 (fun hk0 e => by
    rw [tld_h hk hz hw hk0, e, ← add_B]
    exact congrArg _ (dvI_F (a := 1) (b := 3) (by decide)))
  exact this
theorem n_final {x y z w : Int} (hb : Upto 5 x y z) (h0 : 0 ≤ w) (h1 : w ≤ 11) :
    PntIs (tld (x + w) (y + w) (z + w)).1 (tld (x + w) (y + w) (z + w)).2.1 (tld (x + w) (y + w) (z + w)).2.2 (x + w) (y + w) (z + w) := by
  obtain ⟨a, b, c, d, k, rfl, rfl, rfl, rfl, hk, -, ha, hb, hc, hd, hz⟩ := upto_nat (n := 5) (m := 11) hb h0 h1
  have hw : k + d < 32 := kw32 hk ha hb hc hd (by decide)
  obtain ⟨e1, e2⟩ := tld_s hk hz hw
  have ht : fin1 d a b c = 0 := three_zero (tab_fin d (Nat.lt_succ_of_le hd)) ha hb hc hz
  unfold fin1 fin2 at ht
  rw [mx_is hk] at ht
  have := paint_ok (h := (tld ((a : Int) + (d : Int)) ((b : Int) + (d : Int)) ((c : Int) + (d : Int))).1) ht e1 e2 (fun hk0 e => by
    rw [tld_h hk hz hw hk0, e])
  exact this
theorem n_told {x y z w : Int} (hb : Upto 20 x y z) (h0 : 0 ≤ w) (h1 : w ≤ 11) : tldOk (x + w) (y + w) (z + w) = true := by
  obtain ⟨a, b, c, d, k, rfl, rfl, rfl, rfl, hk, -, ha, hb, hc, hd, hz⟩ := upto_nat (n := 20) (m := 11) hb h0 h1
  have hl : ∀ e, e ≤ 20 → e + d < 32 := fun e he => Nat.lt_of_le_of_lt (Nat.add_le_add he hd) (by decide)
  exact tld_ok' (a := a + d) (b := b + d) (c := c + d) (hl a ha) (hl b hb) (hl c hc)
theorem sixCk_ok {S p : Nat} (h : sixCk S p = 0) : Float64.isFinite S.toUInt64 = true ∧ Flt.toInt Float64.truncOf S.toUInt64 = (p : Int) := by
  obtain ⟨h1, h⟩ := ckLe_ok h
  obtain ⟨h2, h⟩ := ckEq_ok h
  exact ⟨fin_B (Nat.le_trans h1 TRM_le), by rw [tr_B h1, h2]⟩
theorem n_most {x y z w : Int} (hb : Upto 20 x y z) (h0 : 0 ≤ w) (h1 : w ≤ 11) :
    Float64.isFinite (mostE (tld (x + w) (y + w) (z + w)).2.1 (tld (x + w) (y + w) (z + w)).2.2) = true ∧ Flt.toInt Float64.truncOf (mostE (tld (x + w) (y + w) (z + w)).2.1 (tld (x + w) (y + w) (z + w)).2.2) = max3 x y z := by
  obtain ⟨a, b, c, d, k, rfl, rfl, rfl, rfl, hk, hm, ha, hb, hc, hd, hz⟩ := upto_nat (n := 20) (m := 11) hb h0 h1
  obtain ⟨e1, e2⟩ := tld_s hk hz (w := d) (kw32 hk ha hb hc hd (by decide))
  have ht := sixCk_ok (sumN_zero (sumN_zero (beq_zero tab_most) d (Nat.lt_succ_of_le hd)) k (Nat.lt_succ_of_le (max_bnd hk ha hb hc).2.2.2))
  have e : mostE (fracB k (k + d)).toUInt64 (D (k + d)).toUInt64 = (mostB k d).toUInt64 := by
    unfold mostE
    rw [of32, half_is, mul_B, mul_B, add_B]
    rfl
  rw [hm, e1, e2, e]
  exact ht
theorem n_six {x y z w : Int} (hb : Upto 20 x y z) (h0 : 0 ≤ w) (h1 : w ≤ 11) (h6 : 5 < max3 x y z) :
    Float64.isFinite (sixE (max3 x y z) (tld (x + w) (y + w) (z + w)).1) = true ∧ Flt.toInt Float64.truncOf (sixE (max3 x y z) (tld (x + w) (y + w) (z + w)).1) = placeX x y z := by
  obtain ⟨a, b, c, d, k, rfl, rfl, rfl, rfl, hk, hm, ha, hb, hc, hd, hz⟩ := upto_nat (n := 20) (m := 11) hb h0 h1
  have ht : six1 a b c = 0 := rows_zero tab_six ha hb hc hz
  unfold six1 six2 at ht
  have hk5 : ¬ k ≤ 5 := by rw [hm] at h6; exact Nat.not_le.mpr (Int.ofNat_lt.mp h6)
  rw [mx_is hk, cond_ble, if_neg hk5] at ht
  obtain ⟨e, ht⟩ := hue_is ht
  have h := sixCk_ok ht
  obtain ⟨ka, kb, kc, -⟩ := max_bnd hk ha hb hc
  have hp := place_N hm ka kb kc
  have e6 : 6 * (k : Int) = ((6 * k : Nat) : Int) := (Int.natCast_mul 6 k).symm
  have eS : sixE (k : Int) (hueW a b c k).toUInt64 = (addB (mulB (fracB (6 * k) 1) (hueW a b c k)) HALF).toUInt64 := by
    unfold sixE
    rw [e6, ofInt_F, half_is, mul_B, add_B]
  rw [hm, tld_h hk hz (kw32 hk ha hb hc hd (by decide)) (fun e0 => hk5 (by rw [e0]; decide)), e, eS, hp]
  exact h
theorem n_ink {c d : Int} (c0 : 0 ≤ c) (c1 : c ≤ 5) (d0 : 0 ≤ d) (d1 : d ≤ 15) : PntIs (dvI c 6) 4607182418800017408 (dv32 d) (d * (wheelX c).1) (d * (wheelX c).2.1) (d * (wheelX c).2.2) := by
  obtain ⟨a, rfl⟩ : ∃ a : Nat, c = (a : Int) := ⟨c.toNat, by omega⟩
  obtain ⟨b, rfl⟩ : ∃ b : Nat, d = (b : Int) := ⟨d.toNat, by omega⟩
  have ht := pnt_is (sumN_zero (sumN_zero (beq_zero tab_ink) a (by omega)) b (by omega))
  rw [← dv_D, ← one_is, ← dvI_F (a := a) (b := 6) (by decide)] at ht
  have hw : wheelX (a : Int) = ((wA a : Int), (wB a : Int), (wC a : Int)) := by
    have hc : a = 0 ∨ a = 1 ∨ a = 2 ∨ a = 3 ∨ a = 4 ∨ a = 5 := by omega
    rcases hc with rfl | rfl | rfl | rfl | rfl | rfl <;> decide
  have hm : ∀ m : Nat, ((Nat.mul b m : Nat) : Int) = (b : Int) * (m : Int) := fun m => Int.natCast_mul b m
  rw [hm, hm, hm] at ht
  rw [hw]
  exact ht
theorem code_H (c : Nat) : Float64.div (Float64.add (Float64.ofInt (c : Int)) (dvI 5 11)) (Float64.ofInt 6) = (codeH c).toUInt64 := by
  have h1 : dvI 5 11 = (fracB 5 11).toUInt64 := dvI_F (a := 5) (b := 11) (by decide)
  have h2 : Float64.ofInt 6 = (fracB 6 1).toUInt64 := ofInt_F 6
  rw [ofInt_F, h1, h2, add_B, div_B]
  rfl
theorem n_code {c : Int} (c0 : 0 ≤ c) (c1 : c ≤ 5) : PntIs (Float64.div (Float64.add (Float64.ofInt c) (dvI 5 11)) (Float64.ofInt 6)) 4607182418800017408 (dvI 11 32) (codeX c).1 (codeX c).2.1 (codeX c).2.2 := by
  have h3 : dvI 11 32 = (fracB 11 32).toUInt64 := dvI_F (a := 11) (b := 32) (by decide)
  have hc : c = 0 ∨ c = 1 ∨ c = 2 ∨ c = 3 ∨ c = 4 ∨ c = 5 := by omega
  rw [h3, one_is]
  rcases hc with rfl | rfl | rfl | rfl | rfl | rfl
  · have := pnt_is tab_c0; rw [← code_H] at this; exact this
  · have := pnt_is tab_c1; rw [← code_H] at this; exact this
  · have := pnt_is tab_c2; rw [← code_H] at this; exact this
  · have := pnt_is tab_c3; rw [← code_H] at this; exact this
  · have := pnt_is tab_c4; rw [← code_H] at this; exact this
  · have := pnt_is tab_c5; rw [← code_H] at this; exact this
end Mine
end
section
open PySem PySem.W PyProof.Rows PySem.Calls PySem.Spec
set_option maxRecDepth 100000
set_option maxHeartbeats 8000000
namespace Mine
def phi (x y z : Int) : Int := x + 16 * y + 256 * z
def horn (pre : List Int) : Int := pre.foldl (fun a n => 16 * a + (n - 65)) 0
theorem upto_zero {n : Int} (h : 0 ≤ n) : Upto n 0 0 0 := ⟨Int.le_refl 0, h, Int.le_refl 0, h, Int.le_refl 0, h, .inl rfl⟩
theorem least_le (p q r : Int) : least p q r ≤ p ∧ least p q r ≤ q ∧ least p q r ≤ r := by unfold least; omega
theorem least_one (p q r : Int) : least p q r = p ∨ least p q r = q ∨ least p q r = r := by unfold least; omega
theorem dif_le {n p q l : Int} (h : l = q) (h1 : p - q ≤ n) : p - l ≤ n := h ▸ h1
theorem upto_nrm {n p q r : Int} (h1 : p - q ≤ n) (h2 : q - p ≤ n) (h3 : p - r ≤ n) (h4 : r - p ≤ n) (h5 : q - r ≤ n) (h6 : r - q ≤ n) (h0 : 0 ≤ n) : Upto n (p - least p q r) (q - least p q r) (r - least p q r) := by
  obtain ⟨a, b, c⟩ := least_le p q r
  have h := least_one p q r
  have z : ∀ p : Int, p - p ≤ n := fun p => by rw [Int.sub_self]; exact h0
  refine ⟨Int.sub_nonneg_of_le a, ?_, Int.sub_nonneg_of_le b, ?_, Int.sub_nonneg_of_le c, ?_, ?_⟩
  · rcases h with h | h | h <;> rw [h] <;> first | assumption | exact z _
  · rcases h with h | h | h <;> rw [h] <;> first | assumption | exact z _
  · rcases h with h | h | h <;> rw [h] <;> first | assumption | exact z _
  · rcases h with h | h | h
    · exact .inl (by rw [h]; exact Int.sub_self _)
    · exact .inr (.inl (by rw [h]; exact Int.sub_self _))
    · exact .inr (.inr (by rw [h]; exact Int.sub_self _))
theorem dif20 {x y w a b : Int} (hx : x ≤ 5) (hy : 0 ≤ y) (ha : a ≤ 15) (hb : 0 ≤ b) : x + w + a - (y + w + b) ≤ 20 := by omega
theorem wheel01 {c : Int} (c0 : 0 ≤ c) (c1 : c ≤ 5) : ((wheelX c).1 = 0 ∨ (wheelX c).1 = 1) ∧ ((wheelX c).2.1 = 0 ∨ (wheelX c).2.1 = 1) ∧ ((wheelX c).2.2 = 0 ∨ (wheelX c).2.2 = 1) := by
  have hc : c = 0 ∨ c = 1 ∨ c = 2 ∨ c = 3 ∨ c = 4 ∨ c = 5 := by omega
  rcases hc with rfl | rfl | rfl | rfl | rfl | rfl <;> decide
theorem ink15 {d e : Int} (d0 : 0 ≤ d) (d1 : d ≤ 15) (h : e = 0 ∨ e = 1) : 0 ≤ d * e ∧ d * e ≤ 15 := by
  rcases h with rfl | rfl
  · rw [Int.mul_zero]; decide
  · rw [Int.mul_one]; exact ⟨d0, d1⟩
/-- with the letter's ink: twenty parts at the most -/
theorem upto_ink {x y z w d c : Int} (h : Upto 5 x y z) (d0 : 0 ≤ d) (d1 : d ≤ 15) (c0 : 0 ≤ c) (c1 : c ≤ 5) :
    Upto 20 (z + w + d * (wheelX c).1 - least (z + w + d * (wheelX c).1) (x + w + d * (wheelX c).2.1) (y + w + d * (wheelX c).2.2))
      (x + w + d * (wheelX c).2.1 - least (z + w + d * (wheelX c).1) (x + w + d * (wheelX c).2.1) (y + w + d * (wheelX c).2.2))
      (y + w + d * (wheelX c).2.2 - least (z + w + d * (wheelX c).1) (x + w + d * (wheelX c).2.1) (y + w + d * (wheelX c).2.2)) := by
  obtain ⟨a1, a2, a3, a4, a5, a6, _⟩ := h
  obtain ⟨w1, w2, w3⟩ := wheel01 c0 c1
  obtain ⟨p1, p2⟩ := ink15 d0 d1 w1
  obtain ⟨q1, q2⟩ := ink15 d0 d1 w2
  obtain ⟨r1, r2⟩ := ink15 d0 d1 w3
  exact upto_nrm (dif20 a6 a1 p2 q1) (dif20 a2 a5 q2 p1) (dif20 a6 a3 p2 r1) (dif20 a4 a5 r2 p1) (dif20 a2 a3 q2 r1) (dif20 a4 a1 r2 q1) (by decide)
theorem phi_ink (x y z w d a b c : Int) : phi (z + w + d * a) (x + w + d * b) (y + w + d * c) = 16 * phi x y z + d * phi a b c + 91 * (3 * w - 45 * z) := by
  unfold phi
  have e1 : d * (a + 16 * b + 256 * c) = d * a + 16 * (d * b) + 256 * (d * c) := by
    rw [Int.mul_add, Int.mul_add, Int.mul_left_comm d 16 b, Int.mul_left_comm d 256 c]
  rw [e1]
  omega
theorem horn_snoc (pre : List Int) (n : Int) : horn (pre ++ [n]) = 16 * horn pre + (n - 65) := by unfold horn; rw [List.foldl_append]; rfl
theorem phi_ink91 {x y z w d k H : Int} (c : Int × Int × Int) (hk : k = phi c.1 c.2.1 c.2.2) (h : (phi x y z - k * H) % 91 = 0) : (phi (z + w + d * c.1) (x + w + d * c.2.1) (y + w + d * c.2.2) - k * (16 * H + d)) % 91 = 0 := by
  rw [phi_ink, ← hk]
  have e : k * (16 * H + d) = 16 * (k * H) + d * k := by rw [Int.mul_add, Int.mul_left_comm k 16 H, Int.mul_comm k d]
  rw [e]
  omega
theorem code_is {c : Nat} (h : c ≤ 5) : codeX (c : Int) = ((cA c : Int), (cB c : Int), (cC c : Int)) := by
  have hc : c = 0 ∨ c = 1 ∨ c = 2 ∨ c = 3 ∨ c = 4 ∨ c = 5 := by omega
  rcases hc with rfl | rfl | rfl | rfl | rfl | rfl <;> decide
theorem k1 {k : Nat} (h : 5 < k) : (0 : Int) ≤ (k : Int) - 1 := by omega
theorem difk {x y a b k : Nat} (h : x + b ≤ y + a + (k - 1)) (hk : 5 < k) : (x : Int) - (a : Int) - ((y : Int) - (b : Int)) ≤ (k : Int) - 1 := by omega
theorem six_dec {x y z : Int} (h : Upto 20 x y z) (h6 : 5 < max3 x y z) : 0 ≤ sixX x y z ∧ sixX x y z ≤ 5 ∧
    Upto (max3 x y z - 1) (x - (codeX (sixX x y z)).1 - least (x - (codeX (sixX x y z)).1) (y - (codeX (sixX x y z)).2.1) (z - (codeX (sixX x y z)).2.2))
      (y - (codeX (sixX x y z)).2.1 - least (x - (codeX (sixX x y z)).1) (y - (codeX (sixX x y z)).2.1) (z - (codeX (sixX x y z)).2.2))
      (z - (codeX (sixX x y z)).2.2 - least (x - (codeX (sixX x y z)).1) (y - (codeX (sixX x y z)).2.1) (z - (codeX (sixX x y z)).2.2)) := by
  obtain ⟨a, b, c, d, k, rfl, rfl, rfl, -, hk, hm, ha, hb, hc, -, hz⟩ := upto_nat (n := 20) (m := 0) h (Int.le_refl 0) (Int.le_refl 0)
  rw [hm] at h6
  have hk5 : ¬ k ≤ 5 := Nat.not_le.mpr (Int.ofNat_lt.mp h6)
  obtain ⟨ka, kb, kc, -⟩ := max_bnd hk ha hb hc
  have ht : dec1 a b c = 0 := three_zero tab_dec ha hb hc hz
  unfold dec1 dec2 dec3 at ht
  rw [mx_is hk, cond_ble, if_neg hk5] at ht
  obtain ⟨-, ht⟩ := ckLe_ok ht
  obtain ⟨t0, ht⟩ := ckLe_ok ht
  have hs : sixX (a : Int) (b : Int) (c : Int) = ((Nat.div (placeN a b c k) k : Nat) : Int) := by
    unfold sixX
    rw [hm, place_N hm ka kb kc, Int.fdiv_eq_ediv_of_nonneg _ (Int.natCast_nonneg k)]
    rfl
  rw [hs, hm, code_is t0]
  generalize Nat.div (placeN a b c k) k = e at *
  obtain ⟨t1, ht⟩ := ckLe_ok ht
  obtain ⟨t2, ht⟩ := ckLe_ok ht
  obtain ⟨t3, ht⟩ := ckLe_ok ht
  obtain ⟨t4, ht⟩ := ckLe_ok ht
  obtain ⟨t5, ht⟩ := ckLe_ok ht
  obtain ⟨t6, ht⟩ := ckLe_ok ht
  have k5 : 5 < k := Nat.lt_of_not_le hk5
  exact ⟨Int.natCast_nonneg _, Int.ofNat_le.mpr t0, upto_nrm (difk t1 k5) (difk t2 k5) (difk t3 k5) (difk t4 k5) (difk t5 k5) (difk t6 k5) (k1 k5)⟩
/-- six_dec for parts whose least is any -/
theorem least_sub (p q r t : Int) : least p q r - t = least (p - t) (q - t) (r - t) := by
  have h : ∀ p q : Int, min p q - t = min (p - t) (q - t) := fun p q => by omega
  unfold least
  rw [h, h]
theorem least_shift (p q r a b c : Int) : least (p - a) (q - b) (r - c) - least p q r = least (p - least p q r - a) (q - least p q r - b) (r - least p q r - c) := by
  have h : ∀ u v w : Int, u - v - w = u - w - v := fun u v w => by omega
  rw [least_sub, h p, h q, h r]
theorem six_parts {p q r : Int} {c : Int × Int × Int} {n : Int}
    (h : Upto n (p - least p q r - c.1 - least (p - least p q r - c.1) (q - least p q r - c.2.1) (r - least p q r - c.2.2))
      (q - least p q r - c.2.1 - least (p - least p q r - c.1) (q - least p q r - c.2.1) (r - least p q r - c.2.2))
      (r - least p q r - c.2.2 - least (p - least p q r - c.1) (q - least p q r - c.2.1) (r - least p q r - c.2.2))) :
    Upto n (p - c.1 - least (p - c.1) (q - c.2.1) (r - c.2.2)) (q - c.2.1 - least (p - c.1) (q - c.2.1) (r - c.2.2)) (r - c.2.2 - least (p - c.1) (q - c.2.1) (r - c.2.2)) := by
  rw [← least_shift] at h
  obtain ⟨a1, a2, a3, a4, a5, a6, a7⟩ := h
  constructor <;> omega
theorem upto_mono {n n' x y z : Int} (h : Upto n x y z) (hn : n ≤ n') : Upto n' x y z := by
  obtain ⟨a1, a2, a3, a4, a5, a6, a7⟩ := h
  constructor <;> omega
theorem upto_max {n x y z : Int} (h : Upto n x y z) : max3 x y z ≤ n := by
  obtain ⟨a1, a2, a3, a4, a5, a6, a7⟩ := h
  unfold max3; omega
theorem upto_five {n x y z : Int} (h : Upto n x y z) (h5 : max3 x y z ≤ 5) : Upto 5 x y z := by
  obtain ⟨a1, a2, a3, a4, a5, a6, a7⟩ := h
  unfold max3 at h5
  constructor <;> omega
theorem max3_pos {n x y z : Int} (h : Upto n x y z) : 0 ≤ max3 x y z := by
  obtain ⟨a1, a2, a3, a4, a5, a6, a7⟩ := h
  unfold max3; omega
theorem phi_sub (p q r a b c : Int) : phi (p - a) (q - b) (r - c) = phi p q r - phi a b c := by unfold phi; omega
theorem code91 {c : Int} (c0 : 0 ≤ c) (c1 : c ≤ 5) : phi (codeX c).1 (codeX c).2.1 (codeX c).2.2 % 91 = 0 := by
  have hc : c = 0 ∨ c = 1 ∨ c = 2 ∨ c = 3 ∨ c = 4 ∨ c = 5 := by omega
  rcases hc with rfl | rfl | rfl | rfl | rfl | rfl <;> decide
theorem mod91 {u v t : Int} (h : (u - t) % 91 = 0) (hv : v % 91 = 0) : (u - v - t) % 91 = 0 := by omega
theorem phi_code {p q r t c : Int} (c0 : 0 ≤ c) (c1 : c ≤ 5) (h : (phi p q r - t) % 91 = 0) : (phi (p - (codeX c).1) (q - (codeX c).2.1) (r - (codeX c).2.2) - t) % 91 = 0 := by
  rw [phi_sub]
  exact mod91 h (code91 c0 c1)
theorem phi_nrm {p q r t : Int} (h : (phi p q r - t) % 91 = 0) : (phi (p - least p q r) (q - least p q r) (r - least p q r) - t) % 91 = 0 := by
  unfold phi at *; omega
theorem all_ne_lt {l : Led} {L c : Nat} (h : ∀ p ∈ l, p.1 < L) (hc : L ≤ c) : ∀ p ∈ l, p.1 ≠ c := fun p hp e => absurd (h p hp) (by rw [e]; exact Nat.not_lt.mpr hc)
theorem all_app {l r : Led} {c : Addr} (h : ∀ p ∈ l, p.1 ≠ c) (h' : ∀ p ∈ r, p.1 ≠ c) : ∀ p ∈ l ++ r, p.1 ≠ c := fun p hp => (List.mem_append.mp hp).elim (h p) (h' p)
theorem three_li {p q r : Int} {ys : List Value} (hl : ys.length = 3) (hR : ∀ i y, ys[i]? = some y → ∃ t, y = Value.int ([p, q, r].getD i 0) t) : ∃ a b c, ys = [.int p a, .int q b, .int r c] := three_ys hl hR
end Mine
namespace Mine
theorem place_bnd {x y z : Int} (h : Upto 20 x y z) (h6 : 5 < max3 x y z) : 0 ≤ placeX x y z ∧ placeX x y z ≤ 120 := by
  obtain ⟨a, b, c, d, k, rfl, rfl, rfl, -, hk, hm, ha, hb, hc, -, hz⟩ := upto_nat (n := 20) (m := 0) h (Int.le_refl 0) (Int.le_refl 0)
  rw [hm] at h6
  have hk5 : ¬ k ≤ 5 := Nat.not_le.mpr (Int.ofNat_lt.mp h6)
  obtain ⟨ka, kb, kc, -⟩ := max_bnd hk ha hb hc
  have ht : dec1 a b c = 0 := three_zero tab_dec ha hb hc hz
  unfold dec1 dec2 dec3 at ht
  rw [mx_is hk, cond_ble, if_neg hk5] at ht
  obtain ⟨t0, ht⟩ := ckLe_ok ht
  rw [place_N hm ka kb kc]
  exact ⟨Int.natCast_nonneg _, Int.ofNat_le.mpr t0⟩
theorem not_over {k : Int} (h : (6 * k).natAbs ≤ 120) (h' : 2 ^ 1024 - 2 ^ 970 ≤ (6 * k).natAbs) : False := by
  have h4 : (121 : Nat) ≤ 2 ^ 1024 - 2 ^ 970 := by decide +kernel
  exact absurd (Nat.le_trans h4 h') (by omega)
theorem not_over' {k : Int} (h : k.natAbs ≤ 120) (h' : 2 ^ 1024 - 2 ^ 970 ≤ k.natAbs) : False := by
  have h4 : (121 : Nat) ≤ 2 ^ 1024 - 2 ^ 970 := by decide +kernel
  exact absurd (Nat.le_trans h4 h') (by omega)
end Mine
end
section
open PySem PySem.W PyProof.Rows PySem.Calls PySem.Spec
set_option maxRecDepth 100000
set_option maxHeartbeats 8000000
namespace Mine
theorem painted_use (w : World) {hh hs hv : UInt64} {t1 t2 t3 : Tok} {news : Led} {a b c : Int} (h : PntIs hh hs hv a b c) :
    Does w 40 [.float hh t1, .float hs t2, .float hv t3] news 2 (fun r tl => ∃ D x y z, r = .ref D ∧ tl = [(D, li3 a b c x y z)]) := by
  have := painted_does w hh hs hv t1 t2 t3 news h.ok
  rw [h.ea, h.eb, h.ec] at this
  exact this
theorem told_use (w : World) {wh : Int} {tw : Tok} {P : Addr} {x y z : Int} {a1 b1 c1 : Tok} {n : Nat} {news : Led} {r g b : Int} (h : TldIs wh x y z r g b) (hm : (P, li3 x y z a1 b1 c1 n) ∈ news) :
    Does w 52 [.int wh tw, .ref P] news 2 (fun rv tl => ∃ D a b' c, rv = .ref D ∧ tl = [(D, tup3 (.float (tld r g b).1 a) (.float (tld r g b).2.1 b') (.float (tld r g b).2.2 c))]) :=
  told_does w wh tw P x y z a1 b1 c1 n news hm r g b h.er h.eg h.eb h.ok
theorem off1_of {D : Addr} {o : Obj} : ∀ {l : Led}, (∀ p ∈ l, ∀ q ∈ [(D, o)], p.1 ≠ q.1) → LCg.Off1 D l
  | [], _ => trivial
  | _ :: _, h => ⟨h _ List.mem_cons_self _ (List.mem_singleton.mpr rfl), off1_of fun p hp => h p (List.mem_cons_of_mem _ hp)⟩
theorem up1 (a : Nat) : a + 1 ≠ a := Nat.succ_ne_self a
theorem up2 (a : Nat) : a + 1 + 1 ≠ a := by omega
theorem up3 (a : Nat) : a + 1 + 1 + 1 ≠ a := by omega
theorem off1_ne {D a : Addr} {o : Obj} {l : Led} (h : LCg.Off1 D l) (hm : (a, o) ∈ l) : a ≠ D := off1_mem h _ hm
theorem off1_sym {D a : Addr} {o : Obj} {l : Led} (h : LCg.Off1 D l) (hm : (a, o) ∈ l) : D ≠ a := fun e => off1_mem h _ hm e.symm
/-- the reader between two letters -/
structure RS where
  x : Int
  y : Int
  z : Int
  ta : Tok
  tb : Tok
  tc : Tok
  o1 : Obj
  o2 : Obj
  o3 : Obj
  o4 : Obj
  v1 : Option Value
  v2 : Option Value
  v3 : Option Value
  v4 : Option Value
/-- the reader while it mends -/
structure WS where
  p : Int
  q : Int
  r : Int
  ta : Tok
  tb : Tok
  tc : Tok
  tm : Tok
  i1 : Tok
  i2 : Tok
  i3 : Tok
  n : Nat
  P : Addr
  o1 : Obj
  o2 : Obj
  o3 : Obj
  o4 : Obj
  v1 : Option Value
  v3 : Option Value
  v4 : Option Value
theorem toNat_lt {a b : Int} (h : a ≤ b - 1) (hb : 5 < b) : a.toNat < b.toNat := by omega
theorem cells_in {a b c d e : Addr × Obj} {news own TT : Led} (h : news ++ own = TT) : ∀ z ∈ a :: b :: c :: d :: news, z ∈ e :: a :: b :: c :: d :: TT := by
  intro z hz
  subst h
  simp only [List.mem_cons, List.mem_append] at hz ⊢
  rcases hz with h | h | h | h | h <;> simp [h]
theorem own_in {a b c d e : Addr × Obj} {news own TT : Led} (h : news ++ own = TT) : ∀ z ∈ own, z ∈ e :: a :: b :: c :: d :: TT := by
  intro z hz
  subst h
  simp [hz]
abbrev nx (p q r : Int) : Int := p - least p q r
abbrev ny (p q r : Int) : Int := q - least p q r
abbrev nz (p q r : Int) : Int := r - least p q r
section
local macro_rules | `(tactic| k_mem) => `(tactic| first | exact List.Mem.head _ | with_reducible assumption | (refine List.mem_cons_of_mem _ ?_; k_mem))
local macro_rules | `(tactic| walk_at "call ref") => `(tactic| refine Stop.out ?_)
local macro_rules | `(tactic| k_ne) => `(tactic| first | exact off1_ne (by assumption) (by k_mem) | exact off1_sym (by assumption) (by k_mem) | (refine neN ?_; (try dsimp only); first | exact up1 _ | exact up2 _ | exact up3 _ | exact Ne.symm (up1 _) | exact Ne.symm (up2 _) | exact Ne.symm (up3 _) | omega))
local macro_rules | `(tactic| k_all) => `(tactic| assumption)
local macro_rules | `(tactic| walk_at "exec While Compare cons nil") => `(tactic| refine Stop.out ?_)
local macro_rules | `(tactic| walk_at "binaryOp FloorDiv int int") => `(tactic| refine Stop.out ?_)
local macro_rules | `(tactic| walk_at "CompSrc") => `(tactic| refine Stop.out ?_)
theorem read_does (w : World) (wd : Array UInt8) (tb : Tok) (cor : Int) (tc : Tok) (wh : Int) (tw : Tok) (news : Led) (c0 : 0 ≤ cor) (c1 : cor ≤ 5) (w0 : 0 ≤ wh) (w1 : wh ≤ 11) (hwd : ∀ k ∈ KBw.bInts wd, 65 ≤ k ∧ k ≤ 80) :
    Does w 57 [.bytes wd tb, .int cor tc, .int wh tw] news 3 (fun r tl => ∃ D x y z a b c, r = .ref D ∧ Upto 5 x y z ∧ (phi x y z - phi (wheelX cor).1 (wheelX cor).2.1 (wheelX cor).2.2 * horn (KBw.bInts wd)) % 91 = 0 ∧ tl = [(D, li3 (x + wh) (y + wh) (z + wh) a b c)]) := by
  w_top off
  unfold Does
  k_fill
  intro mean mg mb dp un gd cn cs a ccd cl outer A₀ base h₀ L m s Q E B F X N T hk hd hu hret
  refine wpAny_call ?_
  k_dflt (refine' code_defC ?k1 ?k2 ?k3 ?k4 ?k5 ?kA ?kF ?kK ?k6 ?k7 ?k8 ?k9 ?kB ?kD ?_ ?c2 ?c3 ?c4; (case kA => exact rfl); (case kF => exact rfl); (case kK => assumption); (case k1 => k_asm); (case k2 => k_asm); (case k3 => k_asm); (case k4 => k_asm); (case k5 => k_asm); (case k6 => k_is); (case k7 => k_is); (case k8 => ktr_room); (case k9 => exact BindsTo.of_eq rfl); (case kB => exact rfl); (case kD => decide +kernel); (case c2 => exact rfl); (case c3 => exact rfl); (case c4 => exact rfl); k_whole)
  intro g' L' h' tk' cells' FG' F' N' Y' B' X' T' l1
  have hY := CellsAre.four Y'
  obtain ⟨o', o2', o3', o4', hE', d1', d2', d3', d4'⟩ := hY
  subst hE'
  clear Y'
  simp only [List.cons_append, List.nil_append] at N'
  dsimp only
  try k_fold
  have hz0 : TldIs wh 0 0 0 (0 + wh) (0 + wh) (0 + wh) := ⟨n_told (upto_zero (by decide)) w0 w1, by simp [least], by simp [least], by simp [least]⟩
  k_steps
  unfold Stop
  k_dflt (refine' Does.use (told_use _ ?ok ?om) ?k1 ?k2 ?k3 ?k4 ?k5 ?kK ?kd ?ku ?_; (case k1 => k_asm); (case k2 => k_asm); (case k3 => k_asm); (case k4 => k_asm); (case k5 => k_asm); (case kK => first | exact rfl | assumption); (case kd => ktr_room); (case ku => ktr_units); (case om => k_mem); (case ok => assumption))
  intro _ _ _ _ Fz Nz lz hRz
  obtain ⟨_, _, _, _, e1z, e2z⟩ := hRz
  subst e1z e2z
  have _ := off1_of lz
  clear lz
  simp only [List.cons_append, List.nil_append] at Nz
  try k_sweep
  try dsimp only
  k_steps
  rename_i D' ta0 tb0 tc0 oo hh1 hh2 hh3 hh4 lF lN
  refine' KStb.kst_bytes (σ := RS) (fun c => [(L' + 1 + 1 + 1 + 1, c.o1), (L' + 1 + 1 + 1, c.o2), (L' + 1 + 1, c.o3), (L' + 1, c.o4)] ++ news)
    (fun c => [(Str.ofString "hue", .float (tld (c.x + wh) (c.y + wh) (c.z + wh)).1 c.ta), (Str.ofString "share", .float (tld (c.x + wh) (c.y + wh) (c.z + wh)).2.1 c.tb), (Str.ofString "level", .float (tld (c.x + wh) (c.y + wh) (c.z + wh)).2.2 c.tc)])
    (fun c => c.o1.data = .cell c.v1 ∧ c.o2.data = .cell c.v2 ∧ c.o3.data = .cell c.v3 ∧ c.o4.data = .cell c.v4)
    [Str.ofString "most", Str.ofString "sixth"]
    (fun pre c => Upto 5 c.x c.y c.z ∧ (phi c.x c.y c.z - phi (wheelX cor).1 (wheelX cor).2.1 (wheelX cor).2.2 * horn pre) % 91 = 0)
    ⟨0, 0, 0, ta0, tb0, tc0, o', o2', o3', o4', none, none, none, none⟩ rfl rfl rfl lF ?kn ⟨d1', d2', d3', d4'⟩ ?kk ?kp ?turn ?done
  case kn => exact KStb.news_of lN (fun p hp => List.mem_cons_of_mem _ (List.mem_cons_of_mem _ hp))
  case kk => intro p hp; simp only [List.mem_cons, List.not_mem_nil, or_false] at hp; rcases hp with rfl | rfl | rfl <;> rfl
  case kp => exact ⟨upto_zero (by decide), by simp [phi, horn]⟩
  case turn =>
    rintro ⟨x, y, z, ta, tb, tc, o1, o2, o3, o4, v1, v2, v3, v4⟩ pre post n t u h tk own hks hlen hn0 hn1 hoff ⟨e1, e2, e3, e4⟩ ⟨hball, hphi⟩ F2 N2
    dsimp only at e1 e2 e3 e4 hball hphi F2 N2
    simp only [List.cons_append, List.nil_append] at N2
    clear lF lN
    have hw := hwd n (by rw [hks]; exact List.mem_append_right _ List.mem_cons_self)
    have hT1 : ∀ p ∈ news ++ own, p.1 ≠ L' + 1 := all_app (all_ne_lt l1 (by omega)) (fun p hp => hoff p hp _ (by simp))
    have hT2 : ∀ p ∈ news ++ own, p.1 ≠ L' + 1 + 1 := all_app (all_ne_lt l1 (by omega)) (fun p hp => hoff p hp _ (by simp))
    have hT3 : ∀ p ∈ news ++ own, p.1 ≠ L' + 1 + 1 + 1 := all_app (all_ne_lt l1 (by omega)) (fun p hp => hoff p hp _ (by simp))
    have hT4 : ∀ p ∈ news ++ own, p.1 ≠ L' + 1 + 1 + 1 + 1 := all_app (all_ne_lt l1 (by omega)) (fun p hp => hoff p hp _ (by simp))
    generalize hTT : news ++ own = TT at N2 hT1 hT2 hT3 hT4
    have hPt := n_turn hball w0 w1
    have hPi := n_ink c0 c1 (d := n - 65) (by omega) (by omega)
    have h20 := upto_ink (w := wh) hball (d := n - 65) (by omega) (by omega) c0 c1
    have hH := phi_ink91 (w := wh) (d := n - 65) (wheelX cor) rfl hphi
    rw [← horn_snoc] at hH
    have hTl : TldIs wh (z + wh + (n - 65) * (wheelX cor).1) (x + wh + (n - 65) * (wheelX cor).2.1) (y + wh + (n - 65) * (wheelX cor).2.2) _ _ _ := ⟨n_told h20 w0 w1, rfl, rfl, rfl⟩
    obtain ⟨hM1, hM2⟩ := n_most h20 w0 w1
    unfold mostE at hM1 hM2
    clear hphi hoff hwd hz0
    try k_fold
    k_steps
    unfold Stop
    k_dflt (refine' Does.use (painted_use _ ?ok) ?k1 ?k2 ?k3 ?k4 ?k5 ?kK ?kd ?ku ?_; (case k1 => k_asm); (case k2 => k_asm); (case k3 => k_asm); (case k4 => k_asm); (case k5 => k_asm); (case kK => first | exact rfl | assumption); (case kd => ktr_room); (case ku => ktr_units); (case ok => assumption))
    intro _ _ _ _ Fz Nz lz hRz
    obtain ⟨_, _, _, _, e1z, e2z⟩ := hRz
    subst e1z e2z
    have _ := off1_of lz
    clear lz
    simp only [List.cons_append, List.nil_append] at Nz
    try k_sweep
    try dsimp only
    k_steps
    unfold Stop
    k_dflt (refine' Does.use (painted_use _ ?ok) ?k1 ?k2 ?k3 ?k4 ?k5 ?kK ?kd ?ku ?_; (case k1 => k_asm); (case k2 => k_asm); (case k3 => k_asm); (case k4 => k_asm); (case k5 => k_asm); (case kK => first | exact rfl | assumption); (case kd => ktr_room); (case ku => ktr_units); (case ok => assumption))
    intro _ _ _ _ Fz Nz lz hRz
    obtain ⟨_, _, _, _, e1z, e2z⟩ := hRz
    subst e1z e2z
    have _ := off1_of lz
    clear lz
    simp only [List.cons_append, List.nil_append] at Nz
    try k_sweep
    try dsimp only
    k_steps
    unfold Stop
    rename_i oTur dTur tkA xa xb xc xd hA tkB DInk ia ib ic oInkOff hB oInk FA NA dInk hC tkC tr1 tr2 tr3 rng FB NB keepB
    k_dflt (refine' src_rngE (n := 3) (fun i v => ∃ t, v = Value.int ([z + wh + (n - 65) * (wheelX cor).1, x + wh + (n - 65) * (wheelX cor).2.1, y + wh + (n - 65) * (wheelX cor).2.2].getD i 0) t) ?k0 ?k1 ?k2 ?k3 ?k4 ?k5 ?k6 ?k7 ?k8; (case k0 => rfl); (case k1 => k_asm); (case k2 => k_asm); (case k3 => assumption); (case k4 => decide); (case k5 => rfl); (case k6 => decide))
    case k7 =>
      rintro i v I oI C oC D ys m₂ h tk E' hi ⟨t, rfl⟩ hC hx F' N' off ne
      have hi3 : i = 0 ∨ i = 1 ∨ i = 2 := by omega
      rcases hi3 with rfl | rfl | rfl
      all_goals k_steps
      all_goals exact ElEnd.intro (by assumption) (by assumption) (fun p hp => hp) ⟨_, rfl⟩
    case k8 =>
      intro ys D h tk hl hR F' N' od
      obtain ⟨lt1, lt2, lt3, rfl⟩ := three_li hl hR
      clear hR hl
      k_steps
      unfold Stop
      k_dflt (refine' Does.use (told_use _ ?ok ?om) ?k1 ?k2 ?k3 ?k4 ?k5 ?kK ?kd ?ku ?_; (case k1 => k_asm); (case k2 => k_asm); (case k3 => k_asm); (case k4 => k_asm); (case k5 => k_asm); (case kK => first | exact rfl | assumption); (case kd => ktr_room); (case ku => ktr_units); (case om => k_mem); (case ok => assumption))
      intro _ _ _ _ Fz Nz lz hRz
      obtain ⟨_, _, _, _, e1z, e2z⟩ := hRz
      subst e1z e2z
      have _ := off1_of lz
      clear lz
      simp only [List.cons_append, List.nil_append] at Nz
      try k_sweep
      try dsimp only
      k_steps
      unfold Stop
      rename_i oPar dPar tkD hD1 tkE DTup fa fb fc offTup hD2 hD3 hD4 hD5 tkF xe xf hW FW NW
      rw [hM2] at FW
      clear hM1 hM2 xf
      generalize hp : z + wh + (n - 65) * (wheelX cor).1 = p at *
      generalize hq : x + wh + (n - 65) * (wheelX cor).2.1 = q at *
      generalize hr : y + wh + (n - 65) * (wheelX cor).2.2 = r at *
      refine' ksw_while (σ := WS) (fun c => (c.P, li3 c.p c.q c.r c.i1 c.i2 c.i3 c.n) :: (L' + 1 + 1 + 1 + 1, c.o1) :: (L' + 1 + 1 + 1, c.o2) :: (L' + 1 + 1, c.o3) :: (L' + 1, c.o4) :: TT)
        (fun c => [(Str.ofString "hue", .float (tld (nx c.p c.q c.r + wh) (ny c.p c.q c.r + wh) (nz c.p c.q c.r + wh)).1 c.ta), (Str.ofString "share", .float (tld (nx c.p c.q c.r + wh) (ny c.p c.q c.r + wh) (nz c.p c.q c.r + wh)).2.1 c.tb), (Str.ofString "level", .float (tld (nx c.p c.q c.r + wh) (ny c.p c.q c.r + wh) (nz c.p c.q c.r + wh)).2.2 c.tc), (Str.ofString "most", .int (max3 (nx c.p c.q c.r) (ny c.p c.q c.r) (nz c.p c.q c.r)) c.tm)])
        (fun c => c.o1.data = .cell c.v1 ∧ c.o2.data = .cell (some (.ref c.P)) ∧ c.o3.data = .cell c.v3 ∧ c.o4.data = .cell c.v4 ∧ (@Ne Nat c.P (L' + 1)) ∧ (@Ne Nat c.P (L' + 1 + 1)) ∧ (@Ne Nat c.P (L' + 1 + 1 + 1)) ∧ (@Ne Nat c.P (L' + 1 + 1 + 1 + 1)))
        [Str.ofString "sixth"]
        (fun c => Upto 20 (nx c.p c.q c.r) (ny c.p c.q c.r) (nz c.p c.q c.r) ∧ (phi c.p c.q c.r - phi (wheelX cor).1 (wheelX cor).2.1 (wheelX cor).2.2 * horn (pre ++ [n])) % 91 = 0)
        (fun c => (max3 (nx c.p c.q c.r) (ny c.p c.q c.r) (nz c.p c.q c.r)).toNat)
        ⟨p, q, r, fa, fb, fc, _, lt1, lt2, lt3, 3, D, o1, oPar, oInk, oTur, v1, _, _⟩ FW ?kn ⟨e1, dPar, dInk, dTur, off1_sym od (by k_mem), off1_sym od (by k_mem), off1_sym od (by k_mem), off1_sym od (by k_mem)⟩ ?kk ⟨h20, hH⟩ ?turn2
      case kn => exact KStb.news_of NW (fun z hz => List.mem_cons_of_mem _ (sub_led (b := [_, _]) hz))
      case kk => intro z hz; simp only [List.mem_cons, List.not_mem_nil, or_false] at hz; rcases hz with rfl | rfl | rfl | rfl <;> rfl
      case turn2 =>
        rintro ⟨p, q, r, ta, tb, tc, tm, i1, i2, i3, nn, P, o1, o2, o3, o4, v1, v3, v4⟩ u h tk ⟨e1, e2, e3, e4, f1, f2, f3, f4⟩ ⟨h20, hH⟩ F2 N2
        dsimp only at e1 e2 e3 e4 f1 f2 f3 f4 h20 hH F2 N2
        clear FW NW hp hq hr dPar dInk dTur od offTup oInkOff
        by_cases h6 : 5 < max3 (nx p q r) (ny p q r) (nz p q r)
        · obtain ⟨s0, s5, hdec⟩ := six_dec h20 h6
          have hdec' := six_parts hdec
          have hPc := n_code s0 s5
          obtain ⟨hS1, hS2⟩ := n_six h20 w0 w1 h6
          unfold sixE at hS1 hS2
          have h20' := upto_mono hdec' (n' := 20) (by have := upto_max h20; omega)
          obtain ⟨hM1, hM2⟩ := n_most h20' w0 w1
          unfold mostE at hM1 hM2
          have hTl : TldIs wh (p - (codeX (sixX (nx p q r) (ny p q r) (nz p q r))).1) (q - (codeX (sixX (nx p q r) (ny p q r) (nz p q r))).2.1) (r - (codeX (sixX (nx p q r) (ny p q r) (nz p q r))).2.2) _ _ _ := ⟨n_told h20' w0 w1, rfl, rfl, rfl⟩
          have hpb := place_bnd h20 h6
          have hkb := upto_max h20
          k_steps
          unfold Stop
          dsimp only
          rw [hS2]
          refine floordiv_int (by omega) ?_ (Or.inl (PyProof.noPylong_small (by omega)))
          have hsx : (placeX (nx p q r) (ny p q r) (nz p q r)).fdiv (max3 (nx p q r) (ny p q r) (nz p q r)) = sixX (nx p q r) (ny p q r) (nz p q r) := rfl
          rw [hsx]
          k_steps
          unfold Stop
          k_dflt (refine' Does.use (painted_use _ ?ok) ?k1 ?k2 ?k3 ?k4 ?k5 ?kK ?kd ?ku ?_; (case k1 => k_asm); (case k2 => k_asm); (case k3 => k_asm); (case k4 => k_asm); (case k5 => k_asm); (case kK => first | exact rfl | assumption); (case kd => ktr_room); (case ku => ktr_units); (case ok => assumption))
          intro _ _ _ _ Fz Nz lz hRz
          obtain ⟨_, _, _, _, e1z, e2z⟩ := hRz
          subst e1z e2z
          have _ := off1_of lz
          clear lz
          simp only [List.cons_append, List.nil_append] at Nz
          try k_sweep
          try dsimp only
          k_steps
          unfold Stop
          rename_i hOC oCode FA2 NA2 dCode hC2 tkC2 tr1' tr2' tr3' rng2 FB2 NB2 keepB2
          k_dflt (refine' src_rngE (n := 3) (fun i v => ∃ t, v = Value.int ([p - (codeX (sixX (nx p q r) (ny p q r) (nz p q r))).1, q - (codeX (sixX (nx p q r) (ny p q r) (nz p q r))).2.1, r - (codeX (sixX (nx p q r) (ny p q r) (nz p q r))).2.2].getD i 0) t) ?k0 ?k1 ?k2 ?k3 ?k4 ?k5 ?k6 ?k7 ?k8; (case k0 => rfl); (case k1 => k_asm); (case k2 => k_asm); (case k3 => assumption); (case k4 => decide); (case k5 => rfl); (case k6 => decide))
          case k7 =>
            rintro i v I oI C oC D ys m₂ h tk E' hi ⟨t, rfl⟩ hC hx F' N' off ne
            have hi3 : i = 0 ∨ i = 1 ∨ i = 2 := by omega
            rcases hi3 with rfl | rfl | rfl
            all_goals k_steps
            all_goals exact ElEnd.intro (by assumption) (by assumption) (fun p hp => hp) ⟨_, rfl⟩
          case k8 =>
            intro ys D h tk hl hR F' N' od
            obtain ⟨lt1, lt2, lt3, rfl⟩ := three_li hl hR
            clear hR hl
            k_steps
            unfold Stop
            k_dflt (refine' Does.use (told_use _ ?ok ?om) ?k1 ?k2 ?k3 ?k4 ?k5 ?kK ?kd ?ku ?_; (case k1 => k_asm); (case k2 => k_asm); (case k3 => k_asm); (case k4 => k_asm); (case k5 => k_asm); (case kK => first | exact rfl | assumption); (case kd => ktr_room); (case ku => ktr_units); (case om => k_mem); (case ok => assumption))
            intro _ _ _ _ Fz Nz lz hRz
            obtain ⟨_, _, _, _, e1z, e2z⟩ := hRz
            subst e1z e2z
            have _ := off1_of lz
            clear lz
            simp only [List.cons_append, List.nil_append] at Nz
            try k_sweep
            try dsimp only
            k_steps
            rename_i oP2 dP2 tkD2 hE1 tkE2 DT2 ga gb gc off2 hE2 hE3 hE4 hE5 tkF2 xg xh hW2 FW2 NW2
            rw [hM2] at FW2
            refine' ksw_end (σ := WS) ⟨p - (codeX (sixX (nx p q r) (ny p q r) (nz p q r))).1, q - (codeX (sixX (nx p q r) (ny p q r) (nz p q r))).2.1, r - (codeX (sixX (nx p q r) (ny p q r) (nz p q r))).2.2, ga, gb, gc, _, lt1, lt2, lt3, 3, D, oCode, oP2, o3, o4, _, v3, v4⟩ FW2 NW2 (fun z hz => List.mem_cons_of_mem _ (sub_led (b := [_, _]) hz)) ⟨dCode, dP2, e3, e4, off1_sym od (by k_mem), off1_sym od (by k_mem), off1_sym od (by k_mem), off1_sym od (by k_mem)⟩ ?hk9 ?hr9 ⟨h20', phi_code s0 s5 hH⟩ ?hm9
            case hk9 => intro z hz; simp only [List.mem_cons, List.not_mem_nil, or_false] at hz; rcases hz with rfl | rfl | rfl | rfl <;> rfl
            case hr9 =>
              intro z h2 h3
              simp only [List.forall_mem_cons, List.not_mem_nil, false_implies, implies_true, and_true, ne_eq] at h2
              simp only [List.contains_cons, List.contains_nil, Bool.or_false, beq_eq_false_iff_ne, ne_eq] at h3
              simp [kstB, h2, h3]
            case hm9 =>
              exact toNat_lt (upto_max hdec') h6
        · k_steps
          refine kst_end (σ := RS) ⟨nx p q r, ny p q r, nz p q r, ta, tb, tc, o1, o2, o3, o4, v1, some (.ref P), v3, v4⟩ (by assumption) (by assumption) (cells_in hTT) (own_in hTT) rfl ⟨e1, e2, e3, e4⟩ ?_ ?_ ⟨upto_five h20 (Int.not_lt.mp h6), phi_nrm hH⟩
          · intro z hz; simp only [List.mem_cons, List.not_mem_nil, or_false] at hz; rcases hz with rfl | rfl | rfl <;> rfl
          · intro z h1 h2 h3
            simp only [List.forall_mem_cons, List.not_mem_nil, false_implies, implies_true, and_true, ne_eq] at h2
            simp only [List.contains_cons, List.contains_nil, Bool.or_false, Bool.or_eq_false_iff, beq_eq_false_iff_ne, ne_eq] at h3
            simp [kstB, h1, h2, h3]
  case done =>
    rintro ⟨x, y, z, ta, tb, tc, o1, o2, o3, o4, v1, v2, v3, v4⟩ u h tk hlen ⟨e1, e2, e3, e4⟩ ⟨hball, hphi⟩ F2 N2
    dsimp only at e1 e2 e3 e4 hball hphi F2 N2 ⊢
    have hPf := n_final hball w0 w1
    simp only [List.cons_append, List.nil_append] at N2
    clear lF lN
    k_steps
    unfold Stop
    k_dflt (refine' Does.use (painted_use _ ?ok) ?k1 ?k2 ?k3 ?k4 ?k5 ?kK ?kd ?ku ?_; (case k1 => k_asm); (case k2 => k_asm); (case k3 => k_asm); (case k4 => k_asm); (case k5 => k_asm); (case kK => first | exact rfl | assumption); (case kd => ktr_room); (case ku => ktr_units); (case ok => assumption))
    intro _ _ _ _ Fz Nz lz hRz
    obtain ⟨_, _, _, _, e1z, e2z⟩ := hRz
    subst e1z e2z
    have _ := off1_of lz
    clear lz
    simp only [List.cons_append, List.nil_append] at Nz
    try k_sweep
    try dsimp only
    k_steps
    rename News h₀ L _ _ => kN
    rename LCg.Off1 _ _ => kO
    exact hret _ [(_, _)] _ _ (by assumption) (fun p hp => kN p (sub_led (b := [_, _, _, _]) hp)) (fun p hp q hq => by rw [List.mem_singleton.mp hq]; exact off1_mem (kO.2.2.2.2) p hp) ⟨_, x, y, z, _, _, _, rfl, hball, hphi, rfl⟩
end
end Mine
end
section
open PySem PySem.W PyProof.Rows PySem.Calls PySem.Spec
set_option maxRecDepth 100000
set_option maxHeartbeats 8000000
namespace Mine
/-- the letters of a number -/
def apW (n : Nat) : List UInt8 := if h : n = 0 then [] else apW (n / 16) ++ [(65 + n % 16).toUInt8]
termination_by n
decreasing_by omega
theorem apW_step {n : Nat} (h : ¬ n = 0) : apW n = apW (n / 16) ++ [(65 + n % 16).toUInt8] := by
  rw [apW]; simp [h]
theorem ap_pick16 : ∀ i : Nat, i < 16 → KBy.picked #[65, 66, 67, 68, 69, 70, 71, 72, 73, 74, 75, 76, 77, 78, 79, 80] (some (i : Int)) (some ((i : Int) + 1)) = #[(65 + i).toUInt8] := by decide +kernel
theorem ap_pick {num : Nat} : KBy.picked #[65, 66, 67, 68, 69, 70, 71, 72, 73, 74, 75, 76, 77, 78, 79, 80] (some ((num : Int).fmod 16)) (some ((num : Int).fmod 16 + 1)) = [(65 + num % 16).toUInt8].toArray := by
  have e : (num : Int).fmod 16 = ((num % 16 : Nat) : Int) := by rw [Int.fmod_eq_emod_of_nonneg _ (by decide : (0:Int) ≤ 16)]; omega
  rw [e]
  exact ap_pick16 (num % 16) (by omega)
theorem ap_div {num : Nat} : (num : Int).fdiv 16 = ((num / 16 : Nat) : Int) := by
  rw [Int.fdiv_eq_ediv_of_nonneg _ (by decide : (0:Int) ≤ 16)]; omega
structure PS where
  num : Nat
  val : List UInt8
  ta : Tok
  tb : Tok
section
local macro_rules | `(tactic| walk_at "subscriptTail") => `(tactic| ((with_reducible show wpAny _ _ (subscriptTail _ (Expr.Slice _ _ none _) (Value.bytes _ _) (Value.ref _)) _ _ _); refine Stop.out ?_))
local macro_rules | `(tactic| walk_at "binaryOp Add bytes bytes") => `(tactic| refine Stop.out ?_)
local macro_rules | `(tactic| walk_at "exec While Name cons nil") => `(tactic| refine Stop.out ?_)
theorem ap_does (w : World) (nm : Int) (tn : Tok) (news : Led) (hlen : (apW nm.natAbs).length ≤ 40) :
    Does w 35 [.int nm tn] news 1 (fun r tl => ∃ t, r = .bytes (apW nm.natAbs).toArray t ∧ tl = []) := by
  w_top off
  unfold Does
  k_fill
  intro mean mg mb dp un gd cn cs a ccd cl outer A₀ base h₀ L m s Q E B F X N T hk hd hu hret
  refine wpAny_call ?_
  k_dflt cell_enter
  k_steps
  unfold Stop
  rename Fr _ _ _ _ => FW
  have habs : (if nm < 0 then -nm else nm) = (nm.natAbs : Int) := by split <;> omega
  rw [habs] at FW
  rename News _ _ _ _ => NW
  refine' ksw_while (σ := PS) (fun _ => news)
    (fun c => [(Str.ofString "num", .int (c.num : Int) c.ta), (Str.ofString "val", .bytes c.val.toArray c.tb)])
    (fun _ => True)
    [Str.ofString "mod"]
    (fun c => apW nm.natAbs = apW c.num ++ c.val)
    (fun c => c.num) ⟨nm.natAbs, [], _, _⟩ FW NW trivial ?kk (by simp) ?turn
  case kk => intro z hz; simp only [List.mem_cons, List.not_mem_nil, or_false] at hz; rcases hz with rfl | rfl <;> rfl
  case turn =>
    rintro ⟨num, val, ta, tb⟩ u h tk - hP F2 N2
    dsimp only at hP F2 N2
    have hvl : val.length ≤ 40 := by
      have := congrArg List.length hP
      rw [List.length_append] at this
      omega
    by_cases h0 : num = 0
    · subst h0
      have hv : val = apW nm.natAbs := by rw [hP]; simp [apW]
      subst hv
      k_steps
      exact hret _ [] _ _ (by assumption) (by assumption) (by simp) ⟨_, rfl, rfl⟩
    · have hm0 : (0 : Int) ≤ (num : Int) % 16 := Int.emod_nonneg _ (by decide)
      have hm1 : (num : Int) % 16 < 16 := Int.emod_lt_of_pos _ (by decide)
      k_steps
      · unfold Stop
        rename Fr _ _ _ _ => F3
        rename News _ _ _ _ => N3
        refine KBc.slice_K (s := ⟨_, _, _, _, _⟩) F3 N3 rfl (by constructor) (by constructor) (by decide) ?_
        intro h5 t5 k5 F5 N5 _
        clear F3 N3
        rw [ap_pick]
        k_steps
        unfold Stop
        refine bytes_add_K (b := [(65 + num % 16).toUInt8]) (c := val) (by simp; omega) rfl ?_
        intro t6 k6
        k_steps
        rename News _ _ _ _ => NW2
        refine' ksw_end (σ := PS) ⟨num / 16, [(65 + num % 16).toUInt8] ++ val, _, _⟩ (by assumption) NW2 (fun z hz => List.mem_cons_of_mem _ hz) trivial ?hk9 ?hr9 ?hp9 ?hm9
        case hk9 =>
          intro z hz
          simp only [List.mem_cons, List.not_mem_nil, or_false] at hz
          rcases hz with rfl | rfl
          · show some (Value.int _ _) = some (Value.int _ _)
            rw [ap_div]
          · rfl
        case hr9 =>
          intro z h2 h3
          simp only [List.forall_mem_cons, List.not_mem_nil, false_implies, implies_true, and_true, ne_eq] at h2
          simp only [List.contains_cons, List.contains_nil, Bool.or_false, beq_eq_false_iff_ne, ne_eq] at h3
          simp [kstB, h2, h3]
        case hp9 =>
          show apW nm.natAbs = apW (num / 16) ++ ([(65 + num % 16).toUInt8] ++ val)
          rw [hP, ← List.append_assoc, ← apW_step h0]
        case hm9 =>
          show num / 16 < num
          omega
      · exfalso
        rename (_ : Int) = 0 => hz0
        omega
end
end Mine
end
section
open PySem PySem.W PyProof.Rows PySem.Calls PySem.Spec
set_option maxRecDepth 100000
set_option maxHeartbeats 8000000
namespace Mine
theorem ints_map {f : Nat → Int} : ∀ {ys : List Value} {k : Nat}, (∀ i y, ys[i]? = some y → ∃ t, y = Value.int (f (k + i)) t) → IntsAre ys ((List.range' k ys.length).map f)
  | [], _, _ => .nil
  | y :: ys, k, h => by
    obtain ⟨t, rfl⟩ := h 0 y rfl
    rw [List.length_cons, List.range'_succ, List.map_cons]
    refine .cons _ _ (ints_map fun i z hz => ?_)
    obtain ⟨t', e⟩ := h (i + 1) z (by simpa using hz)
    exact ⟨t', by rw [e]; congr 2; omega⟩
theorem range_getD (g : Int → Int) : ∀ (ns : List Int) (k : Nat) (f : Nat → Int), (∀ i, f (k + i) = ns.getD i 0) → (List.range' k ns.length).map (fun i => g (f i)) = ns.map g
  | [], _, _, _ => rfl
  | n :: ns, k, f, h => by
    rw [List.length_cons, List.range'_succ, List.map_cons, List.map_cons]
    congr 1
    · have := h 0; simp at this; rw [this]
    · refine range_getD g ns (k + 1) f fun i => ?_
      have := h (i + 1)
      rw [show k + (i + 1) = k + 1 + i by omega] at this
      rw [this]; simp
/-- an element told by the item's number: the list is the map -/
theorem ints_list {g : Int → Int} {ns : List Int} {ys : List Value} (hl : ys.length = ns.length) (h : ∀ i y, ys[i]? = some y → ∃ t, y = Value.int (g (ns.getD i 0)) t) : IntsAre ys (ns.map g) := by
  have h1 := ints_map (f := fun i => g (ns.getD i 0)) (k := 0) (ys := ys) (by simpa using h)
  rw [hl, range_getD g ns 0 (fun i => ns.getD i 0) (by simp)] at h1
  exact h1
theorem ints_range {f : Nat → Int} {n : Nat} {ys : List Value} (hl : ys.length = n) (h : ∀ i y, ys[i]? = some y → ∃ t, y = Value.int (f i) t) : IntsAre ys ((List.range n).map f) := by
  have h1 := ints_map (f := f) (k := 0) (ys := ys) (by simpa using h)
  rw [hl, ← List.range_eq_range'] at h1
  exact h1
section
variable {prog : Program} {w : World} {A : Around} {E : Value → Shared → Prop} {s : Shared} {h₀ : Heap} {L : Addr} {m : Str → Option Value} {env : Env}
/-- one rule for the element of a comprehension over ints -/
def IntRule (prog : Program) (w : World) (A : Around) (h₀ : Heap) (L : Addr) (m : Str → Option Value) (env : Env) (elt : PySem.Expr) (x : Str) (scope : Scope) (cl : List (Str × Addr)) (s : Shared) (news : Led) (ns : List Int) (g : Int → Int) : Prop :=
  ∀ n t I oI C oC D ys m₂ h tk (E' : Value → Shared → Prop), n ∈ ns → LCg.NsObj oC m₂ → m₂ x = some (.int n t) → Fr h₀ L h m → News h₀ L h ((I, oI) :: (C, oC) :: (D, LCg.lst ys) :: news) → LCg.Off3 I C D news → ((@Ne Nat I C) ∧ (@Ne Nat I D) ∧ (@Ne Nat C D)) →
      wpAny (model prog w) A (eval elt (compEnvC scope cl C env)) (ElEnd h₀ L m ((I, oI) :: (C, oC) :: (D, LCg.lst ys) :: news) { s with heap := h, toks := tk } (fun y => ∃ t, y = .int (g n) t)) E' { s with heap := h, toks := tk }
theorem IntRule.el {elt : PySem.Expr} {x : Str} {scope : Scope} {cl : List (Str × Addr)} {news : Led} {ns : List Int} {g : Int → Int} {its : List Value} (hi : IntsAre its ns) (h : IntRule prog w A h₀ L m env elt x scope cl s news ns g) :
    ElRule prog w A h₀ L m env elt x scope cl s news its.toArray.size (fun i v => its.toArray[i]? = some v) (fun i v => ∃ t, v = .int (g (ns.getD i 0)) t) := by
  intro i v I oI C oC D ys m₂ hh tk E' hi' hv hC hx F N off ne
  obtain ⟨n, t, rfl, hn⟩ := hi.at i v (by simpa using hv)
  have e : ns.getD i 0 = n := by rw [List.getD_eq_getElem?_getD, hn]; rfl
  dsimp only
  rw [e]
  exact h n t I oI C oC D ys m₂ hh tk E' (List.mem_of_getElem? hn) hC hx F N off ne
theorem srcI_E {elt : PySem.Expr} {x : Str} {scope : Scope} {cl : List (Str × Addr)} {Q : Value → Shared → Prop} {ax : Addr} {its : List Value} {k : Nat} {news : Led} {ns : List Int} (g : Int → Int)
    (hh : A.handled = none) (F : Fr h₀ L s.heap m) (N : News h₀ L s.heap news) (hm : (ax, ({ cls := .type "list", data := .seq its.toArray k } : Obj)) ∈ news) (hi : IntsAre its ns) (hsz : ns.length ≤ 1000)
    (elem : IntRule prog w A h₀ L m env elt x scope cl s news ns g)
    (fin : ∀ ys D h tk, IntsAre ys (ns.map g) → Fr h₀ L h m → News h₀ L h ((D, LCg.lst ys) :: news) → LCg.Off1 D news → Q (.ref D) { s with heap := h, toks := tk }) :
    LCg.CompSrc prog w A h₀ L m env elt x scope cl (fun s₂ => LCg.FinE h₀ L m s₂ Q) (.ref ax) s :=
  src_ledE _ hh F N hm (by rw [List.size_toArray, hi.length, sizeLine_eq]; omega) (elem.el hi) fun ys D h tk hl hR F' N' o => fin ys D h tk (ints_list (by rw [hl, List.size_toArray, hi.length]) hR) F' N' o
theorem srcI_A {elt : PySem.Expr} {x y : Str} {scope : Scope} {cl : List (Str × Addr)} {Q : Flow → Shared → Prop} {ax : Addr} {its : List Value} {k : Nat} {news : Led} {ns : List Int} (g : Int → Int)
    (hh : A.handled = none) (F : Fr h₀ L s.heap m) (N : News h₀ L s.heap news) (hm : (ax, ({ cls := .type "list", data := .seq its.toArray k } : Obj)) ∈ news) (hi : IntsAre its ns) (hsz : ns.length ≤ 1000)
    (elem : IntRule prog w A h₀ L m env elt x scope cl s news ns g)
    (fin : ∀ ys D h tk, IntsAre ys (ns.map g) → Fr h₀ L h (fun z => if z = y then some (.ref D) else m z) → News h₀ L h ((D, LCg.lst ys) :: news) → LCg.Off1 D news → Q .next { s with heap := h, toks := tk }) :
    LCg.CompSrc prog w A h₀ L m env elt x scope cl (fun s₂ => LCg.FinA h₀ L m s₂ y Q) (.ref ax) s :=
  src_ledA _ hh F N hm (by rw [List.size_toArray, hi.length, sizeLine_eq]; omega) (elem.el hi) fun ys D h tk hl hR F' N' o => fin ys D h tk (ints_list (by rw [hl, List.size_toArray, hi.length]) hR) F' N' o
/-- a test and an element over ints, told once -/
def TestRule (prog : Program) (w : World) (A : Around) (h₀ : Heap) (L : Addr) (m : Str → Option Value) (env : Env) (ct elt : PySem.Expr) (x : Str) (scope : Scope) (cl : List (Str × Addr)) (s : Shared) (news : Led) (ns : List Int) (q : Int → Bool) (g : Int → Int) : Prop :=
  ∀ n t I oI C oC D ys m₂ h tk (E' : Value → Shared → Prop), n ∈ ns → LCg.NsObj oC m₂ → m₂ x = some (.int n t) → Fr h₀ L h m → News h₀ L h ((I, oI) :: (C, oC) :: (D, LCg.lst ys) :: news) → LCg.Off3 I C D news → ((@Ne Nat I C) ∧ (@Ne Nat I D) ∧ (@Ne Nat C D)) →
      wpAny (model prog w) A (isTrue ct (compEnvC scope cl C env) (eval ct (compEnvC scope cl C env))) (fun ok s' => if ok = true then
        wpAny (model prog w) A (eval elt (compEnvC scope cl C env)) (ElEnd h₀ L m ((I, oI) :: (C, oC) :: (D, LCg.lst ys) :: news) { s with heap := h, toks := tk } (fun y => (∃ t, y = .int (g n) t) ∧ q n = true)) E' s'
        else ElEnd h₀ L m ((I, oI) :: (C, oC) :: (D, LCg.lst ys) :: news) { s with heap := h, toks := tk } (fun _ => q n = false) Value.none s') E' { s with heap := h, toks := tk }
theorem restT_all {ct elt : PySem.Expr} {x : Str} {scope : Scope} {cl : List (Str × Addr)} {S : Led → Prop} {P : Nat → Value → Prop} {Fin : List Value → Led → Prop} {news : Led} {ns : List Int} {q : Int → Bool} {g : Int → Int} (hS : S news) (hP : ∀ i v, P i v → ∃ n t, v = .int n t ∧ ns[i]? = some n)
    (turn : TestRule prog w A h₀ L m env ct elt x scope cl s news ns q g)
    (fin : ∀ ys, IntsAre ys ((ns.filter q).map g) → Fin ys news) :
    LCt.CompRestT prog w A h₀ L m env ct elt x scope cl s S P Fin ns.length 0 [] news := by
  have all : ∀ k i ys, i + k = ns.length → IntsAre ys (((ns.take i).filter q).map g) → LCt.CompRestT prog w A h₀ L m env ct elt x scope cl s S P Fin k i ys news := by
    intro k
    induction k with
    | zero =>
      intro i ys hi hR
      refine LCt.CompRestT.zero (fin ys ?_)
      rw [List.take_of_length_le (by omega)] at hR
      exact hR
    | succ k ih =>
      intro i ys hi hR
      refine LCt.CompRestT.succ ?_
      intro v I oI C oC D m₂ h tk E' hv hC hx F N off ne
      obtain ⟨n, t, rfl, hn⟩ := hP i v hv
      have ht : ns.take (i + 1) = ns.take i ++ [n] := by rw [List.take_add_one, hn]; rfl
      refine wpAny_mono (turn n t I oI C oC D ys m₂ h tk E' (List.mem_of_getElem? hn) hC hx F N off ne) (fun ok s₂ hok => ?_) fun _ _ e => e
      by_cases hb : ok = true
      · rw [if_pos hb] at hok ⊢
        refine wpAny_mono hok (fun y s₃ hy => ?_) fun _ _ e => e
        obtain ⟨h', tk', rfl, F', N', ⟨t', rfl⟩, hq⟩ := hy
        refine ⟨h', tk', news, rfl, F', N', off, hS, ih (i + 1) _ (by omega) ?_⟩
        rw [ht, List.filter_append, List.map_append]
        refine IntsAre.append hR ?_
        simp only [List.filter_cons, hq, if_true, List.filter_nil, List.map_cons, List.map_nil]
        exact .cons _ _ .nil
      · rw [if_neg hb] at hok ⊢
        obtain ⟨h', tk', rfl, F', N', hq⟩ := hok
        refine ⟨h', tk', news, rfl, F', N', off, hS, ih (i + 1) _ (by omega) ?_⟩
        rw [ht, List.filter_append, List.map_append]
        simp only [List.filter_cons, hq, List.filter_nil, List.map_nil, List.append_nil, Bool.false_eq_true, if_false]
        exact hR
  exact all ns.length 0 [] (by omega) (by simp; exact .nil)
theorem srcT_A {ct elt : PySem.Expr} {x y : Str} {scope : Scope} {cl : List (Str × Addr)} {Q : Flow → Shared → Prop} {ax : Addr} {its : List Value} {k : Nat} {news : Led} {ns : List Int} (q : Int → Bool) (g : Int → Int)
    (hh : A.handled = none) (F : Fr h₀ L s.heap m) (N : News h₀ L s.heap news) (hm : (ax, ({ cls := .type "list", data := .seq its.toArray k } : Obj)) ∈ news) (hi : IntsAre its ns) (hsz : ns.length ≤ 1000)
    (turn : TestRule prog w A h₀ L m env ct elt x scope cl s news ns q g)
    (fin : ∀ ys D h tk, IntsAre ys ((ns.filter q).map g) → Fr h₀ L h (fun z => if z = y then some (.ref D) else m z) → News h₀ L h ((D, LCg.lst ys) :: news) → LCg.Off1 D news → Q .next { s with heap := h, toks := tk }) :
    LCt.CompSrcT prog w A h₀ L m env ct elt x scope cl (fun s₂ => LCg.FinA h₀ L m s₂ y Q) (.ref ax) s := by
  refine LCt.CompSrcT.ledger hh F N hm (by rw [List.size_toArray, hi.length, sizeLine_eq]; omega) fun gg => ?_
  have hz : its.toArray.size = ns.length := by rw [List.size_toArray, hi.length]
  rw [hz]
  exact restT_all (s := { s with heap := gg }) (.inr ⟨_, hm, rfl, _, rfl⟩) (fun i v hv => hi.at i v (by simpa using hv)) (fun n t I oI C oC D ys m₂ h tk E' a b c d e f g => turn n t I oI C oC D ys m₂ h tk E' a b c d e f g) fun ys hys D h tk F' N' o => fin ys D h tk hys F' N' o
/-- a range by any step as a comprehension's source, the list bound to a name -/
def RngSrcA (prog : Program) (w : World) (A : Around) (h₀ : Heap) (L : Addr) (m : Str → Option Value) (env : Env) (elt : PySem.Expr) (x : Str) (scope : Scope) (cl : List (Str × Addr)) (y : Str) (Q : Flow → Shared → Prop) (xv : Value) (s₁ : Shared) : Prop :=
  ∃ r a b c t u v n news, xv = .ref r ∧ A.handled = none ∧ Fr h₀ L s₁.heap m ∧ News h₀ L s₁.heap news ∧ IsRange s₁.heap r a b c t u v ∧ Builtin.Range.small a b c = true ∧ Builtin.Range.rangeSize a b c = ((n : Nat) : Int) ∧ n ≤ sizeLine ∧
    ∀ s₂ : Shared, (∃ h, s₂ = { s₁ with heap := h }) → LCg.CompRest prog w A h₀ L m env elt x scope cl s₂ (fun _ => True) (fun i v => ∃ t, v = .int (a + (i : Int) * c) t) (LCg.FinA h₀ L m s₂ y Q) n 0 [] news
theorem rangeS_st {I : Addr} {a c : Int} {n : Nat} : ∀ i (h h' : Heap) (o : Obj) (nw : Led), IsRangeIter h I (a + (i : Nat) * c) ((n : Int) - (i : Nat)) c → h.get? I = some o → h'.get? I = some o → (∀ b o, h₀.get? b = some o → h'.get? b = some o) → News h₀ L h' nw → True → IsRangeIter h' I (a + (i : Nat) * c) ((n : Int) - (i : Nat)) c :=
  fun i h h' o nw st e e' _ _ _ => by
    have st' : h.get? I = some _ := st
    show h'.get? I = some _
    rw [e', ← e]; exact st'
theorem Assign_ListComp_RS {elt iter : PySem.Expr} {x y : Str} {px py : Pos} {scope : Scope} {cl : List (Str × Addr)} {pos spos : Pos} {Q : Flow → Shared → Prop} (_F₀ : Fr h₀ L s.heap m) (hLe : env.locals = L)
    (hsw : swapsWith (.ListComp elt [⟨.Name x px, iter, [], 0⟩] scope pos) (some (.Name y py)) spos.line env = pure true)
    (hclos : closureFor scope env = pure cl) (hcell : ∀ z ∈ scope.names, z.2 ≠ .cell) (hkind : scope.kind = .function)
    (hnames : ∀ z ∈ scope.names, z.2 = .local → scope.names.lookup z.1 = some .local) (hx : scope.names.lookup x = some .local)
    (hy : env.kindOf y = some .local) (hp : (env.scope.kind == .class || (env.scope.kind == .module && env.locals != env.globals)) = false)
    (h : wpAny (model prog w) A (eval iter env) (RngSrcA prog w A h₀ L m env elt x scope cl y Q) E s)
    (hs : ∀ x, foldedSetIterable iter env x = pure x := by intro _; rfl) :
    wpAny (model prog w) A (exec (.Assign [.Name y py] (.ListComp elt [⟨.Name x px, iter, [], 0⟩] scope pos) spos) env) Q E s := by
  subst hLe
  rw [exec_Assign_Name_used _ _ _ _ hsw]
  refine wpAny_bind (wpAny_standAt (wpAny_bind ?_))
  show wpAny _ A (do let _ ← comprehension (.ListComp elt [⟨.Name x px, iter, [], 0⟩] scope pos) scope env _ (newList []) false (eval iter env) (some (assign (.Name y py) env))) _ _ s
  refine wpAny_bind (wpAny_mono (wpAny_comprehension_free (use := some (assign (.Name y py) env)) (Q := fun _ s' => Q .next s') rfl hs hclos hkind hnames
    (wpAny_mono h (fun xv s₁ h₁ => ?_) fun _ _ e => e)) (fun _ s' hq => wpAny_pure (wpAny_pure hq)) fun _ _ e => e)
  obtain ⟨r, a, b, c, t, u, v, n, news, rfl, hh, F, N, hr, hsm, hn, hsz, R⟩ := h₁
  refine wpAny_pyIter_range hr hsm ?_
  refine LCg.block_U (Walks.range hh _ a c n) hsz (fun i h st => ⟨_, st⟩) rangeS_st hcell hkind hx (by show IsRangeIter _ _ _ _ _; rw [hn]; simpa using Heap.get?_push_size _ rfl) (fun b hb => ?_)
    (F.keeps fun _ _ e => Heap.get?_push_of_some _ e) (N.grown fun _ _ e => Heap.get?_push_of_some _ e) (Nat.ne_of_lt F.ns.lt) (next_is_new F) (fun p hp => Nat.ne_of_lt (Heap.lt_size (N p hp).1)) trivial (R _ ⟨_, rfl⟩) ?_
  · rw [List.mem_singleton.mp hb]
    show s₁.heap.objs.size < (s₁.heap.push _).objs.size
    rw [Heap.size_push]; exact Nat.lt_succ_self _
  · intro D C h' tk m' ys news' F' N' o1 hn hC₀ hD₀ hCL hDL hCD offC fin
    show wpAny _ A (assign (.Name y py) env (.ref D)) _ _ _
    refine wpAny_assign_Name (wpAny_storeName_local hy F'.ns (fun h₂ hn₂ hs₂ => ?_) hp)
    have hL₀ : h₀.get? env.locals = none := Heap.get?_none_of_le F'.above
    have F₂ : Fr h₀ env.locals h₂ (fun z => if z = y then some (.ref D) else m z) := ⟨hn₂, fun b o e => hs₂.extBut b o (fun q => by rw [q, hL₀] at e; cases e) (F'.keep b o e), F'.above⟩
    refine ⟨m', hn.sameBut hs₂ hCL, fun h'' hs'' => fin D h'' _ (F₂.change hs'' hCL hC₀) (fun p hp => ?_) o1⟩
    have z : h₂.get? p.1 = some p.2 := hs₂.extBut _ _ (N' p hp).2.1 (N' p hp).1
    refine ⟨hs''.extBut _ _ ?_ z, (N' p hp).2⟩
    rcases List.mem_cons.mp hp with rfl | hp
    · exact Ne.symm hCD
    · exact offC p hp
theorem RngSrcA.intro {elt : PySem.Expr} {x y : Str} {scope : Scope} {cl : List (Str × Addr)} {Q : Flow → Shared → Prop} {r : Addr} {a b c : Int} {t u v : Tok} {n : Nat} {news : Led} (f : Nat → Int)
    (hh : A.handled = none) (F : Fr h₀ L s.heap m) (N : News h₀ L s.heap news) (hr : IsRange s.heap r a b c t u v) (hsm : Builtin.Range.small a b c = true) (hn : Builtin.Range.rangeSize a b c = ((n : Nat) : Int)) (hsz : n ≤ 1000)
    (elem : ElRule prog w A h₀ L m env elt x scope cl s news n (fun i v => ∃ t, v = .int (a + (i : Int) * c) t) (fun i v => ∃ t, v = .int (f i) t))
    (fin : ∀ ys D h tk, IntsAre ys ((List.range n).map f) → Fr h₀ L h (fun z => if z = y then some (.ref D) else m z) → News h₀ L h ((D, LCg.lst ys) :: news) → LCg.Off1 D news → Q .next { s with heap := h, toks := tk }) :
    RngSrcA prog w A h₀ L m env elt x scope cl y Q (.ref r) s := by
  refine ⟨r, a, b, c, t, u, v, n, news, rfl, hh, F, N, hr, hsm, hn, by rw [sizeLine_eq]; omega, ?_⟩
  rintro s₂ ⟨g, rfl⟩
  exact rest_fin _ trivial elem fun ys hl hR D h tk F' N' o => fin ys D h tk (ints_range hl hR) F' N' o
end
end Mine
end
section
open PySem PySem.W PyProof.Rows PySem.Calls PySem.Spec
set_option maxRecDepth 100000
set_option maxHeartbeats 8000000
namespace Mine
theorem off1_of' {D : Addr} : ∀ {l : Led}, (∀ p ∈ l, p.1 ≠ D) → LCg.Off1 D l
  | [], _ => trivial
  | _ :: _, h => ⟨h _ List.mem_cons_self, off1_of' fun p hp => h p (List.mem_cons_of_mem _ hp)⟩
section
variable {prog : Program} {w : World} {A : Around} {E : Value → Shared → Prop} {s : Shared} {h₀ : Heap} {L : Addr} {m : Str → Option Value} {env : Env}
theorem fr_but2 {h h' : Heap} {wr : List Addr} (F : Fr h₀ L h m) (hk : ∀ b o, b ∉ wr → h.get? b = some o → h'.get? b = some o) (hL : L ∉ wr) (hI : ∀ b ∈ wr, h₀.get? b = none) : Fr h₀ L h' m :=
  ⟨F.ns.at' fun o e => hk L o hL e, fun b o e => hk b o (fun hm => by rw [hI b hm] at e; cases e) (F.keep b o e), F.above⟩
theorem news_but2 {h h' : Heap} {wr : List Addr} {news : Led} (N : News h₀ L h news) (hk : ∀ b o, b ∉ wr → h.get? b = some o → h'.get? b = some o) (off : ∀ p ∈ news, p.1 ∉ wr) : News h₀ L h' news :=
  fun p hp => ⟨hk _ _ (off p hp) (N p hp).1, (N p hp).2⟩
/-- one rule for the element of a comprehension over numbered ints -/
def EnRule (prog : Program) (w : World) (A : Around) (h₀ : Heap) (L : Addr) (m : Str → Option Value) (env : Env) (elt : PySem.Expr) (x x₂ : Str) (scope : Scope) (cl : List (Str × Addr)) (s : Shared) (news : Led) (ns : List Int) (g : Nat → Int → Int) : Prop :=
  ∀ (i : Nat) n t t₂ I oI J oJ C oC D ys m₂ h tk (E' : Value → Shared → Prop), ns[i]? = some n → LCg.NsObj oC m₂ → m₂ x = some (.int (i : Int) t) → m₂ x₂ = some (.int n t₂) → Fr h₀ L h m → News h₀ L h ((I, oI) :: (J, oJ) :: (C, oC) :: (D, LCg.lst ys) :: news) →
      wpAny (model prog w) A (eval elt (compEnvC scope cl C env)) (ElEnd h₀ L m ((I, oI) :: (J, oJ) :: (C, oC) :: (D, LCg.lst ys) :: news) { s with heap := h, toks := tk } (fun y => ∃ t, y = .int (g i n) t)) E' { s with heap := h, toks := tk }
/-- a comprehension over enumerate(list of ints) -/
def EnSrc (prog : Program) (w : World) (A : Around) (h₀ : Heap) (L : Addr) (m : Str → Option Value) (env : Env) (elt : PySem.Expr) (x x₂ : Str) (scope : Scope) (cl : List (Str × Addr)) (Q : Value → Shared → Prop) (xv : Value) (s₁ : Shared) : Prop :=
  ∃ e it l vs k ns g news, xv = .ref e ∧ A.handled = none ∧ IsEnum s₁.heap e it 0 .none ∧ s₁.heap.IsListIter it l 0 ∧ (l, ({ cls := .type "list", data := .seq (List.toArray vs) k } : Obj)) ∈ news ∧ IntsAre vs ns ∧ ns.length ≤ 1000 ∧ e ≠ it ∧ h₀.get? e = none ∧ h₀.get? it = none ∧ L ≠ e ∧ L ≠ it ∧ (∀ p ∈ news, p.1 ≠ e ∧ p.1 ≠ it) ∧
    Fr h₀ L s₁.heap m ∧ News h₀ L s₁.heap news ∧ EnRule prog w A h₀ L m env elt x x₂ scope cl s₁ news ns g ∧
    (∀ ys D h tk, IntsAre ys (ns.mapIdx g) → Fr h₀ L h m → News h₀ L h ((D, LCg.lst ys) :: news) → LCg.Off1 D news → Q (.ref D) { s₁ with heap := h, toks := tk })
theorem mapIdx_snoc (g : Nat → Int → Int) (ns : List Int) (i : Nat) (n : Int) (h : ns[i]? = some n) : (ns.take (i + 1)).mapIdx g = (ns.take i).mapIdx g ++ [g i n] := by
  have hl : (ns.take i).length = i := by
    rw [List.length_take]
    have : i < ns.length := by
      rcases Nat.lt_or_ge i ns.length with h' | h'
      · exact h'
      · rw [List.getElem?_eq_none h'] at h; cases h
    omega
  have e : ns.take (i + 1) = ns.take i ++ [n] := by rw [List.take_add_one, h]; rfl
  rw [e, List.mapIdx_append, hl]
  simp
theorem ListComp_E {elt iter : PySem.Expr} {x x₂ : Str} {px px₂ tp : Pos} {kk : Nat} {scope : Scope} {cl : List (Str × Addr)} {pos : Pos} {Q : Value → Shared → Prop} (_F₀ : Fr h₀ L s.heap m)
    (hclos : closureFor scope env = pure cl) (hcell : ∀ y ∈ scope.names, y.2 ≠ .cell) (hkind : scope.kind = .function)
    (hnames : ∀ y ∈ scope.names, y.2 = .local → scope.names.lookup y.1 = some .local) (hx : scope.names.lookup x = some .local) (hx₂ : scope.names.lookup x₂ = some .local) (hxx : x ≠ x₂)
    (h : wpAny (model prog w) A (eval iter env) (EnSrc prog w A h₀ L m env elt x x₂ scope cl Q) E s)
    (hs : ∀ x, foldedSetIterable iter env x = pure x := by intro _; rfl) :
    wpAny (model prog w) A (eval (.ListComp elt [⟨.Tuple [.Name x px, .Name x₂ px₂] kk tp, iter, [], 0⟩] scope pos) env) Q E s := by
  rw [eval_ListComp]
  refine wpAny_comprehension_free (use := none) rfl hs hclos hkind hnames (wpAny_mono h (fun xv s₂ h₁ => ?_) fun _ _ e => e)
  obtain ⟨I, J, l, vs, kl, ns, g, news, rfl, hh, hE, hJ, hml, hi, hsz, hIJ, hI₀, hJ₀, hLI, hLJ, offIJ, F, N, elem, fin⟩ := h₁
  have hlI : l ≠ I := (offIJ _ hml).1
  have hlJ : l ≠ J := (offIJ _ hml).2
  have W := WalksT.enumerate (prog := prog) (w := w) (A := A) hh I J l hIJ hlI hlJ vs.toArray
  have hlist : ∀ {h : Heap}, News h₀ L h news → h.IsList l vs.toArray := fun N => ⟨_, (N _ hml).1, rfl, _, rfl⟩
  have hzn : vs.toArray.size = ns.length := by rw [List.size_toArray, hi.length]
  refine W.self 0 _ _ _ ⟨⟨_, hE⟩, hJ, hlist N⟩ ?_
  refine wpAny_newObj_type (wpAny_newFunctionEnv hcell (by intro y hy; simp at hy) (fun h₁ hns₁ hsb₁ => ?_) hkind)
  dsimp only at hns₁ hsb₁ ⊢
  generalize hH2 : s₂.heap.push { cls := .type "list", dict := none, data := .seq ([] : List Value).toArray } = H2 at hns₁ hsb₁ ⊢
  have hC : H2.objs.size = s₂.heap.objs.size + 1 := by rw [← hH2, Heap.size_push]
  have hDC : s₂.heap.objs.size ≠ H2.objs.size := by rw [hC]; exact Nat.ne_of_lt (Nat.lt_succ_self _)
  have below : ∀ b, b < s₂.heap.objs.size → b ≠ H2.objs.size ∧ b ≠ s₂.heap.objs.size := fun b hb => ⟨by rw [hC]; exact Nat.ne_of_lt (Nat.lt_succ_of_lt hb), Nat.ne_of_lt hb⟩
  have hIlt : I < s₂.heap.objs.size := Heap.lt_size hE
  have hJlt : J < s₂.heap.objs.size := by obtain ⟨_, e, _⟩ := hJ; exact Heap.lt_size e
  have hllt : l < s₂.heap.objs.size := Heap.lt_size (N _ hml).1
  have old : ∀ b o, s₂.heap.get? b = some o → h₁.get? b = some o := fun b o e => hsb₁.extBut b o (below b (Heap.lt_size e)).1 (Heap.get?_push_of_some _ (hH2 ▸ Heap.get?_push_of_some _ e))
  have hacc : h₁.get? s₂.heap.objs.size = some (LCg.lst []) := hsb₁.extBut _ _ hDC (Heap.get?_push_of_some _ (hH2 ▸ Heap.get?_push_size _ rfl))
  have hst₁ := W.frame 0 s₂.heap h₁ ⟨⟨_, hE⟩, hJ, hlist N⟩ fun b _ o e => old b o e
  have fresh : ∀ a, s₂.heap.objs.size ≤ a → s₂.heap.get? a = none := fun a ha => by
    cases e : s₂.heap.get? a with
    | none => rfl
    | some o' => exact absurd (Heap.lt_size e) (Nat.not_lt.mpr ha)
  have fresh₀ : ∀ a, s₂.heap.objs.size ≤ a → h₀.get? a = none := fun a ha => by
    cases e : h₀.get? a with
    | none => rfl
    | some o' => have := F.keep a o' e; rw [fresh a ha] at this; cases this
  have hD₀ : h₀.get? s₂.heap.objs.size = none := fresh₀ _ (Nat.le_refl _)
  have hC₀ : h₀.get? H2.objs.size = none := fresh₀ _ (by rw [hC]; exact Nat.le_succ _)
  have hLlt : L < s₂.heap.objs.size := F.ns.lt
  have hDL : s₂.heap.objs.size ≠ L := Ne.symm (below L hLlt).2
  have hCL : H2.objs.size ≠ L := Ne.symm (below L hLlt).1
  have hCI : H2.objs.size ∉ [I, J] := by
    intro hm
    rcases List.mem_cons.mp hm with e | hm
    · exact (below I hIlt).1 e.symm
    · exact (below J hJlt).1 (List.mem_singleton.mp hm).symm
  have hDI : s₂.heap.objs.size ∉ [I, J] := by
    intro hm
    rcases List.mem_cons.mp hm with e | hm
    · exact (below I hIlt).2 e.symm
    · exact (below J hJlt).2 (List.mem_singleton.mp hm).symm
  have hLw : L ∉ [I, J] := by
    intro hm
    rcases List.mem_cons.mp hm with e | hm
    · exact hLI e
    · exact hLJ (List.mem_singleton.mp hm)
  have hw₀ : ∀ b ∈ [I, J], h₀.get? b = none := by
    intro b hb
    rcases List.mem_cons.mp hb with rfl | hb
    · exact hI₀
    · rw [List.mem_singleton.mp hb]; exact hJ₀
  have offC : ∀ p ∈ news, p.1 ≠ H2.objs.size := fun p hp => (below _ (Heap.lt_size (N p hp).1)).1
  have offD : ∀ p ∈ news, p.1 ≠ s₂.heap.objs.size := fun p hp => (below _ (Heap.lt_size (N p hp).1)).2
  have offW : ∀ p ∈ news, p.1 ∉ [I, J] := by
    intro p hp hm
    rcases List.mem_cons.mp hm with e | hm
    · exact (offIJ p hp).1 e
    · exact (offIJ p hp).2 (List.mem_singleton.mp hm)
  have offDW : ∀ (ys : List Value), ∀ p ∈ (s₂.heap.objs.size, LCg.lst ys) :: news, p.1 ∉ [I, J] := by
    intro ys p hp
    rcases List.mem_cons.mp hp with rfl | hp
    · exact hDI
    · exact offW p hp
  have hCfp : H2.objs.size ∉ [I, J, l] := by
    intro hm
    rcases List.mem_cons.mp hm with e | hm
    · exact (below I hIlt).1 e.symm
    · rcases List.mem_cons.mp hm with e | hm
      · exact (below J hJlt).1 e.symm
      · exact (below l hllt).1 (List.mem_singleton.mp hm).symm
  have hDfp : s₂.heap.objs.size ∉ [I, J, l] := by
    intro hm
    rcases List.mem_cons.mp hm with e | hm
    · exact (below I hIlt).2 e.symm
    · rcases List.mem_cons.mp hm with e | hm
      · exact (below J hJlt).2 e.symm
      · exact (below l hllt).2 (List.mem_singleton.mp hm).symm
  have loop : ∀ s₃ : Shared, s₃ = { s₂ with heap := h₁, toks := s₂.toks + ([] : List (Str × Value)).length } →
      codeAny (model prog w) A (.compLoop (.ListComp elt [⟨.Tuple [.Name x px, .Name x₂ px₂] kk tp, iter, [], 0⟩] scope pos) 0 (.ref I) (.ref s₂.heap.objs.size) (compEnvC scope cl H2.objs.size env))
        (compPost (model prog w) A E none Q (.ref s₂.heap.objs.size) H2.objs.size) s₃ := by
    rintro s₃ rfl
    refine LCp.codeAny_compLoop_pair
      (fun k s' => ∃ h' tk i ys m', s' = { s₂ with heap := h', toks := tk } ∧ i ≤ ns.length ∧ k = ns.length + 1 - i ∧ ys.length = i ∧ ((∃ old, IsEnum h' I J i old) ∧ h'.IsListIter J l i ∧ h'.IsList l vs.toArray) ∧ Fr h₀ L h' m ∧ h'.Ns H2.objs.size m' ∧ News h₀ L h' ((s₂.heap.objs.size, LCg.lst ys) :: news) ∧
        IntsAre ys ((ns.take i).mapIdx g)) ?_ (ns.length + 1)
      ⟨h₁, _, 0, [], _, rfl, Nat.zero_le _, rfl, rfl, hst₁, F.keeps old, hns₁, fun p hp => ?_, by simp; exact .nil⟩
    · rintro k s' ⟨h', tk, i, ys, m', rfl, hin, rfl, hyl, hst', F', hn', N', hys⟩
      by_cases hlt : i < ns.length
      · refine W.item i _ _ _ (by rw [hzn]; exact hlt) hst' fun T vals h₂ tk₂ hPt hTs hTup hMid hk₂ => ?_
        obtain ⟨t, v, hv, rfl⟩ := hPt
        obtain ⟨n, t₂, rfl, hn⟩ := hi.at i v (by simpa using hv)
        have hT_C : T ≠ H2.objs.size := fun e => by
          have := hn'.lt
          rw [← e] at this
          exact absurd this (Nat.not_lt.mpr hTs)
        refine W.go _ _ _ i T _ _ _ hMid fun h₂' hst₂ hk₂' => ?_
        have hTw : T ∉ [I, J] := W.apart i T h₂ hMid
        have ht : IsTup h₂' T #[.int i t, .int n t₂] := by
          obtain ⟨ot, he, r⟩ := hTup
          exact ⟨ot, hk₂' _ _ hTw he, r⟩
        have F₂ : Fr h₀ L h₂' m := fr_but2 (fr_but2 F' hk₂ hLw hw₀) hk₂' hLw hw₀
        have N₂ : News h₀ L h₂' ((s₂.heap.objs.size, LCg.lst ys) :: news) := news_but2 (news_but2 N' hk₂ (offDW ys)) hk₂' (offDW ys)
        have hn₂ : h₂'.Ns H2.objs.size m' := (hn'.at' fun o e => hk₂ _ o hCI e).at' fun o e => hk₂' _ o hCI e
        refine assign_Tuple_tuple hh ht rfl rfl fun h₅ he => ?_
        have he' : ∀ b o, h₂'.get? b = some o → h₅.get? b = some o := fun b o e => he b o (Nat.ne_of_lt (Heap.lt_size e)) e
        refine assignInOrder_cons (wpAny_assign_Name (wpAny_storeName_local (lookup_relabel_local hx) (hn₂.at' fun o e => he' _ o e) (fun h₆ hn₆ hs₆ => ?_) (by simp [compEnvC, relabel, hkind])))
        refine assignInOrder_cons (wpAny_assign_Name (wpAny_storeName_local (lookup_relabel_local hx₂) hn₆ (fun h₃ hn₃ hs₃ => ?_) (by simp [compEnvC, relabel, hkind])))
        refine assignInOrder_nil ?_
        have old3 : ∀ b o, b ≠ H2.objs.size → h₂'.get? b = some o → h₃.get? b = some o := fun b o hb e => hs₃.extBut b o hb (hs₆.extBut b o hb (he' b o e))
        have hst₃ := W.frame (i + 1) _ _ hst₂ fun b hb o e => old3 b o (fun q => hCfp (by rw [← q]; exact hb)) e
        obtain ⟨⟨oldI, eI⟩, ⟨oJ, eJ, rJ⟩, hl₃⟩ := hst₃
        obtain ⟨oC, heC, hoC⟩ := LCg.ns_obj hn₃
        have F₃ : Fr h₀ L h₃ m := ((F₂.keeps he').change hs₆ hCL hC₀).change hs₃ hCL hC₀
        have N₃ : News h₀ L h₃ ((I, _) :: (J, oJ) :: (H2.objs.size, oC) :: (s₂.heap.objs.size, LCg.lst ys) :: news) := fun p hp => by
          rcases List.mem_cons.mp hp with rfl | hp
          · exact ⟨eI, Ne.symm hLI, hI₀⟩
          · rcases List.mem_cons.mp hp with rfl | hp
            · exact ⟨eJ, Ne.symm hLJ, hJ₀⟩
            · rcases List.mem_cons.mp hp with rfl | hp
              · exact ⟨heC, hCL, hC₀⟩
              · have z := N₂ p hp
                refine ⟨old3 _ _ ?_ z.1, z.2⟩
                rcases List.mem_cons.mp hp with rfl | hp
                · exact hDC
                · exact offC p hp
        refine wpAny_mono (elem i n t t₂ I _ J oJ H2.objs.size oC s₂.heap.objs.size ys _ h₃ _ _ hn hoC (by simp [hxx]) (by simp) F₃ N₃) (fun y s₄ h₄ => ?_) fun _ _ e => e
        obtain ⟨h₄, tk₄, rfl, F₄, N₄, ty, rfl⟩ := h₄
        have zI := (N₄ (I, _) List.mem_cons_self).1
        have zJ := (N₄ (J, oJ) (List.mem_cons_of_mem _ List.mem_cons_self)).1
        have zC := (N₄ (H2.objs.size, oC) (List.mem_cons_of_mem _ (List.mem_cons_of_mem _ List.mem_cons_self))).1
        have zD := (N₄ (s₂.heap.objs.size, LCg.lst ys) (List.mem_cons_of_mem _ (List.mem_cons_of_mem _ (List.mem_cons_of_mem _ List.mem_cons_self)))).1
        have N₄' : News h₀ L h₄ news := fun p hp => N₄ p (List.mem_cons_of_mem _ (List.mem_cons_of_mem _ (List.mem_cons_of_mem _ (List.mem_cons_of_mem _ hp))))
        refine append_at (hsz := by show ys.toArray.size ≤ sizeLine; rw [List.size_toArray, hyl, sizeLine_eq]; omega) zD fun h₅ hs₅ hD₅ => ?_
        refine ⟨ns.length + 1 - (i + 1), by omega, h₅, tk₄, i + 1, ys ++ [.int (g i n) ty], _, rfl, hlt, rfl, by rw [List.length_append, List.length_singleton, hyl],
          W.frame (i + 1) h₄ h₅ ⟨⟨oldI, zI⟩, ⟨oJ, zJ, rJ⟩, hlist N₄'⟩ fun b hb o e => hs₅.extBut b o (fun q => hDfp (q ▸ hb)) e, F₄.change hs₅ hDL hD₀, (hoC.ns zC).sameBut hs₅ (Ne.symm hDC), fun p hp => ?_, ?_⟩
        · rcases List.mem_cons.mp hp with rfl | hp
          · exact ⟨hD₅.trans (congrArg some (LCg.lst_snoc ys _)), hDL, hD₀⟩
          · exact ⟨hs₅.extBut _ _ (offD p hp) (N₄' p hp).1, (N₄' p hp).2⟩
        · rw [mapIdx_snoc g ns i n hn]
          exact IntsAre.append hys (.cons _ _ .nil)
      · obtain rfl : i = ns.length := Nat.le_antisymm hin (Nat.not_lt.mp hlt)
        refine W.done _ _ _ (by rw [hzn]; exact hst') fun h₂ tk₂ hk₂ => ?_
        rw [List.take_length] at hys
        have F₂ := fr_but2 F' hk₂ hLw hw₀
        have N₂ := news_but2 N' hk₂ (offDW ys)
        have hn₂ : h₂.Ns H2.objs.size m' := hn'.at' fun o e => hk₂ _ o hCI e
        refine ⟨m', hn₂, fun h'' hs'' => fin ys _ h'' tk₂ hys (F₂.change hs'' hCL hC₀) (fun p hp => ?_) ?_⟩
        · refine ⟨hs''.extBut _ _ ?_ (N₂ p hp).1, (N₂ p hp).2⟩
          rcases List.mem_cons.mp hp with rfl | hp
          · exact hDC
          · exact offC p hp
        · exact off1_of' fun p hp => offD p hp
    · rcases List.mem_cons.mp hp with rfl | hp
      · exact ⟨hacc, hDL, hD₀⟩
      · exact ⟨old _ _ (N p hp).1, (N p hp).2⟩
  exact codeAny_compStart_list (loop _ rfl) (W.self 0 _ _ _ hst₁ (loop _ rfl))
end
end Mine
end
section
open PySem PySem.W PyProof.Rows PySem.Calls PySem.Spec
set_option maxRecDepth 100000
set_option maxHeartbeats 8000000
namespace Mine
section
variable {prog : Program} {w : World} {A : Around} {E : Value → Shared → Prop} {s : Shared} {h₀ : Heap} {L : Addr} {m : Str → Option Value} {env : Env}
/-- one rule for the element of a comprehension over a range whose name is a cell -/
def CellRule (prog : Program) (w : World) (A : Around) (h₀ : Heap) (L : Addr) (m : Str → Option Value) (env : Env) (elt : PySem.Expr) (x : Str) (scope : Scope) (cl : List (Str × Addr)) (s : Shared) (news : Led) (n : Nat) (a : Int) (g : Nat → Int) : Prop :=
  ∀ (i : Nat) t I oI C oC K oK D ys h tk (E' : Value → Shared → Prop), i < n → oK.data = .cell (some (.int (a + (i : Int)) t)) → Fr h₀ L h m → News h₀ L h ((I, oI) :: (C, oC) :: (K, oK) :: (D, LCg.lst ys) :: news) → (∀ p ∈ news, p.1 ≠ I ∧ p.1 ≠ C ∧ p.1 ≠ K ∧ p.1 ≠ D) → ((@Ne Nat I C) ∧ (@Ne Nat I K) ∧ (@Ne Nat I D) ∧ (@Ne Nat C K) ∧ (@Ne Nat C D) ∧ (@Ne Nat K D)) →
      wpAny (model prog w) A (eval elt (compEnvC scope ((x, K) :: cl) C env)) (ElEnd h₀ L m ((I, oI) :: (C, oC) :: (K, oK) :: (D, LCg.lst ys) :: news) { s with heap := h, toks := tk } (fun y => ∃ t, y = .int (g i) t)) E' { s with heap := h, toks := tk }
def CellSrc (prog : Program) (w : World) (A : Around) (h₀ : Heap) (L : Addr) (m : Str → Option Value) (env : Env) (elt : PySem.Expr) (x : Str) (scope : Scope) (cl : List (Str × Addr)) (Q : Value → Shared → Prop) (xv : Value) (s₁ : Shared) : Prop :=
  ∃ r a b t u v n g news, xv = .ref r ∧ A.handled = none ∧ Fr h₀ L s₁.heap m ∧ News h₀ L s₁.heap news ∧ IsRange s₁.heap r a b 1 t u v ∧ Builtin.Range.small a b 1 = true ∧ Builtin.Range.rangeSize a b 1 = ((n : Nat) : Int) ∧ n ≤ 1000 ∧
    CellRule prog w A h₀ L m env elt x scope cl s₁ news n a g ∧
    (∀ ys D h tk, IntsAre ys ((List.range n).map g) → Fr h₀ L h m → News h₀ L h ((D, LCg.lst ys) :: news) → LCg.Off1 D news → Q (.ref D) { s₁ with heap := h, toks := tk })
theorem isCell_obj {h : Heap} {c : Addr} {v : Option Value} (x : h.IsCell c v) : ∃ o, h.get? c = some o ∧ o.data = .cell v := x
theorem ListComp_C {elt iter : PySem.Expr} {x : Str} {px : Pos} {scope : Scope} {cl : List (Str × Addr)} {pos : Pos} {Q : Value → Shared → Prop} (_F₀ : Fr h₀ L s.heap m)
    (hclos : closureFor scope env = pure cl) (hkind : scope.kind = .function)
    (hnew : newFunctionEnv scope env.globals cl [] env.qual none .none (some env) = (alloc { cls := .type "dict", data := .dict #[] } >>= fun l => alloc { cls := .type "cell", data := .cell none } >>= fun c => pure (newEnv scope l env.globals ((x, c) :: cl) env.qual none .none (some env) builtinsNs)))
    (hnames : ∀ y ∈ scope.names, y.2 = .local → scope.names.lookup y.1 = some .local) (hx : ∀ cl' C, (compEnvC scope cl' C env).kindOf x = some .cell)
    (h : wpAny (model prog w) A (eval iter env) (CellSrc prog w A h₀ L m env elt x scope cl Q) E s)
    (hs : ∀ x, foldedSetIterable iter env x = pure x := by intro _; rfl) :
    wpAny (model prog w) A (eval (.ListComp elt [⟨.Name x px, iter, [], 0⟩] scope pos) env) Q E s := by
  rw [eval_ListComp]
  refine wpAny_comprehension_free (use := none) rfl hs hclos hkind hnames (wpAny_mono h (fun xv s₁ h₁ => ?_) fun _ _ e => e)
  obtain ⟨r, a, b, t₀, u₀, v₀, n, g, news, rfl, hh, F₁, N₁, hr, hsm, hn, hsz, elem, fin⟩ := h₁
  refine wpAny_pyIter_range hr hsm ?_
  generalize hs₂ : ({ s₁ with heap := s₁.heap.push { cls := .type "range_iterator", data := .fields #[rawInt a, rawInt (Builtin.Range.rangeSize a b 1), rawInt 1] } } : Shared) = s₂
  have hz₂ : s₂.heap.objs.size = s₁.heap.objs.size + 1 := by rw [← hs₂]; exact Heap.size_push ..
  have up₂ : ∀ b o, s₁.heap.get? b = some o → s₂.heap.get? b = some o := fun b o e => by rw [← hs₂]; exact Heap.get?_push_of_some _ e
  have hIt : IsRangeIter s₂.heap s₁.heap.objs.size (a + ((0 : Nat) : Int) * 1) ((n : Int) - ((0 : Nat) : Int)) 1 := by
    show s₂.heap.get? _ = _
    rw [← hs₂]
    rw [hn]
    simpa using Heap.get?_push_size _ rfl
  have s₂eq : ∀ (hp : Heap) (tk : Nat), ({ s₂ with heap := hp, toks := tk } : Shared) = { s₁ with heap := hp, toks := tk } := fun hp tk => by rw [← hs₂]
  have F : Fr h₀ L s₂.heap m := F₁.keeps up₂
  have N : News h₀ L s₂.heap news := N₁.grown up₂
  have W := LCg.range_walks (prog := prog) (w := w) (A := A) (I := s₁.heap.objs.size) hh a n
  generalize hIdef : s₁.heap.objs.size = I at *
  have hIlt : I < s₂.heap.objs.size := by omega
  have hLI : L ≠ I := by rw [← hIdef]; exact Nat.ne_of_lt F₁.ns.lt
  have hI₀ : h₀.get? I = none := by rw [← hIdef]; exact next_is_new F₁
  have offI : ∀ p ∈ news, p.1 ≠ I := fun p hp => by rw [← hIdef]; exact Nat.ne_of_lt (Heap.lt_size (N₁ p hp).1)
  refine wpAny_newObj_type ?_
  rw [hnew]
  refine wpAny_bind (wpAny_alloc ?_)
  refine wpAny_bind (wpAny_alloc ?_)
  refine wpAny_pure ?_
  generalize hD : s₂.heap.objs.size = D at *
  generalize hH2 : s₂.heap.push { cls := .type "list", dict := none, data := .seq ([] : List Value).toArray } = H2
  have hC : H2.objs.size = D + 1 := by rw [← hH2, Heap.size_push, hD]
  generalize hH3 : H2.push { cls := .type "dict", data := .dict #[] } = H3
  have hK : H3.objs.size = D + 1 + 1 := by rw [← hH3, Heap.size_push, hC]
  generalize hH4 : H3.push { cls := .type "cell", data := .cell none } = H4
  rw [hC, hK]
  have old : ∀ b o, s₂.heap.get? b = some o → H4.get? b = some o := fun b o e => by
    rw [← hH4, ← hH3, ← hH2]; exact Heap.get?_push_of_some _ (Heap.get?_push_of_some _ (Heap.get?_push_of_some _ e))
  have hacc : H4.get? D = some (LCg.lst []) := by
    rw [← hH4, ← hH3, ← hH2]
    refine Heap.get?_push_of_some _ (Heap.get?_push_of_some _ ?_)
    rw [← hD]; exact Heap.get?_push_size _ rfl
  have hdict : H4.get? (D + 1) = some { cls := .type "dict", data := .dict #[] } := by
    rw [← hH4]
    refine Heap.get?_push_of_some _ ?_
    rw [← hH3, ← hC]; exact Heap.get?_push_size _ rfl
  have hcell : H4.IsCell (D + 1 + 1) none := by
    refine ⟨{ cls := .type "cell", data := .cell none }, ?_, rfl⟩
    rw [← hH4, ← hK]; exact Heap.get?_push_size _ rfl
  have hnsC : H4.Ns (D + 1) (fun _ => none) := ⟨_, #[], 0, hdict, rfl, by simp [StrKeys], fun _ => by rfl⟩
  have fresh₀ : ∀ a : Nat, @LE.le Nat _ D a → h₀.get? a = none := fun a ha => by
    cases e : h₀.get? a with
    | none => rfl
    | some o' => exact absurd (ltN (Heap.lt_size (F.keep a o' e))) (by rw [hD]; exact Nat.not_lt.mpr ha)
  have hLlt : @LT.lt Nat _ L D := by rw [← hD]; exact F.ns.lt
  have offlt : ∀ p ∈ news, @LT.lt Nat _ p.1 D := fun p hp => by rw [← hD]; exact Heap.lt_size (N p hp).1
  have offA : ∀ p ∈ news, p.1 ≠ I ∧ p.1 ≠ D + 1 ∧ p.1 ≠ D + 1 + 1 ∧ p.1 ≠ D := fun p hp => by
    have h1 := offlt p hp
    have h2 := offI p hp
    exact ⟨h2, Nat.ne_of_lt (by omega), Nat.ne_of_lt (by omega), Nat.ne_of_lt h1⟩
  have hD₀ := fresh₀ D (Nat.le_refl _)
  have hC₀ := fresh₀ (D + 1) (by omega)
  have hK₀ := fresh₀ (D + 1 + 1) (by omega)
  have hkk : (compEnvC scope ((x, D + 1 + 1) :: cl) (D + 1) env).scope.kind = .function := hkind
  have loop : ∀ s₃ : Shared, (∃ tk, s₃ = { s₂ with heap := H4, toks := tk }) →
      codeAny (model prog w) A (.compLoop (.ListComp elt [⟨.Name x px, iter, [], 0⟩] scope pos) 0 (.ref I) (.ref D) (compEnvC scope ((x, D + 1 + 1) :: cl) (D + 1) env))
        (compPost (model prog w) A E none Q (.ref D) (D + 1)) s₃ := by
    rintro s₃ ⟨tk₃, rfl⟩
    refine codeAny_compLoop_tests
      (fun k s' => ∃ h' tk i ys v, s' = { s₂ with heap := h', toks := tk } ∧ i ≤ n ∧ k = n + 1 - i ∧ ys.length = i ∧ IsRangeIter h' I (a + (i : Nat) * 1) ((n : Int) - (i : Nat)) 1 ∧ Fr h₀ L h' m ∧ h'.Ns (D + 1) (fun _ => none) ∧ h'.IsCell (D + 1 + 1) v ∧ News h₀ L h' ((D, LCg.lst ys) :: news) ∧
        IntsAre ys ((List.range i).map g)) ?_ (n + 1)
      ⟨H4, _, 0, [], none, rfl, Nat.zero_le _, rfl, rfl, W.frame 0 _ _ hIt fun b _ o e => old b o e, F.keeps old, hnsC, hcell, fun p hp => ?_, by simp; exact .nil⟩
    · rintro k s' ⟨h', tk, i, ys, v, rfl, hin, rfl, hyl, hst', F', hn', hc', N', hys⟩
      by_cases hlt : i < n
      · refine W.item i _ _ _ hlt hst' fun v' h₂ tk₂ hPv hst₂ hk₂ => ?_
        obtain ⟨t, rfl⟩ := hPv
        have hkI : ∀ b o, b ≠ I → h'.get? b = some o → h₂.get? b = some o := fun b o hb e => hk₂ b o (by simpa using hb) e
        obtain ⟨oK', eK', dK'⟩ := hc'
        refine wpAny_assign_Name (wpAny_storeName_cell hkk (hx _ _) (by simp [compEnvC]) ⟨oK', hkI _ _ (by omega) eK', dK'⟩ (fun h₃ hc₃ hs₃ => ?_))
        refine wpAny_tests_nil ?_
        simp only [if_true]
        have h23 : ∀ b o, b ≠ D + 1 + 1 → h₂.get? b = some o → h₃.get? b = some o := fun b o hb e => (hs₃.2 b hb).trans e
        have hst₃ := W.frame (i + 1) _ _ hst₂ fun b hb o e => h23 b o (by rw [List.mem_singleton.mp hb]; omega) e
        obtain ⟨oK, eK, dK⟩ := hc₃
        obtain ⟨oC, heC, hoC⟩ := LCg.ns_obj hn'
        have keep3 : ∀ b o, b ≠ I → b ≠ D + 1 + 1 → h'.get? b = some o → h₃.get? b = some o := fun b o h1 h2 e => h23 b o h2 (hkI b o h1 e)
        have F₃ : Fr h₀ L h₃ m := ⟨F'.ns.at' fun o e => keep3 _ o hLI (by omega) e, fun b o e => keep3 b o (fun q => by rw [q, hI₀] at e; cases e) (fun q => by rw [q, hK₀] at e; cases e) (F'.keep b o e), F'.above⟩
        have N₃ : News h₀ L h₃ ((I, _) :: (D + 1, oC) :: (D + 1 + 1, oK) :: (D, LCg.lst ys) :: news) := fun p hp => by
          rcases List.mem_cons.mp hp with rfl | hp
          · exact ⟨hst₃, Ne.symm hLI, hI₀⟩
          · rcases List.mem_cons.mp hp with rfl | hp
            · exact ⟨keep3 _ _ (Nat.ne_of_gt (by omega)) (Nat.ne_of_lt (Nat.lt_succ_self _)) heC, Nat.ne_of_gt (by omega), hC₀⟩
            · rcases List.mem_cons.mp hp with rfl | hp
              · exact ⟨eK, Nat.ne_of_gt (by omega), hK₀⟩
              · have z := N' p hp
                refine ⟨keep3 _ _ ?_ ?_ z.1, z.2⟩
                · rcases List.mem_cons.mp hp with rfl | hp
                  · exact Nat.ne_of_gt hIlt
                  · exact (offA p hp).1
                · rcases List.mem_cons.mp hp with rfl | hp
                  · exact Nat.ne_of_lt (by omega)
                  · exact (offA p hp).2.2.1
        have hel := elem i t I _ (D + 1) oC (D + 1 + 1) oK D ys h₃ tk₂ (notedBy (model prog w) A (compEnvC scope ((x, D + 1 + 1) :: cl) (D + 1) env) fun e s' => compPost (model prog w) A E none Q (.ref D) (D + 1) (.error e) s') hlt dK F₃ N₃ offA ⟨by omega, by omega, by omega, by omega, by omega, by omega⟩
        rw [← s₂eq] at hel
        refine wpAny_mono hel (fun y s₄ h₄ => ?_) fun _ _ e => e
        obtain ⟨h₄, tk₄, rfl, F₄, N₄, ty, rfl⟩ := h₄
        have zI := (N₄ (I, _) List.mem_cons_self).1
        have zC := (N₄ (D + 1, oC) (List.mem_cons_of_mem _ List.mem_cons_self)).1
        have zK := (N₄ (D + 1 + 1, oK) (List.mem_cons_of_mem _ (List.mem_cons_of_mem _ List.mem_cons_self))).1
        have zD := (N₄ (D, LCg.lst ys) (List.mem_cons_of_mem _ (List.mem_cons_of_mem _ (List.mem_cons_of_mem _ List.mem_cons_self)))).1
        have N₄' : News h₀ L h₄ news := fun p hp => N₄ p (List.mem_cons_of_mem _ (List.mem_cons_of_mem _ (List.mem_cons_of_mem _ (List.mem_cons_of_mem _ hp))))
        refine append_at (hsz := by show ys.toArray.size ≤ sizeLine; rw [List.size_toArray, hyl, sizeLine_eq]; omega) zD fun h₅ hs₅ hD₅ => ?_
        refine ⟨n + 1 - (i + 1), by omega, h₅, tk₄, i + 1, ys ++ [.int (g i) ty], some (.int (a + (i : Int)) t), ?_, hlt, rfl, by rw [List.length_append, List.length_singleton, hyl],
          W.frame (i + 1) h₄ h₅ zI fun b hb o e => hs₅.extBut b o (fun q => by rw [List.mem_singleton.mp hb] at q; exact absurd q (Nat.ne_of_lt hIlt)) e, F₄.change hs₅ (Nat.ne_of_gt hLlt) hD₀, (hoC.ns zC).sameBut hs₅ (Nat.ne_of_gt (Nat.lt_succ_self _)),
          ⟨oK, hs₅.extBut _ _ (Nat.ne_of_gt (by omega)) zK, dK⟩, fun p hp => ?_, ?_⟩
        · rfl
        · rcases List.mem_cons.mp hp with rfl | hp
          · exact ⟨hD₅.trans (congrArg some (LCg.lst_snoc ys _)), Nat.ne_of_gt hLlt, hD₀⟩
          · exact ⟨hs₅.extBut _ _ (offA p hp).2.2.2 (N₄' p hp).1, (N₄' p hp).2⟩
        · rw [List.range_succ, List.map_append]
          exact IntsAre.append hys (.cons _ _ .nil)
      · obtain rfl : i = n := Nat.le_antisymm hin (Nat.not_lt.mp hlt)
        refine W.done _ _ _ hst' fun h₂ tk₂ hk₂ => ?_
        have hkI : ∀ b o, b ≠ I → h'.get? b = some o → h₂.get? b = some o := fun b o hb e => hk₂ b o (by simpa using hb) e
        have F₂ : Fr h₀ L h₂ m := fr_but2 F' hk₂ (by simpa using hLI) (fun b hb => by rw [List.mem_singleton.mp hb]; exact hI₀)
        have hn₂ : h₂.Ns (D + 1) (fun _ => none) := hn'.at' fun o e => hkI _ o (Nat.ne_of_gt (by omega)) e
        refine ⟨_, hn₂, fun h'' hs'' => ?_⟩
        show Q (.ref D) { s₂ with heap := h'', toks := tk₂ }
        rw [s₂eq]
        refine fin ys _ h'' tk₂ hys (F₂.change hs'' (Nat.ne_of_gt (by omega)) hC₀) (fun p hp => ?_) (off1_of' fun p hp => (offA p hp).2.2.2)
        refine ⟨hs''.extBut _ _ ?_ (hkI _ _ ?_ (N' p hp).1), (N' p hp).2⟩
        · rcases List.mem_cons.mp hp with rfl | hp
          · exact Nat.ne_of_lt (Nat.lt_succ_self _)
          · exact (offA p hp).2.1
        · rcases List.mem_cons.mp hp with rfl | hp
          · exact Nat.ne_of_gt hIlt
          · exact (offA p hp).1
    · rcases List.mem_cons.mp hp with rfl | hp
      · exact ⟨hacc, Nat.ne_of_gt hLlt, hD₀⟩
      · exact ⟨old _ _ (N p hp).1, (N p hp).2⟩
  exact codeAny_compStart_list (loop _ ⟨_, rfl⟩) (W.self 0 _ _ _ (W.frame 0 _ _ hIt fun b _ o e => old b o e) (loop _ ⟨_, rfl⟩))
end
end Mine
end
section
open PySem PySem.W PyProof.Rows PySem.Calls PySem.Spec
set_option maxRecDepth 100000
set_option maxHeartbeats 8000000
namespace Mine
section
variable {M : Model} {A : Around} {E : Value → Shared → Prop} {s : Shared} {h₀ : Heap} {L : Addr} {m : Str → Option Value}
/-- a new list of ints, one to eight -/
def MidL (h₀ : Heap) (L : Addr) (m : Str → Option Value) (news : Led) (s : Shared) (v : Value) (s₁ : Shared) : Prop :=
  ∃ D vs ds k h' tk, v = .ref D ∧ s₁ = { s with heap := h', toks := tk } ∧ Fr h₀ L h' m ∧ News h₀ L h' ((D, listOf (List.toArray vs) k) :: news) ∧ IntsAre vs ds ∧ 1 ≤ ds.length ∧ ds.length ≤ 8 ∧ LCg.Off1 D news
theorem MidL.intro {news all : Led} {D : Addr} {vs : List Value} {ds : List Int} {k : Nat} {h' : Heap} {tk : Nat} (F : Fr h₀ L h' m) (N : News h₀ L h' ((D, listOf (List.toArray vs) k) :: all)) (hs : ∀ p ∈ news, p ∈ all) (hi : IntsAre vs ds) (h1 : 1 ≤ ds.length) (h8 : ds.length ≤ 8) (od : LCg.Off1 D news) :
    MidL h₀ L m news s (.ref D) { s with heap := h', toks := tk } := ⟨D, vs, ds, k, h', tk, rfl, rfl, F, fun p hp => by
      rcases List.mem_cons.mp hp with rfl | hp
      · exact N _ List.mem_cons_self
      · exact N p (List.mem_cons_of_mem _ (hs p hp)), hi, h1, h8, od⟩
theorem take8_pos {ns : List Int} (h : decide (ns = []) = false) : 1 ≤ (List.take 8 ns).length := by
  cases ns with
  | nil => simp at h
  | cons a r => simp
theorem take8_le {ns : List Int} : (List.take 8 ns).length ≤ 8 := by rw [List.length_take]; omega
theorem cut_list {T : Sem Value} {news : Led} {Q : Value → Shared → Prop} (_F : Fr h₀ L s.heap m) (_N : News h₀ L s.heap news) (first : wpAny M A T (MidL h₀ L m news s) E s)
    (rest : ∀ D vs ds k h' tk, Fr h₀ L h' m → News h₀ L h' ((D, listOf (List.toArray vs) k) :: news) → IntsAre vs ds → 1 ≤ ds.length → ds.length ≤ 8 → LCg.Off1 D news → Q (.ref D) { s with heap := h', toks := tk }) : wpAny M A T Q E s := by
  refine wpAny_mono first (fun v s₁ h => ?_) fun _ _ e => e
  obtain ⟨D, vs, ds, k, h', tk, rfl, rfl, F', N', hi, h1, h8, od⟩ := h
  exact rest D vs ds k h' tk F' N' hi h1 h8 od
end
section
variable {M : Model} {A : Around} {E : Value → Shared → Prop} {s : Shared} {h₀ : Heap} {L : Addr} {m : Str → Option Value}
/-- an int with a property, nothing else changed -/
def MidI (h₀ : Heap) (L : Addr) (m : Str → Option Value) (news : Led) (s : Shared) (P : Int → Prop) (v : Value) (s₁ : Shared) : Prop :=
  ∃ z t h' tk, v = .int z t ∧ s₁ = { s with heap := h', toks := tk } ∧ Fr h₀ L h' m ∧ News h₀ L h' news ∧ P z
theorem cut_int {T : Sem Value} {news : Led} {Q : Value → Shared → Prop} (P : Int → Prop) (_F : Fr h₀ L s.heap m) (_N : News h₀ L s.heap news) (first : wpAny M A T (MidI h₀ L m news s P) E s)
    (rest : ∀ z t h' tk, Fr h₀ L h' m → News h₀ L h' news → P z → Q (.int z t) { s with heap := h', toks := tk }) : wpAny M A T Q E s := by
  refine wpAny_mono first (fun v s₁ h => ?_) fun _ _ e => e
  obtain ⟨z, t, h', tk, rfl, rfl, F', N', hp⟩ := h
  exact rest z t h' tk F' N' hp
theorem MidI.intro {news all : Led} {P : Int → Prop} {z : Int} {t : Tok} {h' : Heap} {tk : Nat} (F : Fr h₀ L h' m) (N : News h₀ L h' all) (hs : ∀ p ∈ news, p ∈ all) (hp : P z) : MidI h₀ L m news s P (.int z t) { s with heap := h', toks := tk } :=
  ⟨z, t, h', tk, rfl, rfl, F, fun p h => N p (hs p h), hp⟩
end
/-- two addresses apart, hidden from arithmetic -/
structure NeF (a b : Nat) : Prop where
  ne : a ≠ b
theorem neF_iff {a b : Nat} : (a ≠ b) ↔ NeF a b := ⟨fun h => ⟨h⟩, fun h => h.ne⟩
theorem NeF.sym {a b : Nat} (h : NeF a b) : b ≠ a := fun e => h.ne e.symm
def dMsg (ds : List Int) : Int := (ds.mapIdx fun i n => (n.fdiv 37).fmod 4096 * 4096 ^ i).sum
def dWays (ds : List Int) : List Int := (ds.take 5).map (·.fmod 37)
def qPut (n : Int) : Bool := decide (0 < n) && decide (n < 19)
def qTak (n : Int) : Bool := decide (18 < n)
def dPut (ds : List Int) : List Int := ((dWays ds).filter qPut).map (· - 1)
def dTak (ds : List Int) : List Int := ((dWays ds).filter qTak).map (· - 19)
theorem fmod37 (n : Int) : 0 ≤ n.fmod 37 ∧ n.fmod 37 < 37 := by
  rw [Int.fmod_eq_emod_of_nonneg n (by decide : (0:Int) ≤ 37)]
  omega
theorem fmod6 (n : Int) : 0 ≤ n.fmod 6 ∧ n.fmod 6 ≤ 5 := by
  rw [Int.fmod_eq_emod_of_nonneg n (by decide : (0:Int) ≤ 6)]
  omega
theorem fmod12 (n : Int) : 0 ≤ n.fmod 12 ∧ n.fmod 12 ≤ 11 := by
  rw [Int.fmod_eq_emod_of_nonneg n (by decide : (0:Int) ≤ 12)]
  omega
def dNum (sgn : Int) (ds : List Int) : Int := 91 * sgn * dMsg ds + ((dPut ds).map fun n => 16 ^ n.toNat).sum - ((dTak ds).map fun n => 16 ^ n.toNat).sum
def dFst (nm cor : Int) : Int := if nm ≥ 0 then cor else cor + 3
def dCor (fst : Int) (ds : List Int) : List Int := (dPut ds).map (fun n => (fst + 2 * n).fmod 6) ++ (dTak ds).map (fun n => (fst + 2 * n + 3).fmod 6)
def whl (c : Int) (i : Nat) : Int := if i = 0 then (wheelX c).1 else if i = 1 then (wheelX c).2.1 else (wheelX c).2.2
def dSum (fst : Int) (ds : List Int) (i : Nat) : Int := ((dCor fst ds).map fun c => whl c i).sum
theorem dCor_bnd {fst : Int} {ds : List Int} {n : Int} (h : n ∈ dCor fst ds) : 0 ≤ n ∧ n ≤ 5 := by
  unfold dCor at h
  rcases List.mem_append.mp h with h | h
  · obtain ⟨x, _, rfl⟩ := List.mem_map.mp h
    exact fmod6 _
  · obtain ⟨x, _, rfl⟩ := List.mem_map.mp h
    exact fmod6 _
theorem ints_three {ys : List Value} {a b c : Int} (h : IntsAre ys [a, b, c]) : ∃ t u v, ys = [.int a t, .int b u, .int c v] := by
  obtain ⟨t, r1, rfl, h1⟩ := h.cons_inv
  obtain ⟨u, r2, rfl, h2⟩ := h1.cons_inv
  obtain ⟨v, r3, rfl, h3⟩ := h2.cons_inv
  rw [h3.nil_inv]
  exact ⟨t, u, v, rfl⟩
theorem dWays_bnd {ds : List Int} {n : Int} (h : n ∈ dWays ds) : 0 ≤ n ∧ n < 37 := by
  unfold dWays at h
  obtain ⟨x, _, rfl⟩ := List.mem_map.mp h
  exact fmod37 x
theorem dPut_bnd {ds : List Int} {n : Int} (h : n ∈ dPut ds) : 0 ≤ n ∧ n ≤ 17 := by
  unfold dPut at h
  obtain ⟨x, hx, rfl⟩ := List.mem_map.mp h
  have := (List.mem_filter.mp hx).2
  unfold qPut at this
  simp only [Bool.and_eq_true, decide_eq_true_eq] at this
  omega
theorem dTak_bnd {ds : List Int} {n : Int} (h : n ∈ dTak ds) : 0 ≤ n ∧ n ≤ 17 := by
  unfold dTak at h
  obtain ⟨x, hx, rfl⟩ := List.mem_map.mp h
  have h1 := (List.mem_filter.mp hx).2
  have h2 := dWays_bnd (List.mem_filter.mp hx).1
  unfold qTak at h1
  simp only [decide_eq_true_eq] at h1
  omega
theorem dWays_len (ds : List Int) : (dWays ds).length ≤ 5 := by
  unfold dWays; rw [List.length_map, List.length_take]; omega
theorem dPut_len (ds : List Int) : (dPut ds).length ≤ 5 := by
  unfold dPut; rw [List.length_map]; exact Nat.le_trans (List.length_filter_le _ _) (dWays_len ds)
theorem dTak_len (ds : List Int) : (dTak ds).length ≤ 5 := by
  unfold dTak; rw [List.length_map]; exact Nat.le_trans (List.length_filter_le _ _) (dWays_len ds)
theorem dCor_len (fst : Int) (ds : List Int) : (dCor fst ds).length ≤ 10 := by
  unfold dCor; rw [List.length_append, List.length_map, List.length_map]
  have h1 := dPut_len ds
  have h2 := dTak_len ds
  omega
section
variable {prog : Program} {w : World} {A : Around} {E : Value → Shared → Prop} {s : Shared} {h₀ : Heap} {L : Addr} {m : Str → Option Value} {env : Env}
theorem enum_call {elt : PySem.Expr} {x x₂ : Str} {scope : Scope} {cl : List (Str × Addr)} {Q : Value → Shared → Prop} {l : Addr} {vs : List Value} {k : Nat} {news : Led} {ns : List Int} (g : Nat → Int → Int)
    (hh : A.handled = none) (F : Fr h₀ L s.heap m) (N : News h₀ L s.heap news) (hm : (l, ({ cls := .type "list", data := .seq (List.toArray vs) k } : Obj)) ∈ news) (hi : IntsAre vs ns) (hsz : ns.length ≤ 1000)
    (elem : EnRule prog w A h₀ L m env elt x x₂ scope cl s news ns g)
    (fin : ∀ ys D h tk, IntsAre ys (ns.mapIdx g) → Fr h₀ L h m → News h₀ L h ((D, LCg.lst ys) :: news) → LCg.Off1 D news → Q (.ref D) { s with heap := h, toks := tk }) :
    wpAny (model prog w) A (call (.type "enumerate") [.ref l]) (EnSrc prog w A h₀ L m env elt x x₂ scope cl Q) E s := by
  refine call_enumerate_list (⟨_, (N _ hm).1, rfl, _, rfl⟩ : s.heap.IsList l vs.toArray) fun h' hE hJ hz hk => ?_
  have hL : @LT.lt Nat _ L s.heap.objs.size := F.ns.lt
  have fresh₀ : ∀ a : Nat, @LE.le Nat _ s.heap.objs.size a → h₀.get? a = none := fun a ha => by
    cases e : h₀.get? a with
    | none => rfl
    | some o' => exact absurd (ltN (Heap.lt_size (F.keep a o' e))) (Nat.not_lt.mpr ha)
  refine ⟨_, _, l, vs, k, ns, g, news, rfl, hh, hE, hJ, hm, hi, hsz, Nat.ne_of_gt (Nat.lt_succ_self _), fresh₀ _ (by omega), fresh₀ _ (by omega), Nat.ne_of_lt (by omega), Nat.ne_of_lt hL, fun p hp => ?_, F.keeps hk, N.grown hk, elem, fin⟩
  have h2 : @LT.lt Nat _ p.1 s.heap.objs.size := Heap.lt_size (N p hp).1
  exact ⟨Nat.ne_of_lt (by omega), Nat.ne_of_lt h2⟩
theorem CellSrc.intro {elt : PySem.Expr} {x : Str} {scope : Scope} {cl : List (Str × Addr)} {Q : Value → Shared → Prop} {r : Addr} {a b : Int} {t u v : Tok} {n : Nat} {news : Led} (g : Nat → Int)
    (hh : A.handled = none) (F : Fr h₀ L s.heap m) (N : News h₀ L s.heap news) (hr : IsRange s.heap r a b 1 t u v) (hsm : Builtin.Range.small a b 1 = true) (hn : Builtin.Range.rangeSize a b 1 = ((n : Nat) : Int)) (hsz : n ≤ 1000)
    (elem : CellRule prog w A h₀ L m env elt x scope cl s news n a g)
    (fin : ∀ ys D h tk, IntsAre ys ((List.range n).map g) → Fr h₀ L h m → News h₀ L h ((D, LCg.lst ys) :: news) → LCg.Off1 D news → Q (.ref D) { s with heap := h, toks := tk }) :
    CellSrc prog w A h₀ L m env elt x scope cl Q (.ref r) s := ⟨r, a, b, t, u, v, n, g, news, rfl, hh, F, N, hr, hsm, hn, hsz, elem, fin⟩
end
end Mine
end
section
open PySem PySem.W PyProof.Rows PySem.Calls PySem.Spec
set_option maxRecDepth 100000
set_option maxHeartbeats 8000000
namespace Mine
theorem apW_zero : apW 0 = [] := by rw [apW]; simp
theorem apW_len1 {n : Nat} (h : ¬ n = 0) : (apW n).length = (apW (n / 16)).length + 1 := by rw [apW_step h]; simp
theorem apW_le : ∀ (k n : Nat), n < 16 ^ k → (apW n).length ≤ k
  | 0, n, h => by
    have : n = 0 := by simpa using h
    rw [this, apW_zero]; simp
  | k + 1, n, h => by
    by_cases h0 : n = 0
    · rw [h0, apW_zero]; simp
    · rw [apW_len1 h0]
      have := apW_le k (n / 16) (by rw [Nat.pow_succ] at h; omega)
      omega
theorem apW_ltN (n : Nat) : n < 16 ^ (apW n).length := by
  induction n using Nat.strongRecOn with
  | _ n ih =>
    by_cases h0 : n = 0
    · rw [h0, apW_zero]; decide
    · rw [apW_len1 h0, Nat.pow_succ]
      have := ih (n / 16) (by omega)
      omega
theorem apW_lt (N : Nat) : (N : Int) < 16 ^ (((apW N).toArray.size : Nat) : Int).toNat := by
  rw [List.size_toArray, Int.toNat_natCast]
  have := apW_ltN N
  exact_mod_cast this
theorem bInts_list (l : List UInt8) : KBw.bInts l.toArray = l.map fun c => ((c.toNat : Nat) : Int) := rfl
theorem letter (d : Nat) (h : d < 16) : (((65 + d).toUInt8.toNat : Nat) : Int) = 65 + d := by
  have : (65 + d).toUInt8.toNat = 65 + d := by
    show (UInt8.ofNat (65 + d)).toNat = 65 + d
    rw [UInt8.toNat_ofNat']; omega
  rw [this]; omega
theorem apW_bnd (N : Nat) : ∀ k ∈ KBw.bInts (apW N).toArray, 65 ≤ k ∧ k ≤ 80 := by
  rw [bInts_list]
  induction N using Nat.strongRecOn with
  | _ n ih =>
    intro k hk
    by_cases h0 : n = 0
    · rw [h0, apW_zero] at hk; simp at hk
    · rw [apW_step h0, List.map_append] at hk
      rcases List.mem_append.mp hk with hk | hk
      · exact ih (n / 16) (by omega) k hk
      · rw [List.map_cons, List.map_nil, List.mem_singleton, letter _ (by omega)] at hk
        omega
theorem apW_horn (N : Nat) : horn (KBw.bInts (apW N).toArray) = N := by
  rw [bInts_list]
  induction N using Nat.strongRecOn with
  | _ n ih =>
    by_cases h0 : n = 0
    · rw [h0, apW_zero]; rfl
    · rw [apW_step h0, List.map_append, List.map_cons, List.map_nil, horn_snoc, ih (n / 16) (by omega), letter _ (by omega)]
      omega
theorem apW_first {n : Nat} (h : ¬ n = 0) : ∃ d r, apW n = (65 + d).toUInt8 :: r ∧ 0 < d ∧ d < 16 := by
  induction n using Nat.strongRecOn with
  | _ n ih =>
    rw [apW_step h]
    by_cases h0 : n / 16 = 0
    · refine ⟨n % 16, [], ?_, by omega, by omega⟩
      rw [h0, apW_zero]; rfl
    · obtain ⟨d, r, e, d0, d1⟩ := ih (n / 16) (by omega) h0
      exact ⟨d, _, by rw [e]; rfl, d0, d1⟩
theorem apW_head (N : Nat) : (KBy.picked (apW N).toArray none (some 1) == #[65]) = false := by
  rw [KBc.picked_eq]
  by_cases h0 : N = 0
  · rw [h0, apW_zero]; decide
  · obtain ⟨d, r, e, d0, d1⟩ := apW_first h0
    rw [e]
    have hc : (some (1 : Int)).elim (List.toArray ((65 + d).toUInt8 :: r)).size (clipAt (List.toArray ((65 + d).toUInt8 :: r)).size) = 1 := by
      show clipAt _ 1 = 1
      have := KBc.clip_lit (List.toArray ((65 + d).toUInt8 :: r)).size 1
      rw [show (1 : Int) = @OfNat.ofNat Int 1 instOfNat from rfl, this]
      simp
    rw [hc]
    simp only [Option.elim, List.drop_zero, Nat.sub_zero, List.take_succ_cons, List.take_zero]
    have hne : (65 + d).toUInt8 ≠ 65 := by
      intro e'
      have := letter d d1
      rw [e'] at this
      have h65 : ((65 : UInt8).toNat : Int) = 65 := by decide
      omega
    generalize (65 + d).toUInt8 = q at hne
    simp [hne]
theorem rng_small {N : Nat} (h : (apW N).length ≤ 40) : Builtin.Range.small (((apW N).toArray.size : Int) - 1) (-1) (-1) = true := by
  rw [List.size_toArray]
  generalize (apW N).length = n at h
  have hk : ∀ k : Nat, k ≤ 40 → Builtin.Range.small ((k : Int) - 1) (-1) (-1) = true := by decide
  exact hk n h
theorem rng_size (N : Nat) : Builtin.Range.rangeSize (((apW N).toArray.size : Int) - 1) (-1) (-1) = (((apW N).length : Nat) : Int) := by
  rw [List.size_toArray]
  generalize (apW N).length = n
  unfold Builtin.Range.rangeSize
  rw [if_neg (by decide), show (-(-1 : Int)) = 1 from rfl, Int.ediv_one]
  split
  · omega
  · omega
end Mine
end
section
open PySem PySem.W PyProof.Rows PySem.Calls PySem.Spec
set_option maxRecDepth 100000
set_option maxHeartbeats 8000000
namespace Mine
/-- the figures as the law reckons them -/
def figs (N : Nat) : List Int := (List.range (apW N).length).map fun (i : Nat) => 65 + ((N : Int).fdiv (16 ^ (((apW N).toArray.size : Int) - 1 + (i : Int) * (-1)).toNat)).fmod 16
theorem pow16 (n : Nat) : (16 : Int) ^ n ≠ 0 := by
  have : (0 : Int) < 16 ^ n := Int.pow_pos (by decide)
  omega
theorem figs_in (N : Nat) : ∀ n ∈ figs N, 0 ≤ n ∧ n < 256 := by
  intro n hn
  obtain ⟨i, _, rfl⟩ := List.mem_map.mp hn
  rw [Int.fmod_eq_emod_of_nonneg _ (by decide : (0:Int) ≤ 16)]
  omega
theorem apW_nat (N : Nat) : apW N = (List.range (apW N).length).map fun i => (65 + N / 16 ^ ((apW N).length - 1 - i) % 16).toUInt8 := by
  induction N using Nat.strongRecOn with
  | _ n ih =>
    by_cases h0 : n = 0
    · rw [h0, apW_zero]; rfl
    · have e := ih (n / 16) (by omega)
      have hl := apW_len1 h0
      conv => lhs; rw [apW_step h0, e]
      rw [hl, List.range_succ, List.map_append]
      congr 1
      · apply List.map_congr_left
        intro i hi
        have hi' := List.mem_range.mp hi
        have e2 : (apW (n / 16)).length + 1 - 1 - i = ((apW (n / 16)).length - 1 - i) + 1 := by omega
        rw [e2, Nat.pow_succ, Nat.mul_comm, Nat.div_div_eq_div_mul]
      · simp
theorem fig_one (N e : Nat) : (65 + ((N : Int).fdiv (16 ^ e)).fmod 16).toNat = 65 + N / 16 ^ e % 16 := by
  have h1 : ((16 : Int) ^ e) = ((16 ^ e : Nat) : Int) := by simp
  have h2 : (0 : Int) ≤ ((16 ^ e : Nat) : Int) := Int.natCast_nonneg _
  rw [h1, Int.fdiv_eq_ediv_of_nonneg _ h2, Int.fmod_eq_emod_of_nonneg _ (by decide : (0:Int) ≤ 16)]
  have h3 : (N : Int) / ((16 ^ e : Nat) : Int) = ((N / 16 ^ e : Nat) : Int) := by simp
  rw [h3]
  omega
theorem apW_figs (N : Nat) : byteArr (figs N) = (apW N).toArray := by
  unfold byteArr figs
  congr 1
  rw [List.map_map]
  conv => rhs; rw [apW_nat N]
  apply List.map_congr_left
  intro i hi
  have hi' := List.mem_range.mp hi
  show (65 + ((N : Int).fdiv (16 ^ (((apW N).toArray.size : Int) - 1 + (i : Int) * (-1)).toNat)).fmod 16).toNat.toUInt8 = _
  rw [fig_one, List.size_toArray]
  have : (((apW N).length : Int) - 1 + (i : Int) * (-1)).toNat = (apW N).length - 1 - i := by omega
  rw [this]
theorem sum_bnd {B : Int} : ∀ {l : List Int}, (∀ x ∈ l, 0 ≤ x ∧ x ≤ B) → 0 ≤ l.sum ∧ l.sum ≤ l.length * B
  | [], _ => by simp
  | a :: r, h => by
    have h1 := h a List.mem_cons_self
    have h2 := sum_bnd (l := r) fun x hx => h x (List.mem_cons_of_mem _ hx)
    rw [List.sum_cons, List.length_cons, Int.natCast_succ, Int.add_mul, Int.one_mul]
    omega
theorem pow_mono {a b : Nat} (h : a ≤ b) : (16 : Int) ^ a ≤ 16 ^ b := by
  have := Nat.pow_le_pow_right (n := 16) (by decide) h
  exact_mod_cast this
theorem pow_monoK {a b : Nat} (h : a ≤ b) : (4096 : Int) ^ a ≤ 4096 ^ b := by
  have := Nat.pow_le_pow_right (n := 4096) (by decide) h
  exact_mod_cast this
theorem dMsg_bnd {ds : List Int} (h8 : ds.length ≤ 8) : 0 ≤ dMsg ds ∧ dMsg ds ≤ 8 * (4096 * 4096 ^ 7) := by
  unfold dMsg
  have h := sum_bnd (B := 4096 * 4096 ^ 7) (l := ds.mapIdx fun i n => (n.fdiv 37).fmod 4096 * 4096 ^ i) (by
    intro x hx
    obtain ⟨i, hi, rfl⟩ := List.mem_mapIdx.mp hx
    have hb : 0 ≤ (ds[i].fdiv 37).fmod 4096 ∧ (ds[i].fdiv 37).fmod 4096 ≤ 4096 := by
      rw [Int.fmod_eq_emod_of_nonneg _ (by decide : (0:Int) ≤ 4096)]; omega
    have hp : (0 : Int) < 4096 ^ i := Int.pow_pos (by decide)
    have hq : (4096 : Int) ^ i ≤ 4096 ^ 7 := pow_monoK (by omega)
    exact ⟨Int.mul_nonneg hb.1 (by omega), Int.mul_le_mul hb.2 hq (by omega) (by decide)⟩)
  rw [List.length_mapIdx] at h
  refine ⟨h.1, Int.le_trans h.2 ?_⟩
  exact Int.mul_le_mul_of_nonneg_right (by omega) (by decide)
theorem dPow_bnd {l : List Int} (h : ∀ n ∈ l, 0 ≤ n ∧ n ≤ 17) (hl : l.length ≤ 5) : 0 ≤ (l.map fun n => (16 : Int) ^ n.toNat).sum ∧ (l.map fun n => (16 : Int) ^ n.toNat).sum ≤ 5 * 16 ^ 17 := by
  have h1 := sum_bnd (B := 16 ^ 17) (l := l.map fun n => (16 : Int) ^ n.toNat) (by
    intro x hx
    obtain ⟨n, hn, rfl⟩ := List.mem_map.mp hx
    have := h n hn
    exact ⟨Int.le_of_lt (Int.pow_pos (by decide)), pow_mono (by omega)⟩)
  rw [List.length_map] at h1
  exact ⟨h1.1, Int.le_trans h1.2 (Int.mul_le_mul_of_nonneg_right (by omega) (by decide))⟩
theorem apW_len {sgn : Int} {ds : List Int} (hs : sgn = 1 ∨ sgn = -1) (h8 : ds.length ≤ 8) : (apW (dNum sgn ds).natAbs).length ≤ 40 := by
  apply apW_le
  have h1 := dMsg_bnd h8
  have h2 := dPow_bnd (fun n hn => dPut_bnd (ds := ds) hn) (dPut_len ds)
  have h3 := dPow_bnd (fun n hn => dTak_bnd (ds := ds) hn) (dTak_len ds)
  unfold dNum
  generalize dMsg ds = a at *
  generalize ((dPut ds).map fun n => (16 : Int) ^ n.toNat).sum = b at *
  generalize ((dTak ds).map fun n => (16 : Int) ^ n.toNat).sum = c at *
  have e1 : (8 * (4096 * 4096 ^ 7) : Int) = 633825300114114700748351602688 := by decide
  have e2 : (5 * 16 ^ 17 : Int) = 1475739525896764129280 := by decide
  have e3 : (16 ^ 40 : Nat) = 1461501637330902918203684832716283019655932542976 := by decide
  rw [e1] at h1
  rw [e2] at h2 h3
  rw [e3]
  rcases hs with rfl | rfl <;> omega
/-- up to ten parts, of the code: none -/
theorem code_ten : ∀ u v w : Fin 11, (u.val = 0 ∨ v.val = 0 ∨ w.val = 0) → (u.val + 16 * v.val + 256 * w.val) % 91 = 0 → u.val = 0 ∧ v.val = 0 ∧ w.val = 0 := by decide +kernel
theorem dif10 {x y a b : Int} (hx : x ≤ 5) (ha : 0 ≤ a) (hy : 0 ≤ y) (hb : b ≤ 5) : x - a - (y - b) ≤ 10 := by omega
theorem shift_le {x y z a b c l : Int} (a0 : 0 ≤ a) (b0 : 0 ≤ b) (c0 : 0 ≤ c) (h : x = 0 ∨ y = 0 ∨ z = 0) (hx : x - a = l) (hy : y - b = l) (hz : z - c = l) : l ≤ 0 := by
  rcases h with h | h | h
  · clear hy hz b0 c0; omega
  · clear hx hz a0 c0; omega
  · clear hx hy a0 b0; omega
theorem eq_of_dif {x a l : Int} (h : x - a = l) (h1 : l ≤ 0) (h2 : 0 ≤ l) : x = a := by omega
theorem neg_dif {x a l : Int} (h : x - a = l) : a - x = -l := by omega
theorem ten_nat {u : Int} (h0 : 0 ≤ u) (h1 : u ≤ 10) : ∃ n : Nat, u = (n : Int) ∧ n < 11 := by
  obtain ⟨n, rfl⟩ := Int.eq_ofNat_of_zero_le h0
  exact ⟨n, rfl, Nat.lt_succ_of_le (Int.ofNat_le.mp h1)⟩
theorem ball_one {x y z a b c : Int} (h : Upto 5 x y z) (h' : Upto 5 a b c) (hp : (phi x y z - phi a b c) % 91 = 0) : x = a ∧ y = b ∧ z = c := by
  obtain ⟨x0, xn, y0, yn, z0, zn, s0⟩ := h
  obtain ⟨a0, an, b0, bn, c0, cn, t0⟩ := h'
  have hU := upto_nrm (n := 10) (dif10 xn a0 y0 bn) (dif10 yn b0 x0 an) (dif10 xn a0 z0 cn) (dif10 zn c0 x0 an) (dif10 yn b0 z0 cn) (dif10 zn c0 y0 bn) (by decide)
  have hq := phi_nrm (p := x - a) (q := y - b) (r := z - c) (t := 0) (by rw [phi_sub, Int.sub_zero]; exact hp)
  rw [Int.sub_zero] at hq
  generalize least (x - a) (y - b) (z - c) = l at hU hq
  obtain ⟨u0, u1, v0, v1, w0, w1, hz⟩ := hU
  obtain ⟨u, hu, u9⟩ := ten_nat u0 u1
  obtain ⟨v, hv, v9⟩ := ten_nat v0 v1
  obtain ⟨w, hw, w9⟩ := ten_nat w0 w1
  rw [hu, hv, hw] at hq hz
  obtain ⟨q1, q2, q3⟩ := code_ten ⟨u, u9⟩ ⟨v, v9⟩ ⟨w, w9⟩ (hz.imp Int.ofNat_eq_zero.mp (Or.imp Int.ofNat_eq_zero.mp Int.ofNat_eq_zero.mp)) (by
    show (u + 16 * v + 256 * w) % 91 = 0
    exact Int.ofNat_inj.mp hq)
  have e1 : x - a = l := Int.eq_of_sub_eq_zero (hu.trans (congrArg Int.ofNat q1))
  have e2 : y - b = l := Int.eq_of_sub_eq_zero (hv.trans (congrArg Int.ofNat q2))
  have e3 : z - c = l := Int.eq_of_sub_eq_zero (hw.trans (congrArg Int.ofNat q3))
  have l1 := shift_le a0 b0 c0 s0 e1 e2 e3
  have l2 := Int.neg_nonpos_iff l |>.mp (shift_le x0 y0 z0 t0 (neg_dif e1) (neg_dif e2) (neg_dif e3))
  exact ⟨eq_of_dif e1 l1 l2, eq_of_dif e2 l1 l2, eq_of_dif e3 l1 l2⟩
def wph (c : Int) : Int := phi (wheelX c).1 (wheelX c).2.1 (wheelX c).2.2
theorem wph_two {c : Int} (c0 : 0 ≤ c) (c1 : c ≤ 5) : (wph ((c + 2).fmod 6) - 16 * wph c) % 91 = 0 := by
  have hc : c = 0 ∨ c = 1 ∨ c = 2 ∨ c = 3 ∨ c = 4 ∨ c = 5 := by omega
  rcases hc with rfl | rfl | rfl | rfl | rfl | rfl <;> decide
theorem wph_three {c : Int} (c0 : 0 ≤ c) (c1 : c ≤ 5) : (wph ((c + 3).fmod 6) + wph c) % 91 = 0 := by
  have hc : c = 0 ∨ c = 1 ∨ c = 2 ∨ c = 3 ∨ c = 4 ∨ c = 5 := by omega
  rcases hc with rfl | rfl | rfl | rfl | rfl | rfl <;> decide
theorem fmod_add (a b : Int) : (a.fmod 6 + b).fmod 6 = (a + b).fmod 6 := by
  simp only [Int.fmod_eq_emod_of_nonneg _ (by decide : (0:Int) ≤ 6)]
  omega
theorem wph_pow (f : Int) : ∀ p : Nat, (wph ((f + 2 * (p : Int)).fmod 6) - wph (f.fmod 6) * 16 ^ p) % 91 = 0
  | 0 => by simp
  | p + 1 => by
    have ih := wph_pow f p
    have hb := fmod6 (f + 2 * (p : Int))
    have h2 := wph_two hb.1 hb.2
    rw [fmod_add] at h2
    have e : f + 2 * ((p + 1 : Nat) : Int) = f + 2 * (p : Int) + 2 := by omega
    rw [e, Int.pow_succ]
    have e2 : wph (f.fmod 6) * (16 ^ p * 16) = 16 * (wph (f.fmod 6) * 16 ^ p) := by rw [← Int.mul_assoc, Int.mul_comm]
    rw [e2]
    omega
theorem wph_neg (f : Int) (p : Nat) : (wph ((f + 2 * (p : Int) + 3).fmod 6) + wph (f.fmod 6) * 16 ^ p) % 91 = 0 := by
  have h1 := wph_pow f p
  have hb := fmod6 (f + 2 * (p : Int))
  have h2 := wph_three hb.1 hb.2
  rw [fmod_add] at h2
  omega
theorem sum_cong {k : Int} {g h : Int → Int} : ∀ {l : List Int}, (∀ n ∈ l, (g n - k * h n) % 91 = 0) → ((l.map g).sum - k * (l.map h).sum) % 91 = 0
  | [], _ => by simp
  | a :: r, hh => by
    have h1 := hh a List.mem_cons_self
    have h2 := sum_cong (l := r) fun n hn => hh n (List.mem_cons_of_mem _ hn)
    rw [List.map_cons, List.map_cons, List.sum_cons, List.sum_cons, Int.mul_add]
    omega
theorem phi_sum : ∀ (l : List Int), phi ((l.map fun c => whl c 0).sum) ((l.map fun c => whl c 1).sum) ((l.map fun c => whl c 2).sum) = (l.map wph).sum
  | [] => rfl
  | a :: r => by
    have ih := phi_sum r
    simp only [List.map_cons, List.sum_cons]
    rw [← ih]
    unfold phi wph whl phi
    simp
    omega
theorem whl_bnd (c : Int) (i : Nat) : 0 ≤ whl c i ∧ whl c i ≤ 1 := by
  unfold whl wheelX
  repeat' split
  all_goals decide
theorem filter_two : ∀ (l : List Int), (l.filter qPut).length + (l.filter qTak).length ≤ l.length
  | [] => by simp
  | a :: r => by
    have ih := filter_two r
    have hd : ¬ (qPut a = true ∧ qTak a = true) := by
      unfold qPut qTak
      simp only [Bool.and_eq_true, decide_eq_true_eq]
      omega
    simp only [List.filter_cons, List.length_cons]
    cases h1 : qPut a <;> cases h2 : qTak a <;> simp [h1, h2] at hd ⊢ <;> omega
theorem dCor_five (f : Int) (ds : List Int) : (dCor f ds).length ≤ 5 := by
  unfold dCor dPut dTak
  simp only [List.length_append, List.length_map]
  have := filter_two (dWays ds)
  have := dWays_len ds
  omega
theorem dSum_bnd (f : Int) (ds : List Int) (i : Nat) : 0 ≤ dSum f ds i ∧ dSum f ds i ≤ 5 := by
  unfold dSum
  have h := sum_bnd (B := 1) (l := (dCor f ds).map fun c => whl c i) (by
    intro x hx
    obtain ⟨c, _, rfl⟩ := List.mem_map.mp hx
    exact whl_bnd c i)
  rw [List.length_map] at h
  have := dCor_five f ds
  omega
theorem dSum_phi (f : Int) (ds : List Int) : (phi (dSum f ds 0) (dSum f ds 1) (dSum f ds 2) - wph (f.fmod 6) * (((dPut ds).map fun n => (16 : Int) ^ n.toNat).sum - ((dTak ds).map fun n => (16 : Int) ^ n.toNat).sum)) % 91 = 0 := by
  unfold dSum
  rw [phi_sum]
  unfold dCor
  rw [List.map_append, List.sum_append, List.map_map, List.map_map]
  have h1 := sum_cong (k := wph (f.fmod 6)) (g := wph ∘ fun n => (f + 2 * n).fmod 6) (h := fun n => (16 : Int) ^ n.toNat) (l := dPut ds) (by
    intro n hn
    have hb := dPut_bnd hn
    have := wph_pow f n.toNat
    rw [Int.toNat_of_nonneg hb.1] at this
    exact this)
  have h2 := sum_cong (k := - wph (f.fmod 6)) (g := wph ∘ fun n => (f + 2 * n + 3).fmod 6) (h := fun n => (16 : Int) ^ n.toNat) (l := dTak ds) (by
    intro n hn
    have hb := dTak_bnd hn
    have := wph_neg f n.toNat
    rw [Int.toNat_of_nonneg hb.1] at this
    show (wph ((f + 2 * n + 3).fmod 6) - -wph (f.fmod 6) * 16 ^ n.toNat) % 91 = 0
    rw [Int.neg_mul]
    omega)
  rw [Int.neg_mul] at h2
  rw [Int.mul_sub]
  omega
theorem dif_of {n p q : Int} (hp : p ≤ n) (hq : 0 ≤ q) : p - q ≤ n := by omega
theorem dif91 {u v t : Int} (h : (u - t) % 91 = 0) (h' : (v - t) % 91 = 0) : (u - v) % 91 = 0 := by omega
theorem due_is {sgn cor x y z : Int} {ds : List Int} (c0 : 0 ≤ cor) (c1 : cor ≤ 5) (hb : Upto 5 x y z)
    (hp : (phi x y z - phi (wheelX cor).1 (wheelX cor).2.1 (wheelX cor).2.2 * ((dNum sgn ds).natAbs : Int)) % 91 = 0) :
    x = dSum (dFst (dNum sgn ds) cor) ds 0 - least (dSum (dFst (dNum sgn ds) cor) ds 0) (dSum (dFst (dNum sgn ds) cor) ds 1) (dSum (dFst (dNum sgn ds) cor) ds 2) ∧
    y = dSum (dFst (dNum sgn ds) cor) ds 1 - least (dSum (dFst (dNum sgn ds) cor) ds 0) (dSum (dFst (dNum sgn ds) cor) ds 1) (dSum (dFst (dNum sgn ds) cor) ds 2) ∧
    z = dSum (dFst (dNum sgn ds) cor) ds 2 - least (dSum (dFst (dNum sgn ds) cor) ds 0) (dSum (dFst (dNum sgn ds) cor) ds 1) (dSum (dFst (dNum sgn ds) cor) ds 2) := by
  have hw : phi (wheelX cor).1 (wheelX cor).2.1 (wheelX cor).2.2 = wph cor := rfl
  rw [hw] at hp
  have hS := dSum_phi (dFst (dNum sgn ds) cor) ds
  have hT : ((dPut ds).map fun n => (16 : Int) ^ n.toNat).sum - ((dTak ds).map fun n => (16 : Int) ^ n.toNat).sum = dNum sgn ds - 91 * (sgn * dMsg ds) := by
    unfold dNum
    rw [Int.mul_assoc]
    omega
  rw [hT] at hS
  have s0 := dSum_bnd (dFst (dNum sgn ds) cor) ds 0
  have s1 := dSum_bnd (dFst (dNum sgn ds) cor) ds 1
  have s2 := dSum_bnd (dFst (dNum sgn ds) cor) ds 2
  generalize hf : dFst (dNum sgn ds) cor = f at *
  generalize dSum f ds 0 = p at *
  generalize dSum f ds 1 = q at *
  generalize dSum f ds 2 = r at *
  generalize sgn * dMsg ds = g at *
  generalize dNum sgn ds = nm at *
  have hk : (phi p q r - wph cor * (nm.natAbs : Int)) % 91 = 0 := by
    have e1 : wph (f.fmod 6) * (nm - 91 * g) = wph (f.fmod 6) * nm - 91 * (wph (f.fmod 6) * g) := by rw [Int.mul_sub, Int.mul_left_comm]
    rw [e1] at hS
    have hS' : (phi p q r - wph (f.fmod 6) * nm) % 91 = 0 := by omega
    unfold dFst at hf
    by_cases h0 : nm ≥ 0
    · rw [if_pos h0] at hf
      have e2 : f.fmod 6 = cor := by rw [← hf, Int.fmod_eq_emod_of_nonneg _ (by decide : (0:Int) ≤ 6)]; omega
      rw [e2] at hS'
      have e3 : (nm.natAbs : Int) = nm := by omega
      rw [e3]; exact hS'
    · rw [if_neg h0] at hf
      have h3 := wph_three c0 c1
      rw [hf] at h3
      have e3 : (nm.natAbs : Int) = - nm := by omega
      rw [e3, Int.mul_neg]
      obtain ⟨j, hj⟩ : ∃ j, wph (f.fmod 6) = 91 * j - wph cor := ⟨(wph (f.fmod 6) + wph cor) / 91, by omega⟩
      rw [hj, Int.sub_mul, Int.mul_assoc] at hS'
      omega
  exact ball_one hb (upto_nrm (dif_of s0.2 s1.1) (dif_of s1.2 s0.1) (dif_of s0.2 s2.1) (dif_of s2.2 s0.1) (dif_of s1.2 s2.1) (dif_of s2.2 s1.1) (by decide)) (dif91 hp (phi_nrm hk))
end Mine
end
section
open PySem PySem.W PyProof.Rows PySem.Calls PySem.Spec
set_option maxRecDepth 100000
set_option maxHeartbeats 2000000
namespace Mine
section
section
local macro_rules | `(tactic| walk_at "eval IfExp") => `(tactic| refine Stop.out ?_)
local macro_rules | `(tactic| walk_at "call type:enumerate") => `(tactic| refine Stop.out ?_)
local macro_rules | `(tactic| walk_at "eval ListComp") => `(tactic| ((with_reducible show wpAny _ _ (eval (Expr.ListComp _ [⟨Expr.Tuple _ _ _, _, _, _⟩] _ _) _) _ _ _); refine Stop.out ?_))
local macro_rules | `(tactic| walk_at "eval ListComp") => `(tactic| ((with_reducible show wpAny _ _ (eval (Expr.ListComp (Expr.Call _ _ _ _) _ _ _) _) _ _ _); refine Stop.out ?_))
local macro_rules | `(tactic| walk_at "exec Assign cons ListComp") => `(tactic| ((with_reducible show wpAny _ _ (exec (Stmt.Assign _ (Expr.ListComp (Expr.BinOp _ Operator.Add _ _) _ _ _) _) _) _ _ _); refine Stop.out ?_))
local macro_rules | `(tactic| walk_at "call ref") => `(tactic| refine Stop.out ?_)
local macro_rules | `(tactic| walk_at "call type:range") => `(tactic| ((with_reducible show wpAny _ _ (call _ [_, _, _]) _ _ _); refine Stop.out ?_))
local macro_rules | `(tactic| walk_at "call type:bytes") => `(tactic| refine Stop.out ?_)
local macro_rules | `(tactic| walk_at "subscriptTail") => `(tactic| ((with_reducible show wpAny _ _ (subscriptTail _ (Expr.Slice _ _ none _) (Value.bytes _ _) (Value.ref _)) _ _ _); refine Stop.out ?_))
local macro_rules | `(tactic| k_ne) => `(tactic| first | exact NeF.ne (by assumption) | exact NeF.sym (by assumption) | (refine neN ?_; (try dsimp only); omega))
local macro_rules | `(tactic| walk_at "CompSrc") => `(tactic| refine Stop.out ?_)
local macro_rules | `(tactic| walk_at "CompSrcT") => `(tactic| refine Stop.out ?_)
theorem tst : PySem.Challenge.rw_pg0044_01.Holds := hd (by
  w_top off
  k_go0
  all_goals try k_fold
  k_steps
  unfold Stop
  refine' cut_list ?F ?N ?first ?rest
  case F => k_asm
  case N => k_asm
  case first =>
    refine IfExp_ ?_
    k_steps
    · exact MidL.intro (vs := [_, _]) (by assumption) (by assumption) (fun p hp => List.mem_cons_of_mem _ hp) (.cons _ _ (.cons _ _ .nil)) (by decide) (by decide) ⟨by (dsimp only; omega), by (dsimp only; omega), by (dsimp only; omega), by (dsimp only; omega), trivial⟩
    · exact MidL.intro (by assumption) (by assumption) (fun p hp => List.mem_cons_of_mem _ hp) (by assumption) (take8_pos (by assumption)) take8_le ⟨by (dsimp only; omega), by (dsimp only; omega), by (dsimp only; omega), by (dsimp only; omega), trivial⟩
  case rest =>
    intro D vs ds k h tk F2 N2 hi h1 h8 od
    k_steps
    unfold Stop
    k_dflt (refine' ListComp_E ?a0 ?a1 ?a2 ?a3 ?a4 ?a5 ?a6 ?a7 ?a8 ?a9)
    case a0 => k_asm
    case a1 => with_unfolding_all rfl
    case a2 => decide
    case a3 => rfl
    case a4 => decide
    case a5 => rfl
    case a6 => rfl
    case a7 => decide
    case a9 => intro _; rfl
    case a8 =>
      k_steps
      unfold Stop
      k_dflt (refine' enum_call (fun i n => (n.fdiv 37).fmod 4096 * 4096 ^ i) ?b0 ?b1 ?b2 ?b3 hi (by omega) ?b4 ?b5)
      case b0 => rfl
      case b1 => k_asm
      case b2 => k_asm
      case b3 => k_mem
      case b4 =>
        intro i n t t₂ I oI J oJ C oC D ys m₂ h tk E' hn hC hx hx2 F' N'
        have hi8 : i < ds.length := by
          rcases Nat.lt_or_ge i ds.length with h' | h'
          · exact h'
          · rw [List.getElem?_eq_none h'] at hn; cases hn
        k_steps
        exact ElEnd.intro (by assumption) (by assumption) (fun p hp => hp) ⟨_, rfl⟩
      case b5 =>
        intro ys D2 h tk hys F' N' od2
        k_steps
        unfold Stop
        refine' cut_int (fun z => z = 1 ∨ z = -1) ?F ?N ?first ?rest
        case F => k_asm
        case N => k_asm
        case first =>
          refine IfExp_ ?_
          k_steps
          all_goals exact MidI.intro (by assumption) (by assumption) (fun p hp => hp) (by decide)
        case rest =>
          intro sgn ts h tk F' N' hsgn
          simp only [LCg.Off1, and_true, neF_iff] at od od2
          repeat (obtain ⟨_, od⟩ := od)
          repeat (obtain ⟨_, od2⟩ := od2)
          k_steps
          unfold Stop
          k_dflt (refine' srcI_A (ns := ds.take 5) (·.fmod 37) ?c0 ?c1 ?c2 ?c3 ?c4 ?c5 ?c6 ?c7)
          case c0 => rfl
          case c1 => k_asm
          case c2 => k_asm
          case c3 => k_mem
          case c4 => assumption
          case c5 => omega
          case c6 =>
            intro n t I oI C oC D ys m₂ h tk E' hn hC hx F' N' off ne
            k_steps
            exact ElEnd.intro (by assumption) (by assumption) (fun p hp => hp) ⟨_, rfl⟩
          case c7 =>
            intro ys3 D3 h tk hys3 F' N' od3
            simp only [LCg.Off1, and_true, neF_iff] at od3
            repeat (obtain ⟨_, od3⟩ := od3)
            k_steps
            unfold Stop
            k_dflt (refine' srcT_A (ns := dWays ds) qPut (· - 1) ?c0 ?c1 ?c2 ?c3 ?c4 ?c5 ?c6 ?c7)
            case c0 => rfl
            case c1 => k_asm
            case c2 => k_asm
            case c3 => k_mem
            case c4 => exact hys3
            case c5 => have := dWays_len ds; omega
            case c6 =>
              intro n t I oI C oC D ys m₂ h tk E' hn hC hx F' N' off ne
              k_steps
              all_goals first
                | exact ElEnd.intro (by assumption) (by assumption) (fun p hp => hp) ⟨⟨_, rfl⟩, by unfold qPut; simp only [Bool.and_eq_true, decide_eq_true_eq]; omega⟩
                | exact ElEnd.intro (by assumption) (by assumption) (fun p hp => hp) (by unfold qPut; simp only [Bool.and_eq_false_iff, decide_eq_false_iff_not]; omega)
            case c7 =>
              intro ys4 D4 h tk hys4 F' N' od4
              simp only [LCg.Off1, and_true, neF_iff] at od4
              repeat (obtain ⟨_, od4⟩ := od4)
              k_steps
              unfold Stop
              k_dflt (refine' srcT_A (ns := dWays ds) qTak (· - 19) ?c0 ?c1 ?c2 ?c3 ?c4 ?c5 ?c6 ?c7)
              case c0 => rfl
              case c1 => k_asm
              case c2 => k_asm
              case c3 => k_mem
              case c4 => exact hys3
              case c5 => have := dWays_len ds; omega
              case c6 =>
                intro n t I oI C oC D ys m₂ h tk E' hn hC hx F' N' off ne
                k_steps
                all_goals first
                  | exact ElEnd.intro (by assumption) (by assumption) (fun p hp => hp) ⟨⟨_, rfl⟩, by unfold qTak; simp only [decide_eq_true_eq]; omega⟩
                  | exact ElEnd.intro (by assumption) (by assumption) (fun p hp => hp) (by unfold qTak; simp only [decide_eq_false_iff_not]; omega)
              case c7 =>
                intro ys5 D5 h tk hys5 F' N' od5
                simp only [LCg.Off1, and_true, neF_iff] at od5
                repeat (obtain ⟨_, od5⟩ := od5)
                have hput : IntsAre ys4 (dPut ds) := hys4
                have htak : IntsAre ys5 (dTak ds) := hys5
                have hpl := dPut_len ds
                have htl := dTak_len ds
                k_steps
                unfold Stop
                k_dflt (refine' srcI_E (ns := dPut ds) (fun n => 16 ^ n.toNat) ?c0 ?c1 ?c2 ?c3 ?c4 ?c5 ?c6 ?c7)
                case c0 => rfl
                case c1 => k_asm
                case c2 => k_asm
                case c3 => k_mem
                case c4 => exact hput
                case c5 => omega
                case c6 =>
                  intro n t I oI C oC D ys m₂ h tk E' hn hC hx F' N' off ne
                  have hb := dPut_bnd hn
                  k_steps
                  exact ElEnd.intro (by assumption) (by assumption) (fun p hp => hp) ⟨_, rfl⟩
                case c7 =>
                  intro ys6 D6 h tk hys6 F' N' od6
                  simp only [LCg.Off1, and_true, neF_iff] at od6
                  repeat (obtain ⟨_, od6⟩ := od6)
                  k_steps
                  unfold Stop
                  k_dflt (refine' srcI_E (ns := dTak ds) (fun n => 16 ^ n.toNat) ?c0 ?c1 ?c2 ?c3 ?c4 ?c5 ?c6 ?c7)
                  case c0 => rfl
                  case c1 => k_asm
                  case c2 => k_asm
                  case c3 => k_mem
                  case c4 => exact htak
                  case c5 => omega
                  case c6 =>
                    intro n t I oI C oC D ys m₂ h tk E' hn hC hx F' N' off ne
                    have hb := dTak_bnd hn
                    k_steps
                    exact ElEnd.intro (by assumption) (by assumption) (fun p hp => hp) ⟨_, rfl⟩
                  case c7 =>
                    intro ys7 D7 h tk hys7 F' N' od7
                    simp only [LCg.Off1, and_true, neF_iff] at od7
                    repeat (obtain ⟨_, od7⟩ := od7)
                    k_steps
                    unfold Stop
                    have hc6 := fmod6 ds.sum
                    have hw12 := fmod12 (ds.sum.fdiv 6)
                    have hnm : 91 * sgn * (List.mapIdx (fun i n => (n.fdiv 37).fmod 4096 * 4096 ^ i) ds).sum + (List.map (fun n => 16 ^ n.toNat) (dPut ds)).sum - (List.map (fun n => 16 ^ n.toNat) (dTak ds)).sum = dNum sgn ds := rfl
                    rename Fr _ _ _ _ => FW
                    rw [hnm] at FW
                    clear hnm
                    generalize hnm : dNum sgn ds = nm at FW
                    generalize hco : ds.sum.fmod 6 = cor at FW hc6
                    generalize hwh : (ds.sum.fdiv 6).fmod 12 = wh at FW hw12
                    refine' cut_int (fun z => z = dFst nm cor) ?F ?N ?first ?rest
                    case F => k_asm
                    case N => k_asm
                    case first =>
                      refine IfExp_ ?_
                      k_steps
                      all_goals exact MidI.intro (by assumption) (by assumption) (fun p hp => hp) (by unfold dFst; first | rw [if_pos (by assumption)] | rw [if_neg (by omega)])
                    case rest =>
                      rintro fst tf h tk F' N' hfst
                      k_steps
                      unfold Stop
                      k_dflt (refine' srcI_E (ns := dPut ds) (fun n => (fst + 2 * n).fmod 6) ?c0 ?c1 ?c2 ?c3 ?c4 ?c5 ?c6 ?c7)
                      case c0 => rfl
                      case c1 => k_asm
                      case c2 => k_asm
                      case c3 => k_mem
                      case c4 => exact hput
                      case c5 => omega
                      case c6 =>
                        intro n t I oI C oC D ys m₂ h tk E' hn hC hx F' N' off ne
                        have hb := dPut_bnd hn
                        k_steps
                        exact ElEnd.intro (by assumption) (by assumption) (fun p hp => hp) ⟨_, rfl⟩
                      case c7 =>
                        intro ys8 D8 h tk hys8 F' N' od8
                        simp only [LCg.Off1, and_true, neF_iff] at od8
                        repeat (obtain ⟨_, od8⟩ := od8)
                        k_steps
                        unfold Stop
                        k_dflt (refine' srcI_E (ns := dTak ds) (fun n => (fst + 2 * n + 3).fmod 6) ?c0 ?c1 ?c2 ?c3 ?c4 ?c5 ?c6 ?c7)
                        case c0 => rfl
                        case c1 => k_asm
                        case c2 => k_asm
                        case c3 => k_mem
                        case c4 => exact htak
                        case c5 => omega
                        case c6 =>
                          intro n t I oI C oC D ys m₂ h tk E' hn hC hx F' N' off ne
                          have hb := dTak_bnd hn
                          k_steps
                          exact ElEnd.intro (by assumption) (by assumption) (fun p hp => hp) ⟨_, rfl⟩
                        case c7 =>
                          intro ys9 D9 h tk hys9 F' N' od9
                          simp only [LCg.Off1, and_true, neF_iff] at od9
                          repeat (obtain ⟨_, od9⟩ := od9)
                          k_steps
                          unfold Stop
                          rename IntsAre _ ((dPut ds).map _ ++ (dTak ds).map _) => hcr
                          have hcr : IntsAre _ (dCor fst ds) := hcr
                          have hcl := dCor_len fst ds
                          k_dflt (refine' ListComp_C ?a0 ?a1 ?a2 ?a3 ?a4 ?a5 ?a6 ?a7)
                          case a0 => k_asm
                          case a1 => with_unfolding_all rfl
                          case a2 => rfl
                          case a3 => with_unfolding_all rfl
                          case a4 => decide
                          case a5 => intro _ _; rfl
                          case a7 => intro _; rfl
                          case a6 =>
                            k_steps
                            k_dflt (refine' CellSrc.intro (n := 3) (dSum fst ds) ?k0 ?k1 ?k2 ?k3 ?k4 ?k5 ?k6 ?k7 ?k8)
                            case k0 => rfl
                            case k1 => k_asm
                            case k2 => k_asm
                            case k3 => assumption
                            case k4 => decide
                            case k5 => rfl
                            case k6 => decide
                            case k7 =>
                              intro i t I oI C oC K oK D ys h tk E' hi hK F' N' offs ne
                              have hi3 : i = 0 ∨ i = 1 ∨ i = 2 := by omega
                              rcases hi3 with rfl | rfl | rfl
                              all_goals k_steps
                              all_goals unfold Stop
                              · k_dflt (refine' srcI_E (ns := dCor fst ds) (fun c => whl c 0) ?c0 ?c1 ?c2 ?c3 hcr ?c5 ?c6 ?c7)
                                case c0 => rfl
                                case c1 => k_asm
                                case c2 => k_asm
                                case c3 => k_mem
                                case c5 => omega
                                case c6 =>
                                  intro n t I oI C oC D ys m₂ h tk E' hn hC hx F' N' off ne
                                  have hb := dCor_bnd hn
                                  have hb6 : n = 0 ∨ n = 1 ∨ n = 2 ∨ n = 3 ∨ n = 4 ∨ n = 5 := by omega
                                  rcases hb6 with rfl | rfl | rfl | rfl | rfl | rfl
                                  all_goals k_steps
                                  all_goals exact ElEnd.intro (by assumption) (by assumption) (fun p hp => hp) ⟨_, rfl⟩
                                case c7 =>
                                  intro ysB DB h tk hysB F' N' odB
                                  k_steps
                                  exact ElEnd.intro (by assumption) (by assumption) (fun p hp => List.mem_cons_of_mem _ hp) ⟨_, rfl⟩
                              · k_dflt (refine' srcI_E (ns := dCor fst ds) (fun c => whl c 1) ?c0 ?c1 ?c2 ?c3 hcr ?c5 ?c6 ?c7)
                                case c0 => rfl
                                case c1 => k_asm
                                case c2 => k_asm
                                case c3 => k_mem
                                case c5 => omega
                                case c6 =>
                                  intro n t I oI C oC D ys m₂ h tk E' hn hC hx F' N' off ne
                                  have hb := dCor_bnd hn
                                  have hb6 : n = 0 ∨ n = 1 ∨ n = 2 ∨ n = 3 ∨ n = 4 ∨ n = 5 := by omega
                                  rcases hb6 with rfl | rfl | rfl | rfl | rfl | rfl
                                  all_goals k_steps
                                  all_goals exact ElEnd.intro (by assumption) (by assumption) (fun p hp => hp) ⟨_, rfl⟩
                                case c7 =>
                                  intro ysB DB h tk hysB F' N' odB
                                  k_steps
                                  exact ElEnd.intro (by assumption) (by assumption) (fun p hp => List.mem_cons_of_mem _ hp) ⟨_, rfl⟩
                              · k_dflt (refine' srcI_E (ns := dCor fst ds) (fun c => whl c 2) ?c0 ?c1 ?c2 ?c3 hcr ?c5 ?c6 ?c7)
                                case c0 => rfl
                                case c1 => k_asm
                                case c2 => k_asm
                                case c3 => k_mem
                                case c5 => omega
                                case c6 =>
                                  intro n t I oI C oC D ys m₂ h tk E' hn hC hx F' N' off ne
                                  have hb := dCor_bnd hn
                                  have hb6 : n = 0 ∨ n = 1 ∨ n = 2 ∨ n = 3 ∨ n = 4 ∨ n = 5 := by omega
                                  rcases hb6 with rfl | rfl | rfl | rfl | rfl | rfl
                                  all_goals k_steps
                                  all_goals exact ElEnd.intro (by assumption) (by assumption) (fun p hp => hp) ⟨_, rfl⟩
                                case c7 =>
                                  intro ysB DB h tk hysB F' N' odB
                                  k_steps
                                  exact ElEnd.intro (by assumption) (by assumption) (fun p hp => List.mem_cons_of_mem _ hp) ⟨_, rfl⟩
                            case k8 =>
                              intro ysA DA h tk hysA F' N' odA
                              simp only [LCg.Off1, and_true, neF_iff] at odA
                              repeat (obtain ⟨_, odA⟩ := odA)
                              obtain ⟨tA, uA, vA, rfl⟩ := ints_three hysA
                              have hal : (apW nm.natAbs).length ≤ 40 := by rw [← hnm]; exact apW_len hsgn h8
                              k_steps
                              unfold Stop
                              k_dflt (refine' Does.use (on_does _ _ _ _ _ _ _ _ _ _ _ _ ?ok) ?k1 ?k2 ?k3 ?k4 ?k5 ?kK ?kd ?ku ?_; (case k1 => k_asm); (case k2 => k_asm); (case k3 => k_asm); (case k4 => k_asm); (case k5 => k_asm); (case kK => first | exact rfl | assumption); (case kd => ktr_room); (case ku => ktr_units); (case ok => k_mem))
                              intro _ _ _ _ Fz Nz lz hRz
                              obtain ⟨_, _, _, _, e1z, e2z⟩ := hRz
                              subst e1z e2z
                              have oz := off1_of lz
                              clear lz
                              simp only [LCg.Off1, and_true, neF_iff] at oz
                              repeat (obtain ⟨_, oz⟩ := oz)
                              simp only [List.cons_append, List.nil_append] at Nz
                              try k_sweep
                              try dsimp only
                              k_steps
                              unfold Stop
                              k_dflt (refine' Does.use (ap_does _ _ _ _ ?ok) ?k1 ?k2 ?k3 ?k4 ?k5 ?kK ?kd ?ku ?_; (case k1 => k_asm); (case k2 => k_asm); (case k3 => k_asm); (case k4 => k_asm); (case k5 => k_asm); (case kK => first | exact rfl | assumption); (case kd => ktr_room); (case ku => ktr_units); (case ok => assumption))
                              intro _ _ _ _ Fz Nz lz hRz
                              obtain ⟨_, e1z, e2z⟩ := hRz
                              subst e1z e2z
                              clear lz
                              simp only [List.nil_append] at Nz
                              try k_sweep
                              try dsimp only
                              k_steps
                              unfold Stop
                              have habs : (if nm < 0 then -nm else nm) = (nm.natAbs : Int) := by split <;> omega
                              rename _ = Data.cell (some (Value.int (ite _ _ _) _)) => dSz
                              rw [habs] at dSz
                              k_dflt (refine' Assign_ListComp_RS ?a0 ?a1 ?a2 ?a3 ?a4 ?a5 ?a6 ?a7 ?a8 ?a9 ?aa ?ab)
                              case a0 => k_asm
                              case a1 => rfl
                              case a2 => with_unfolding_all rfl
                              case a3 => with_unfolding_all rfl
                              case a4 => decide
                              case a5 => rfl
                              case a6 => decide
                              case a7 => rfl
                              case a8 => rfl
                              case a9 => rfl
                              case ab => intro _; rfl
                              case aa =>
                                k_steps
                                unfold Stop
                                rename Fr _ _ _ _ => FW
                                rename News _ _ _ _ => NW
                                refine range3_rows FW NW (by decide) ?_ (Or.inl (PyProof.noPylong_small (by decide)))
                                clear FW NW
                                intro hr9 tkr tr1 tr2 tr3 hrng F' N' hkeep
                                k_dflt (refine' RngSrcA.intro (n := (apW nm.natAbs).length) (fun i => 65 + ((nm.natAbs : Int).fdiv (16 ^ (((apW nm.natAbs).toArray.size : Int) - 1 + (i : Int) * (-1)).toNat)).fmod 16) ?k0 ?k1 ?k2 hrng ?k4 ?k5 ?k6 ?k7 ?k8)
                                case k0 => rfl
                                case k1 => k_asm
                                case k2 => k_asm
                                case k4 => exact rng_small hal
                                case k5 => exact rng_size _
                                case k6 => omega
                                case k7 =>
                                  rintro i v I oI C oC D ys m₂ h tk E' hi ⟨t, rfl⟩ hC hx F' N' off ne
                                  have hsz9 : (apW nm.natAbs).toArray.size = (apW nm.natAbs).length := List.size_toArray
                                  k_steps
                                  · exfalso
                                    exact pow16 _ (by assumption)
                                  · exact ElEnd.intro (by assumption) (by assumption) (fun p hp => hp) ⟨_, rfl⟩
                                case k8 =>
                                  intro ysF DF h tk hysF F' N' odF
                                  simp only [LCg.Off1, and_true, neF_iff] at odF
                                  repeat (obtain ⟨_, odF⟩ := odF)
                                  have hfg : IntsAre ysF (figs nm.natAbs) := hysF
                                  k_steps
                                  unfold Stop
                                  rename Fr _ _ _ _ => FW
                                  rename News _ _ _ _ => NW
                                  refine KBa.make_K FW NW rfl (News.isList NW (List.mem_cons_self ..)) hfg (figs_in _) (by have h9 := hfg.length; unfold figs; rw [List.length_map, List.length_range]; omega) ?_
                                  clear FW NW
                                  intro hB tB kB F' N' _
                                  rw [apW_figs]
                                  have hlt9 := apW_lt nm.natAbs
                                  k_steps
                                  unfold Stop
                                  rename Fr _ _ _ _ => FW
                                  rename News _ _ _ _ => NW
                                  refine KBc.slice_K (s := ⟨_, _, _, _, _⟩) FW NW rfl (by constructor) (by constructor) (by rw [KBw.ints_length, List.size_toArray]; omega) ?_
                                  intro h5 t5 k5 F5 N5 _
                                  clear FW NW
                                  have hhd := apW_head nm.natAbs
                                  k_steps
                                  unfold Stop
                                  k_dflt (refine' Does.use (read_does _ _ _ _ _ _ _ _ hc6.1 hc6.2 hw12.1 hw12.2 (apW_bnd _)) ?k1 ?k2 ?k3 ?k4 ?k5 ?kK ?kd ?ku ?_; (case k1 => k_asm); (case k2 => k_asm); (case k3 => k_asm); (case k4 => k_asm); (case k5 => k_asm); (case kK => first | exact rfl | assumption); (case kd => ktr_room); (case ku => ktr_units))
                                  rintro rv tl hE tkE F' N' lE ⟨DE, x, y, z, ea, eb, ec, rfl, hup, hcg, rfl⟩
                                  rw [apW_horn, ← hnm] at hcg
                                  obtain ⟨ex, ey, ez⟩ := due_is hc6.1 hc6.2 hup hcg
                                  rw [hnm, ← hfst] at ex ey ez
                                  simp only [List.cons_append, List.nil_append] at N'
                                  rw [ex, ey, ez] at N'
                                  k_steps)
end
end
end Mine
end
theorem PySem.Challenge.cw_pg0044_01_holds : PySem.Challenge.rw_pg0044_01.Holds :=
  Mine.tst

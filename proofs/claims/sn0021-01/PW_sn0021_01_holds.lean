import PyProof.Rows.All
import Wide.All
import OpenK.AllK
import Wide.FinOn
import PyProof.FactsAll.float_2
import PySem.Challenge.RW_sn0021_01
open PySem PySem.W PyProof.Rows
set_option Elab.async false
set_option maxRecDepth 100000
set_option maxHeartbeats 40000000
set_option rowWalk.seconds 0
open_top hd1 for PySem.Challenge.rw_sn0021_01
open PySem.Flt PySem.Calls
theorem Mine.offNow : True := by
  w_top off
  trivial
namespace Mine

section
variable {prog : Program} {w : World} {A : Around} {E : Value → Shared → Prop} {s : Shared} {Q : Value → Shared → Prop}
def fMax (x y z : UInt64) : UInt64 := if Float64.cmp x y == some .lt then (if Float64.cmp y z == some .lt then z else y) else (if Float64.cmp x z == some .lt then z else x)
def fMin (x y z : UInt64) : UInt64 := if Float64.cmp y x == some .lt then (if Float64.cmp z y == some .lt then z else y) else (if Float64.cmp z x == some .lt then z else x)

theorem max3_num {a b c : Value} (hh : A.handled = none) (ha : NumV a) (hb : NumV b) (hc : NumV c)
    (h : ∀ h' tk, (∀ c o, s.heap.get? c = some o → h'.get? c = some o) → Q (if ltV a b then (if ltV b c then c else b) else (if ltV a c then c else a)) { s with heap := h', toks := tk }) :
    wpAny (model prog w) A (call (.builtin "max") [a, b, c]) Q E s := by
  have hT : (s.heap.push { cls := .type "tuple", data := .seq #[a, b, c] }).IsTuple s.heap.objs.size #[a, b, c] := ⟨_, Heap.get?_push_size _ rfl, rfl, 0, rfl⟩
  refine call_max_three (wpAny_pyIter_tuple hT ?_)
  have hsz : (s.heap.push { cls := .type "tuple", data := .seq #[a, b, c] }).objs.size = s.heap.objs.size + 1 := Heap.size_push ..
  refine ⟨_, [_, s.heap.objs.size], [_], _, _, _, _, rfl, Walks.tuple (A := A.in1) hh _ s.heap.objs.size (by rw [hsz]; exact Nat.ne_of_lt (Nat.lt_succ_self _)) #[a, b, c],
    ⟨⟨_, Heap.get?_push_size _ rfl, rfl, rfl⟩, hT.push _⟩, fun c hc => ?_, by simp, cmpOf_gt #[a, b, c] (by simp [ha, hb, hc]), fun v h' tk hP hk => ?_⟩
  · show c < ((s.heap.push _).push _).objs.size
    rw [Heap.size_push, hsz]
    rcases List.mem_cons.mp hc with rfl | hc
    · rw [hsz]; exact Nat.lt_succ_self _
    · rcases List.mem_cons.mp hc with rfl | hc
      · exact Nat.lt_succ_of_lt (Nat.lt_succ_self _)
      · cases hc
  · have hold : ∀ c o, s.heap.get? c = some o → h'.get? c = some o := fun c o e => by
      refine hk c o (fun hm => ?_) (Heap.get?_push_of_some _ (Heap.get?_push_of_some _ e))
      rcases List.mem_cons.mp hm with e1 | hm
      · have := Heap.lt_size e; rw [e1, hsz] at this; exact Nat.lt_irrefl _ (Nat.lt_of_succ_lt this)
      · cases hm
    have := h h' tk hold
    have hv : v = if ltV a b then (if ltV b c then c else b) else (if ltV a c then c else a) := by
      cases h1 : ltV a b <;> cases h2 : ltV b c <;> cases h3 : ltV a c <;> simp [argBest, h1, h2, h3] at hP <;> simp [hP]
    rw [hv]; exact this
theorem min3_num {a b c : Value} (hh : A.handled = none) (ha : NumV a) (hb : NumV b) (hc : NumV c)
    (h : ∀ h' tk, (∀ c o, s.heap.get? c = some o → h'.get? c = some o) → Q (if ltV b a then (if ltV c b then c else b) else (if ltV c a then c else a)) { s with heap := h', toks := tk }) :
    wpAny (model prog w) A (call (.builtin "min") [a, b, c]) Q E s := by
  have hT : (s.heap.push { cls := .type "tuple", data := .seq #[a, b, c] }).IsTuple s.heap.objs.size #[a, b, c] := ⟨_, Heap.get?_push_size _ rfl, rfl, 0, rfl⟩
  refine call_min_three (wpAny_pyIter_tuple hT ?_)
  have hsz : (s.heap.push { cls := .type "tuple", data := .seq #[a, b, c] }).objs.size = s.heap.objs.size + 1 := Heap.size_push ..
  refine ⟨_, [_, s.heap.objs.size], [_], _, _, _, _, rfl, Walks.tuple (A := A.in1) hh _ s.heap.objs.size (by rw [hsz]; exact Nat.ne_of_lt (Nat.lt_succ_self _)) #[a, b, c],
    ⟨⟨_, Heap.get?_push_size _ rfl, rfl, rfl⟩, hT.push _⟩, fun c hc => ?_, by simp, cmpOf_lt #[a, b, c] (by simp [ha, hb, hc]), fun v h' tk hP hk => ?_⟩
  · show c < ((s.heap.push _).push _).objs.size
    rw [Heap.size_push, hsz]
    rcases List.mem_cons.mp hc with rfl | hc
    · rw [hsz]; exact Nat.lt_succ_self _
    · rcases List.mem_cons.mp hc with rfl | hc
      · exact Nat.lt_succ_of_lt (Nat.lt_succ_self _)
      · cases hc
  · have hold : ∀ c o, s.heap.get? c = some o → h'.get? c = some o := fun c o e => by
      refine hk c o (fun hm => ?_) (Heap.get?_push_of_some _ (Heap.get?_push_of_some _ e))
      rcases List.mem_cons.mp hm with e1 | hm
      · have := Heap.lt_size e; rw [e1, hsz] at this; exact Nat.lt_irrefl _ (Nat.lt_of_succ_lt this)
      · cases hm
    have := h h' tk hold
    have hv : v = if ltV b a then (if ltV c b then c else b) else (if ltV c a then c else a) := by
      cases h1 : ltV b a <;> cases h2 : ltV c b <;> cases h3 : ltV c a <;> simp [argBest, h1, h2, h3] at hP <;> simp [hP]
    rw [hv]; exact this
theorem max3_f {x y z : UInt64} {t u v : Tok} {h₀ : Heap} {L : Addr} {m : Str → Option Value} {news : List (Addr × Obj)}
    (hh : A.handled = none) (F : Fr h₀ L s.heap m) (N : News h₀ L s.heap news)
    (h : ∀ h' tk v, Fr h₀ L h' m → News h₀ L h' news → Q (.float (fMax x y z) v) { s with heap := h', toks := tk }) :
    wpAny (model prog w) A (call (.builtin "max") [.float x t, .float y u, .float z v]) Q E s :=
  max3_num hh (.float x t) (.float y u) (.float z v) fun h' tk kp => by
    have := h h' tk
    simp only [fMax] at this
    by_cases h1 : (Float64.cmp x y == some .lt) = true
    · have g1 : ltV (.float x t) (.float y u) = true := h1
      rw [if_pos h1] at this; rw [if_pos g1]
      by_cases h2 : (Float64.cmp y z == some .lt) = true
      · have g2 : ltV (.float y u) (.float z v) = true := h2
        rw [if_pos h2] at this; rw [if_pos g2]; exact this _ (F.grownK kp) (N.grown kp)
      · have g2 : ltV (.float y u) (.float z v) = false := Bool.eq_false_iff.mpr h2
        rw [if_neg h2] at this; rw [if_neg (by rw [g2]; exact Bool.false_ne_true)]; exact this _ (F.grownK kp) (N.grown kp)
    · have g1 : ltV (.float x t) (.float y u) = false := Bool.eq_false_iff.mpr h1
      rw [if_neg h1] at this; rw [if_neg (by rw [g1]; exact Bool.false_ne_true)]
      by_cases h2 : (Float64.cmp x z == some .lt) = true
      · have g2 : ltV (.float x t) (.float z v) = true := h2
        rw [if_pos h2] at this; rw [if_pos g2]; exact this _ (F.grownK kp) (N.grown kp)
      · have g2 : ltV (.float x t) (.float z v) = false := Bool.eq_false_iff.mpr h2
        rw [if_neg h2] at this; rw [if_neg (by rw [g2]; exact Bool.false_ne_true)]; exact this _ (F.grownK kp) (N.grown kp)
theorem min3_f {x y z : UInt64} {t u v : Tok} {h₀ : Heap} {L : Addr} {m : Str → Option Value} {news : List (Addr × Obj)}
    (hh : A.handled = none) (F : Fr h₀ L s.heap m) (N : News h₀ L s.heap news)
    (h : ∀ h' tk v, Fr h₀ L h' m → News h₀ L h' news → Q (.float (fMin x y z) v) { s with heap := h', toks := tk }) :
    wpAny (model prog w) A (call (.builtin "min") [.float x t, .float y u, .float z v]) Q E s :=
  min3_num hh (.float x t) (.float y u) (.float z v) fun h' tk kp => by
    have := h h' tk
    simp only [fMin] at this
    by_cases h1 : (Float64.cmp y x == some .lt) = true
    · have g1 : ltV (.float y u) (.float x t) = true := h1
      rw [if_pos h1] at this; rw [if_pos g1]
      by_cases h2 : (Float64.cmp z y == some .lt) = true
      · have g2 : ltV (.float z v) (.float y u) = true := h2
        rw [if_pos h2] at this; rw [if_pos g2]; exact this _ (F.grownK kp) (N.grown kp)
      · have g2 : ltV (.float z v) (.float y u) = false := Bool.eq_false_iff.mpr h2
        rw [if_neg h2] at this; rw [if_neg (by rw [g2]; exact Bool.false_ne_true)]; exact this _ (F.grownK kp) (N.grown kp)
    · have g1 : ltV (.float y u) (.float x t) = false := Bool.eq_false_iff.mpr h1
      rw [if_neg h1] at this; rw [if_neg (by rw [g1]; exact Bool.false_ne_true)]
      by_cases h2 : (Float64.cmp z x == some .lt) = true
      · have g2 : ltV (.float z v) (.float x t) = true := h2
        rw [if_pos h2] at this; rw [if_pos g2]; exact this _ (F.grownK kp) (N.grown kp)
      · have g2 : ltV (.float z v) (.float x t) = false := Bool.eq_false_iff.mpr h2
        rw [if_neg h2] at this; rw [if_neg (by rw [g2]; exact Bool.false_ne_true)]; exact this _ (F.grownK kp) (N.grown kp)
end
local macro_rules | `(tactic| walk_at "call builtin:max") => `(tactic| (k_here; (with_reducible show wpAny _ _ (call _ [Value.float _ _, Value.float _ _, Value.float _ _]) _ _ _); (rename News _ _ _ _ => N'); (rename Fr _ _ _ _ => F'); refine max3_f rfl F' N' ?_; clear N'; intro _ _ _ _ _))
local macro_rules | `(tactic| walk_at "call builtin:min") => `(tactic| (k_here; (with_reducible show wpAny _ _ (call _ [Value.float _ _, Value.float _ _, Value.float _ _]) _ _ _); (rename News _ _ _ _ => N'); (rename Fr _ _ _ _ => F'); refine min3_f rfl F' N' ?_; clear N'; intro _ _ _ _ _))


abbrev tup3 (r : UInt64) (t1 : Tok) (g : UInt64) (t2 : Tok) (b : UInt64) (t3 : Tok) : Obj := { cls := .type "tuple", data := .seq #[.float r t1, .float g t2, .float b t3] }

def hsvI (x : UInt64) : Int := Flt.toInt Float64.truncOf (Float64.mul x 4618441417868443648)
def hsvOk (x y : UInt64) : Bool := (Float64.cmp y 0 == some .eq) || (!Float64.isNaN (Float64.mul x 4618441417868443648) && (!Float64.isInf (Float64.mul x 4618441417868443648) && decide ((hsvI x).natAbs < 2 ^ 1024 - 2 ^ 970)))
theorem hsvOk_at {x y : UInt64} (ok : hsvOk x y = true) (h : (Float64.cmp y 0 == some .eq) = false) : Float64.isNaN (Float64.mul x 4618441417868443648) = false ∧ Float64.isInf (Float64.mul x 4618441417868443648) = false ∧ (hsvI x).natAbs < 2 ^ 1024 - 2 ^ 970 := by
  unfold hsvOk at ok
  rw [h, Bool.false_or, Bool.and_eq_true, Bool.and_eq_true, Bool.not_eq_true', Bool.not_eq_true'] at ok
  exact ⟨ok.1, ok.2.1, of_decide_eq_true ok.2.2⟩
def hsvF (x y z : UInt64) : UInt64 × UInt64 × UInt64 :=
  if (Float64.cmp y 0 == some .eq) = true then (z, z, z) else
  if (hsvI x).fmod 6 = 0 then (z, Float64.mul z (Float64.sub 4607182418800017408 (Float64.mul y (Float64.sub 4607182418800017408 (Float64.sub (Float64.mul x 4618441417868443648) (Float64.ofInt (hsvI x)))))), Float64.mul z (Float64.sub 4607182418800017408 y)) else
  if (hsvI x).fmod 6 = 1 then (Float64.mul z (Float64.sub 4607182418800017408 (Float64.mul y (Float64.sub (Float64.mul x 4618441417868443648) (Float64.ofInt (hsvI x))))), z, Float64.mul z (Float64.sub 4607182418800017408 y)) else
  if (hsvI x).fmod 6 = 2 then (Float64.mul z (Float64.sub 4607182418800017408 y), z, Float64.mul z (Float64.sub 4607182418800017408 (Float64.mul y (Float64.sub 4607182418800017408 (Float64.sub (Float64.mul x 4618441417868443648) (Float64.ofInt (hsvI x))))))) else
  if (hsvI x).fmod 6 = 3 then (Float64.mul z (Float64.sub 4607182418800017408 y), Float64.mul z (Float64.sub 4607182418800017408 (Float64.mul y (Float64.sub (Float64.mul x 4618441417868443648) (Float64.ofInt (hsvI x))))), z) else
  if (hsvI x).fmod 6 = 4 then (Float64.mul z (Float64.sub 4607182418800017408 (Float64.mul y (Float64.sub 4607182418800017408 (Float64.sub (Float64.mul x 4618441417868443648) (Float64.ofInt (hsvI x)))))), Float64.mul z (Float64.sub 4607182418800017408 y), z) else
  (z, Float64.mul z (Float64.sub 4607182418800017408 y), Float64.mul z (Float64.sub 4607182418800017408 (Float64.mul y (Float64.sub (Float64.mul x 4618441417868443648) (Float64.ofInt (hsvI x))))))

theorem hsvF_s {x y z : UInt64} (h : (Float64.cmp y 0 == some .eq) = true) : hsvF x y z = (z, z, z) := by
  unfold hsvF; rw [if_pos h]
section
variable {x y z : UInt64} (h : (Float64.cmp y 0 == some .eq) = false)
include h
theorem hsvF_0 (h0 : (hsvI x).fmod 6 = 0) : hsvF x y z = (z, Float64.mul z (Float64.sub 4607182418800017408 (Float64.mul y (Float64.sub 4607182418800017408 (Float64.sub (Float64.mul x 4618441417868443648) (Float64.ofInt (hsvI x)))))), Float64.mul z (Float64.sub 4607182418800017408 y)) := by
  unfold hsvF; rw [if_neg (by rw [h]; exact Bool.false_ne_true), if_pos h0]
theorem hsvF_1 (h1 : (hsvI x).fmod 6 = 1) : hsvF x y z = (Float64.mul z (Float64.sub 4607182418800017408 (Float64.mul y (Float64.sub (Float64.mul x 4618441417868443648) (Float64.ofInt (hsvI x))))), z, Float64.mul z (Float64.sub 4607182418800017408 y)) := by
  unfold hsvF; rw [if_neg (by rw [h]; exact Bool.false_ne_true), if_neg (by rw [h1]; decide), if_pos h1]
theorem hsvF_2 (h1 : (hsvI x).fmod 6 = 2) : hsvF x y z = (Float64.mul z (Float64.sub 4607182418800017408 y), z, Float64.mul z (Float64.sub 4607182418800017408 (Float64.mul y (Float64.sub 4607182418800017408 (Float64.sub (Float64.mul x 4618441417868443648) (Float64.ofInt (hsvI x))))))) := by
  unfold hsvF; rw [if_neg (by rw [h]; exact Bool.false_ne_true), if_neg (by rw [h1]; decide), if_neg (by rw [h1]; decide), if_pos h1]
theorem hsvF_3 (h1 : (hsvI x).fmod 6 = 3) : hsvF x y z = (Float64.mul z (Float64.sub 4607182418800017408 y), Float64.mul z (Float64.sub 4607182418800017408 (Float64.mul y (Float64.sub (Float64.mul x 4618441417868443648) (Float64.ofInt (hsvI x))))), z) := by
  unfold hsvF; rw [if_neg (by rw [h]; exact Bool.false_ne_true), if_neg (by rw [h1]; decide), if_neg (by rw [h1]; decide), if_neg (by rw [h1]; decide), if_pos h1]
theorem hsvF_4 (h1 : (hsvI x).fmod 6 = 4) : hsvF x y z = (Float64.mul z (Float64.sub 4607182418800017408 (Float64.mul y (Float64.sub 4607182418800017408 (Float64.sub (Float64.mul x 4618441417868443648) (Float64.ofInt (hsvI x)))))), Float64.mul z (Float64.sub 4607182418800017408 y), z) := by
  unfold hsvF; rw [if_neg (by rw [h]; exact Bool.false_ne_true), if_neg (by rw [h1]; decide), if_neg (by rw [h1]; decide), if_neg (by rw [h1]; decide), if_neg (by rw [h1]; decide), if_pos h1]
theorem hsvF_5 (h1 : (hsvI x).fmod 6 = 5) : hsvF x y z = (z, Float64.mul z (Float64.sub 4607182418800017408 y), Float64.mul z (Float64.sub 4607182418800017408 (Float64.mul y (Float64.sub (Float64.mul x 4618441417868443648) (Float64.ofInt (hsvI x)))))) := by
  unfold hsvF; rw [if_neg (by rw [h]; exact Bool.false_ne_true), if_neg (by rw [h1]; decide), if_neg (by rw [h1]; decide), if_neg (by rw [h1]; decide), if_neg (by rw [h1]; decide), if_neg (by rw [h1]; decide)]
end
theorem hsvI_no {i : Int} (h0 : i.fmod 6 ≠ 0) (h1 : i.fmod 6 ≠ 1) (h2 : i.fmod 6 ≠ 2) (h3 : i.fmod 6 ≠ 3) (h4 : i.fmod 6 ≠ 4) (h5 : i.fmod 6 ≠ 5) : False := by
  have a := Int.fmod_nonneg_of_pos i (show (0 : Int) < 6 by decide)
  have b := Int.fmod_lt_of_pos i (show (0 : Int) < 6 by decide)
  generalize i.fmod 6 = k at *
  omega

def eqMM (x y z : UInt64) : Bool := Float64.cmp (fMin x y z) (fMax x y z) == some .eq
def rangeF (x y z : UInt64) : UInt64 := Float64.sub (fMax x y z) (fMin x y z)
/-- a part of the range: (maxc - v) / rangec -/
def partF (x y z v : UInt64) : UInt64 := Float64.div (Float64.sub (fMax x y z) v) (rangeF x y z)
def hueF (x y z : UInt64) : UInt64 :=
  if eqMM x y z = true then 0 else
  if (Float64.cmp x (fMax x y z) == some .eq) = true then (Float64.divmod (Float64.div (Float64.sub (partF x y z z) (partF x y z y)) 4618441417868443648) 4607182418800017408).2 else
  if (Float64.cmp y (fMax x y z) == some .eq) = true then (Float64.divmod (Float64.div (Float64.sub (Float64.add 4611686018427387904 (partF x y z x)) (partF x y z z)) 4618441417868443648) 4607182418800017408).2 else
  (Float64.divmod (Float64.div (Float64.sub (Float64.add 4616189618054758400 (partF x y z y)) (partF x y z x)) 4618441417868443648) 4607182418800017408).2
def satF (x y z : UInt64) : UInt64 := if eqMM x y z = true then 0 else Float64.div (rangeF x y z) (fMax x y z)
def hsv2Ok (x y z : UInt64) : Bool := eqMM x y z || (!Float64.isZero (fMax x y z) && !Float64.isZero (rangeF x y z))
def lowF (x y z : UInt64) : Bool := Float64.cmp (Float64.div (Float64.add (fMax x y z) (fMin x y z)) 4611686018427387904) 4602678819172646912 == some .lt || Float64.cmp (Float64.div (Float64.add (fMax x y z) (fMin x y z)) 4611686018427387904) 4602678819172646912 == some .eq
def hlsOk (x y z : UInt64) : Bool := eqMM x y z || (!Float64.isZero (rangeF x y z) && (if lowF x y z then !Float64.isZero (Float64.add (fMax x y z) (fMin x y z)) else !Float64.isZero (Float64.sub (Float64.sub 4611686018427387904 (fMax x y z)) (fMin x y z))))
section
variable {x y z : UInt64}
theorem hueF_s (h : eqMM x y z = true) : hueF x y z = 0 := by unfold hueF; rw [if_pos h]
theorem satF_s (h : eqMM x y z = true) : satF x y z = 0 := by unfold satF; rw [if_pos h]
theorem satF_n (h : eqMM x y z = false) : satF x y z = Float64.div (rangeF x y z) (fMax x y z) := by unfold satF; rw [if_neg (by rw [h]; exact Bool.false_ne_true)]
theorem hueF_r (h : eqMM x y z = false) (h1 : (Float64.cmp x (fMax x y z) == some .eq) = true) : hueF x y z = (Float64.divmod (Float64.div (Float64.sub (partF x y z z) (partF x y z y)) 4618441417868443648) 4607182418800017408).2 := by
  unfold hueF; rw [if_neg (by rw [h]; exact Bool.false_ne_true), if_pos h1]
theorem hueF_g (h : eqMM x y z = false) (h1 : (Float64.cmp x (fMax x y z) == some .eq) = false) (h2 : (Float64.cmp y (fMax x y z) == some .eq) = true) : hueF x y z = (Float64.divmod (Float64.div (Float64.sub (Float64.add 4611686018427387904 (partF x y z x)) (partF x y z z)) 4618441417868443648) 4607182418800017408).2 := by
  unfold hueF; rw [if_neg (by rw [h]; exact Bool.false_ne_true), if_neg (by rw [h1]; exact Bool.false_ne_true), if_pos h2]
theorem hueF_b (h : eqMM x y z = false) (h1 : (Float64.cmp x (fMax x y z) == some .eq) = false) (h2 : (Float64.cmp y (fMax x y z) == some .eq) = false) : hueF x y z = (Float64.divmod (Float64.div (Float64.sub (Float64.add 4616189618054758400 (partF x y z y)) (partF x y z x)) 4618441417868443648) 4607182418800017408).2 := by
  unfold hueF; rw [if_neg (by rw [h]; exact Bool.false_ne_true), if_neg (by rw [h1]; exact Bool.false_ne_true), if_neg (by rw [h2]; exact Bool.false_ne_true)]
theorem hsv2Ok_at (ok : hsv2Ok x y z = true) (h : eqMM x y z = false) : Float64.isZero (fMax x y z) = false ∧ Float64.isZero (rangeF x y z) = false := by
  unfold hsv2Ok at ok
  rw [h, Bool.false_or, Bool.and_eq_true, Bool.not_eq_true', Bool.not_eq_true'] at ok
  exact ok
theorem hlsOk_r (ok : hlsOk x y z = true) (h : eqMM x y z = false) : Float64.isZero (rangeF x y z) = false := by
  unfold hlsOk at ok
  rw [h, Bool.false_or, Bool.and_eq_true, Bool.not_eq_true'] at ok
  exact ok.1
theorem hlsOk_l (ok : hlsOk x y z = true) (h : eqMM x y z = false) (l : lowF x y z = true) : Float64.isZero (Float64.add (fMax x y z) (fMin x y z)) = false := by
  unfold hlsOk at ok
  rw [h, Bool.false_or, Bool.and_eq_true, l, if_pos rfl, Bool.not_eq_true', Bool.not_eq_true'] at ok
  exact ok.2
theorem hlsOk_h (ok : hlsOk x y z = true) (h : eqMM x y z = false) (l : lowF x y z = false) : Float64.isZero (Float64.sub (Float64.sub 4611686018427387904 (fMax x y z)) (fMin x y z)) = false := by
  unfold hlsOk at ok
  rw [h, Bool.false_or, Bool.and_eq_true, l, if_neg Bool.false_ne_true, Bool.not_eq_true', Bool.not_eq_true'] at ok
  exact ok.2
end
theorem tf {b : Bool} {P : Prop} (h : b = false) (h' : b = true) : P := absurd (h.symm.trans h') Bool.false_ne_true

/-- where a call stands: the frame, the ledger, the written part, the top -/
structure Here (n : Nat) (w : World) (mean : ExcName → Option Value) (mg mb : Str → Option Value) (dp un : Nat) (cs : Scope) (outer : List Env) (A₀ : Around) (base h₀ : Heap) (L : Addr) (m : Str → Option Value) (news : List (Addr × Obj)) (h : Heap) : Prop where
  B : Below A₀ base outer h₀
  F : Fr h₀ L h m
  X : (hd1.heap_39 w.params).In h₀
  N : News h₀ L h news
  T : Top hd1.view_39 (looseW hd1.view_39 []) mean mg mb h₀
  hk : cs.kind = .function
  hd : dp + n < recursionLimit
  hu : un + 10 * n < cLine
abbrev prog1 := PySem.Challenge.rw_sn0021_01.row.prog
section
variable {w : World} {mean : ExcName → Option Value} {mg mb : Str → Option Value} {dp un : Nat} {gd : Option (List Code)} {cn : Str} {cs : Scope} {a : Addr} {ccd : Value} {cl : List (Str × Addr)} {outer : List Env} {A₀ : Around} {base h₀ : Heap} {L : Addr} {m : Str → Option Value} {news : List (Addr × Obj)} {s : Shared} {Q E : Value → Shared → Prop}
theorem hsv_ok {x y z : UInt64} {tx ty tz : Tok} (H : Here 5 w mean mg mb dp un cs outer A₀ base h₀ L m news s.heap) (ok : hsvOk x y = true)
  (hret : ∀ D t1 t2 t3 h' tk', Fr h₀ L h' m → News h₀ L h' ((D, tup3 (hsvF x y z).1 t1 (hsvF x y z).2.1 t2 (hsvF x y z).2.2 t3) :: news) → (∀ p ∈ news, p.1 < D) → Q (.ref D) { s with heap := h', toks := tk' }) :
  wpAny (model PySem.Challenge.rw_sn0021_01.row.prog w) (ktrTop dp un gd cn cs L a ccd cl outer) (call (.ref 35) [.float x tx, .float y ty, .float z tz]) Q E s := by
  obtain ⟨B, F, X, N, T, hk, hd, hu⟩ := H
  refine wpAny_call ?_
  k_dflt cell_enter
  k_steps
  all_goals first
    | (rw [hsvF_s (by assumption)] at hret; exact hret _ _ _ _ _ _ (by assumption) (by assumption) (by assumption))
    | (rw [hsvF_0 (by assumption) (by assumption)] at hret; exact hret _ _ _ _ _ _ (by assumption) (by assumption) (by assumption))
    | (rw [hsvF_1 (by assumption) (by assumption)] at hret; exact hret _ _ _ _ _ _ (by assumption) (by assumption) (by assumption))
    | (rw [hsvF_2 (by assumption) (by assumption)] at hret; exact hret _ _ _ _ _ _ (by assumption) (by assumption) (by assumption))
    | (rw [hsvF_3 (by assumption) (by assumption)] at hret; exact hret _ _ _ _ _ _ (by assumption) (by assumption) (by assumption))
    | (rw [hsvF_4 (by assumption) (by assumption)] at hret; exact hret _ _ _ _ _ _ (by assumption) (by assumption) (by assumption))
    | (rw [hsvF_5 (by assumption) (by assumption)] at hret; exact hret _ _ _ _ _ _ (by assumption) (by assumption) (by assumption))
    | exact tf (hsvOk_at ok (by assumption)).1 (by assumption)
    | exact tf (hsvOk_at ok (by assumption)).2.1 (by assumption)
    | exact absurd (hsvOk_at ok (by assumption)).2.2 (Nat.not_lt.mpr (by assumption))
    | exact (hsvI_no (by assumption) (by assumption) (by assumption) (by assumption) (by assumption) (by assumption)).elim
theorem hsv2_ok {x y z : UInt64} {tx ty tz : Tok} (H : Here 5 w mean mg mb dp un cs outer A₀ base h₀ L m news s.heap) (ok : hsv2Ok x y z = true)
  (hret : ∀ D t1 t2 t3 h' tk', Fr h₀ L h' m → News h₀ L h' ((D, tup3 (hueF x y z) t1 (satF x y z) t2 (fMax x y z) t3) :: news) → (∀ p ∈ news, p.1 < D) → Q (.ref D) { s with heap := h', toks := tk' }) :
  wpAny (model PySem.Challenge.rw_sn0021_01.row.prog w) (ktrTop dp un gd cn cs L a ccd cl outer) (call (.ref 28) [.float x tx, .float y ty, .float z tz]) Q E s := by
  obtain ⟨B, F, X, N, T, hk, hd, hu⟩ := H
  refine wpAny_call ?_
  k_dflt cell_enter
  k_steps
  all_goals first
    | (rw [hueF_s (by assumption), satF_s (by assumption)] at hret; exact hret _ _ _ _ _ _ (by assumption) (by assumption) (by assumption))
    | (rw [hueF_r (by assumption) (by assumption), satF_n (by assumption)] at hret; exact hret _ _ _ _ _ _ (by assumption) (by assumption) (by assumption))
    | (rw [hueF_g (by assumption) (by assumption) (by assumption), satF_n (by assumption)] at hret; exact hret _ _ _ _ _ _ (by assumption) (by assumption) (by assumption))
    | (rw [hueF_b (by assumption) (by assumption) (by assumption), satF_n (by assumption)] at hret; exact hret _ _ _ _ _ _ (by assumption) (by assumption) (by assumption))
    | exact tf (hsv2Ok_at ok (by assumption)).1 (by assumption)
    | exact tf (hsv2Ok_at ok (by assumption)).2 (by assumption)
theorem hls_ok {x y z : UInt64} {tx ty tz : Tok} (H : Here 5 w mean mg mb dp un cs outer A₀ base h₀ L m news s.heap) (ok : hlsOk x y z = true)
  (hret : ∀ D t1 g t2 b t3 h' tk', Fr h₀ L h' m → News h₀ L h' ((D, tup3 (hueF x y z) t1 g t2 b t3) :: news) → (∀ p ∈ news, p.1 < D) → Q (.ref D) { s with heap := h', toks := tk' }) :
  wpAny (model PySem.Challenge.rw_sn0021_01.row.prog w) (ktrTop dp un gd cn cs L a ccd cl outer) (call (.ref 21) [.float x tx, .float y ty, .float z tz]) Q E s := by
  obtain ⟨B, F, X, N, T, hk, hd, hu⟩ := H
  refine wpAny_call ?_
  k_dflt cell_enter
  k_steps
  all_goals first
    | (rw [hueF_s (by assumption)] at hret; exact hret _ _ _ _ _ _ _ _ (by assumption) (by assumption) (by assumption))
    | (rw [hueF_r (by assumption) (by assumption)] at hret; exact hret _ _ _ _ _ _ _ _ (by assumption) (by assumption) (by assumption))
    | (rw [hueF_g (by assumption) (by assumption) (by assumption)] at hret; exact hret _ _ _ _ _ _ _ _ (by assumption) (by assumption) (by assumption))
    | (rw [hueF_b (by assumption) (by assumption) (by assumption)] at hret; exact hret _ _ _ _ _ _ _ _ (by assumption) (by assumption) (by assumption))
    | exact tf (hlsOk_r ok (by assumption)) (by assumption)
    | exact tf (hlsOk_l ok (by assumption) (by assumption)) (by assumption)
    | exact tf (hlsOk_h ok (by assumption) (by assumption)) (by assumption)
end
end Mine
namespace Mine
def apOf (n : Nat) (acc : List UInt8) : List UInt8 := if n = 0 then acc else apOf (n / 16) (UInt8.ofNat (65 + n % 16) :: acc)
theorem apOf_zero (acc : List UInt8) : apOf 0 acc = acc := by rw [apOf]; rfl
theorem apOf_pos {n : Nat} (h : n ≠ 0) (acc : List UInt8) : apOf n acc = apOf (n / 16) (UInt8.ofNat (65 + n % 16) :: acc) := by rw [apOf, if_neg h]
theorem apOf_ge : ∀ (k n : Nat) (acc : List UInt8), n < k → acc.length ≤ (apOf n acc).length := by
  intro k
  induction k with
  | zero => intro n acc h; omega
  | succ k ih =>
    intro n acc h
    by_cases h0 : n = 0
    · rw [h0, apOf_zero]; exact Nat.le_refl _
    · rw [apOf_pos h0]
      have := ih (n / 16) (UInt8.ofNat (65 + n % 16) :: acc) (by omega)
      rw [List.length_cons] at this
      omega
theorem apOf_le (n : Nat) (h : n < 1048576) : (apOf n []).length ≤ 5 := by
  by_cases h0 : n = 0
  · rw [h0, apOf_zero]; decide
  rw [apOf_pos h0]
  by_cases h1 : n / 16 = 0
  · rw [h1, apOf_zero]; simp
  rw [apOf_pos h1]
  by_cases h2 : n / 16 / 16 = 0
  · rw [h2, apOf_zero]; simp
  rw [apOf_pos h2]
  by_cases h3 : n / 16 / 16 / 16 = 0
  · rw [h3, apOf_zero]; simp
  rw [apOf_pos h3]
  by_cases h4 : n / 16 / 16 / 16 / 16 = 0
  · rw [h4, apOf_zero]; simp
  rw [apOf_pos h4]
  rw [show n / 16 / 16 / 16 / 16 / 16 = 0 by omega, apOf_zero]; simp
theorem ap_pick : ∀ j : Fin 16, KBy.picked #[65, 66, 67, 68, 69, 70, 71, 72, 73, 74, 75, 76, 77, 78, 79, 80] (some (j.val : Int)) (some ((j.val : Int) + 1)) = #[UInt8.ofNat (65 + j.val)] := by decide +kernel
theorem ap_step {n : Int} {v : Array UInt8} (h0 : 0 ≤ n) (h : n ≠ 0) : apOf (n.fdiv 16).toNat (KBy.picked #[65, 66, 67, 68, 69, 70, 71, 72, 73, 74, 75, 76, 77, 78, 79, 80] (some (n.fmod 16)) (some (n.fmod 16 + 1)) ++ v).toList = apOf n.toNat v.toList := by
  obtain ⟨k, rfl⟩ := Int.eq_ofNat_of_zero_le h0
  have e1 : (k : Int).fdiv 16 = ((k / 16 : Nat) : Int) := by rw [Int.fdiv_eq_ediv_of_nonneg _ (by decide)]; omega
  have e2 : (k : Int).fmod 16 = ((k % 16 : Nat) : Int) := by rw [Int.fmod_eq_emod_of_nonneg _ (by decide)]; omega
  have p := ap_pick ⟨k % 16, Nat.mod_lt _ (by decide)⟩
  dsimp only at p
  rw [e1, e2, p, Int.toNat_natCast, Int.toNat_natCast, apOf_pos (n := k) (by intro e; exact h (by rw [e]; rfl))]
  rw [Array.toList_append]; rfl

section
variable {w : World} {mean : ExcName → Option Value} {mg mb : Str → Option Value} {dp un : Nat} {gd : Option (List Code)} {cn : Str} {cs : Scope} {a : Addr} {ccd : Value} {cl : List (Str × Addr)} {outer : List Env} {A₀ : Around} {base h₀ : Heap} {L : Addr} {m : Str → Option Value} {news : List (Addr × Obj)} {s : Shared} {Q E : Value → Shared → Prop}
theorem int2ap_ok {x : Int} {tx : Tok} (H : Here 5 w mean mg mb dp un cs outer A₀ base h₀ L m news s.heap) (hx : 0 ≤ x) (hx2 : x < 1048576)
  (hret : ∀ b t h' tk', b.toList = apOf x.toNat [] → Fr h₀ L h' m → News h₀ L h' news → Q (.bytes b t) { s with heap := h', toks := tk' }) :
  wpAny (model PySem.Challenge.rw_sn0021_01.row.prog w) (ktrTop dp un gd cn cs L a ccd cl outer) (call (.ref 49) [.int x tx]) Q E s := by
  obtain ⟨B, F, X, N, T, hk, hd, hu⟩ := H
  refine wpAny_call ?_
  k_dflt cell_enter
  repeat' ((fail_if_success (with_reducible show wpAny _ _ (exec (Stmt.While _ _ _ _) _) _ _ _)); first | (k_unfold; (try dsimp only)) | (k_end; wrow_close) | walk1 | (dsimp only; walk1) | (leave1; walk_say "STEP leave1"; try dsimp only) | fail "no step")
  simp only [if_neg (show ¬ x < 0 by omega)] at *
  rename Fr _ _ _ _ => lF'
  rename News _ _ _ _ => lN'
  with_unfolding_all refine' ksw_while (σ := Int × Tok × Array UInt8 × Tok) (fun _ => news) (fun c => [(Str.ofString "num", Value.int c.1 c.2.1), (Str.ofString "val", Value.bytes c.2.2.1 c.2.2.2)]) (fun _ => True) [Str.ofString "mod"] (fun c => 0 ≤ c.1 ∧ c.1 < 1048576 ∧ apOf c.1.toNat c.2.2.1.toList = apOf x.toNat []) (fun c => c.1.toNat) (x, _, #[], _) lF' lN' ?kf ?kk ?kp ?_
  case kf => exact True.intro
  case kk => kst_all
  case kp => exact ⟨hx, hx2, rfl⟩
  clear lF' lN'
  intro c kU kH kTk kFacts kInv kFr kNews
  obtain ⟨n, tn, v, tv⟩ := c
  dsimp only [kstB] at kFr
  dsimp only at kNews kFacts kInv
  obtain ⟨i1, i2, i3⟩ := kInv
  have hl : v.size ≤ 5 := by
    have e1 := apOf_ge _ n.toNat v.toList (Nat.lt_succ_self _)
    rw [i3] at e1
    have e2 := apOf_le x.toNat (by omega)
    have e3 : v.toList.length = v.size := Array.length_toList
    omega
  (try k_fold)
  k_with "subscriptTail" => ((with_reducible show wpAny _ _ (subscriptTail _ (Expr.Slice _ _ none _) (Value.bytes _ _) (Value.ref _)) _ _ _); (with_reducible rename Fr _ _ _ _ => F'); (with_reducible rename News _ _ _ _ => N'); (refine KBc.slice_K (s := ⟨_, _, _, _, _⟩) F' N' rfl (by constructor) (by constructor) (by decide) ?_); intro _ _ _ _ _ kbcK)
  k_with "binaryOp Add bytes bytes" => (refine KBy.add_bytes (Nat.le_trans (Nat.add_le_add (KBc.size_picked_le _ _ _) hl) (by decide)) ?_; intro _ _)
  k_steps
  · rename News _ _ _ _ => nE'
    refine ksw_end ⟨_, _, _, _⟩ (by assumption) nE' (by kst_in) True.intro (by kst_all) (by ksw_same) ⟨?_, ?_, ?_⟩ ?_
    · show 0 ≤ n.fdiv 16
      exact Int.fdiv_nonneg i1 (by decide)
    · show n.fdiv 16 < 1048576
      rw [Int.fdiv_eq_ediv_of_nonneg _ (by decide)]; omega
    · exact (ap_step i1 (by assumption)).trans i3
    · show (n.fdiv 16).toNat < n.toNat
      rw [Int.fdiv_eq_ediv_of_nonneg _ (by decide)]; omega
  · rename n = 0 => h0
    rw [h0] at i3
    exact hret _ _ _ _ ((apOf_zero _).symm.trans i3) (by assumption) (by assumption)
end
end Mine
namespace Mine
theorem nameB_K {M : Model} {A : Around} {E : Value → Shared → Prop} {s : Shared} {env : Env} {K : Frag} {h₀ : Heap} {L : Addr} {m mg mb : Str → Option Value} {p : Program} {loose : List Str} {mean : ExcName → Option Value} {x : Str} {pos : Pos} {v : Value} {Q : Value → Shared → Prop}
    (F : Fr h₀ L s.heap m) (X : K.In h₀) (T : Top p loose mean mg mb h₀) (e : nsIn K mainGlobals x = some none) (hv : bootBuiltins x = some v) (hn : x ≠ "__name__") (hg : env.globals = mainGlobals) (hb : env.builtins = builtinsNs)
    (hk : env.scope.kind = .function) (hx : env.kindOf x = some .globalImplicit) (hd : (x == ("__debug__" : Str)) = false) (h : Q v s) : wpAny M A (eval (.Name x pos) env) Q E s :=
  Name_function_global hk hx (loadGlobal_builtin (env := env) (by rw [hg]; exact T.g.keeps F.keep) (mg_none_of X T.g e) (by rw [hb]; exact T.b.keeps F.keep) ((T.builtins x hn).trans hv) h) hd
theorem words3 : True := by
  k_with_none
  k_with "call ref" => ((with_reducible show wpAny _ _ (call (Value.ref 49) _) _ _ _); k_dflt (refine' int2ap_ok ⟨?k1, ?k2, ?k3, ?k4, ?k5, ?k6, ?k7, ?k8⟩ ?kx ?ky ?_; (case k1 => k_asm); (case k2 => k_asm); (case k3 => k_asm); (case k4 => k_asm); (case k5 => k_asm); (case k6 => first | exact rfl | assumption); (case k7 => ktr_room); (case k8 => ktr_units); (case kx => omega); (case ky => omega)); intro b9 t9 h9 tk9 hb9 F9 N9)
  k_with "eval Name" => ((with_reducible show wpAny _ _ (eval (Expr.Name _ _) (compEnv _ _ _)) _ _ _); (with_reducible rename Fr _ _ _ _ => kF); k_dflt (refine' nameB_K kF ?k1 ?k2 ?k3 ?k4 ?k5 ?k6 ?k7 ?k8 ?k9 ?ka ?_; (case k1 => k_asm); (case k2 => k_asm); (case k3 => k_is); (case k4 => boot_by_name); (case k5 => decide); (case k6 => exact rfl); (case k7 => exact rfl); (case k8 => exact rfl); (case k9 => exact rfl); (case ka => decide); k_whole))
  trivial
/-- the five letters of 65536 + k -/
def wordB (k : Nat) : List UInt8 := [66, UInt8.ofNat (65 + k / 4096 % 16), UInt8.ofNat (65 + k / 256 % 16), UInt8.ofNat (65 + k / 16 % 16), UInt8.ofNat (65 + k % 16)]
/-- the four letters behind the first -/
def wordS (k : Nat) : Str := ⟨#[65 + k / 4096 % 16, 65 + k / 256 % 16, 65 + k / 16 % 16, 65 + k % 16]⟩
theorem ofs_nil : (Str.ofString "") = ⟨#[]⟩ := by decide +kernel
theorem j5 (a b c d e : Nat) : Txt.join (Str.ofString "") [⟨#[a]⟩, ⟨#[b]⟩, ⟨#[c]⟩, ⟨#[d]⟩, ⟨#[e]⟩] = ⟨#[a, b, c, d, e]⟩ := by
  rw [ofs_nil]; rfl
theorem slice_from (x : Str) (a : Nat) (h : a ≤ x.length) : Txt.slice x (some (a : Int)) none = ⟨(x.cps.toList.drop a).toArray⟩ := by
  show StrLaws.sliceText x (some (a : Int)) none = _
  have e : StrLaws.sliceText x (some (a : Int)) none = StrLaws.sliceText x (some (a : Int)) (some (x.length : Int)) := by
    unfold StrLaws.sliceText; rw [StrLaws.sliceIdx_none_hi]
  rw [e, StrLaws.sliceText_nat x h (Nat.le_refl _)]
  congr 2
  rw [List.take_of_length_le]
  simp [Str.length]
theorem slice_to (x : Str) (b : Nat) (h : b ≤ x.length) : Txt.slice x none (some (b : Int)) = ⟨(x.cps.toList.take b).toArray⟩ := by
  show StrLaws.sliceText x none (some (b : Int)) = _
  have e : StrLaws.sliceText x none (some (b : Int)) = StrLaws.sliceText x (some ((0 : Nat) : Int)) (some (b : Int)) := by
    unfold StrLaws.sliceText; rw [StrLaws.sliceIdx_none_lo]; rfl
  rw [e, StrLaws.sliceText_nat x (Nat.zero_le _) h]
  rfl
theorem slice_five (a b c d e : Nat) : Txt.slice ⟨#[a, b, c, d, e]⟩ (some 1) none = ⟨#[b, c, d, e]⟩ := slice_from _ 1 (by show 1 ≤ 5; decide)
theorem letter_nat (j : Nat) : (UInt8.ofNat (65 + j % 16)).toNat = 65 + j % 16 := by
  rw [UInt8.toNat_ofNat']
  have := Nat.mod_lt j (show 0 < 16 by decide)
  omega
theorem word_is (k : Nat) : Txt.slice (Txt.join (Str.ofString "") (List.map (fun c => ⟨#[c.toNat]⟩) (wordB k))) (some 1) none = wordS k := by
  unfold wordB wordS
  simp only [List.map_cons, List.map_nil, letter_nat]
  rw [j5]
  exact slice_five _ _ _ _ _
theorem strs_of_paired : ∀ (bs : List UInt8) (vs ys : List Value), vs.length = bs.length → (∀ (j : Nat) (v : Value), vs[j]? = some v → ∃ c u, bs[j]? = some c ∧ v = .int (c.toNat : Int) u) →
    Paired (fun v y => ∃ (k : Int) (t u : Tok), v = .int k t ∧ y = .str ⟨#[k.toNat]⟩ u) vs ys → StrsAre ys (bs.map fun c => ⟨#[c.toNat]⟩)
  | [], [], [], _, _, _ => .nil
  | b :: bs, v :: vs, y :: ys, hl, hv, .cons h r => by
    obtain ⟨k, t, u, rfl, rfl⟩ := h
    obtain ⟨c, u', e1, e2⟩ := hv 0 _ rfl
    cases e1
    cases e2
    exact .cons _ _ (strs_of_paired bs vs ys (by simpa using hl) (fun j v e => hv (j + 1) v (by simpa using e)) r)
theorem apOf_word {x : Int} (h0 : 0 ≤ x) (h1 : x < 65536) : apOf (65536 + x).toNat [] = wordB x.toNat := by
  obtain ⟨k, rfl⟩ := Int.eq_ofNat_of_zero_le h0
  rw [show (65536 + (k : Int)).toNat = 65536 + k by omega, Int.toNat_natCast]
  rw [apOf_pos (by omega), apOf_pos (by omega), apOf_pos (by omega), apOf_pos (by omega), apOf_pos (by omega), show (65536 + k) / 16 / 16 / 16 / 16 / 16 = 0 by omega, apOf_zero]
  unfold wordB
  rw [show (65536 + k) / 16 / 16 / 16 / 16 % 16 = 1 by omega, show (65536 + k) / 16 / 16 / 16 % 16 = k / 4096 % 16 by omega, show (65536 + k) / 16 / 16 % 16 = k / 256 % 16 by omega, show (65536 + k) / 16 % 16 = k / 16 % 16 by omega, show (65536 + k) % 16 = k % 16 by omega]
  rfl
section
variable {w : World} {mean : ExcName → Option Value} {mg mb : Str → Option Value} {dp un : Nat} {gd : Option (List Code)} {cn : Str} {cs : Scope} {a : Addr} {ccd : Value} {cl : List (Str × Addr)} {outer : List Env} {A₀ : Around} {base h₀ : Heap} {L : Addr} {m : Str → Option Value} {news : List (Addr × Obj)} {s : Shared} {Q E : Value → Shared → Prop}
theorem turned_ok {x y : Int} {tx ty : Tok} (H : Here 5 w mean mg mb dp un cs outer A₀ base h₀ L m news s.heap) (hx : 0 ≤ x) (hx2 : x < 65536) (hy : 0 ≤ y) (hy2 : y ≤ 16)
  (hret : ∀ t h' tk', Fr h₀ L h' m → News h₀ L h' news → Q (.int (Builtin.bitAnd (Builtin.bitOr (x * 2 ^ y.toNat) (x.fdiv (2 ^ (16 - y).toNat))) 65535) t) { s with heap := h', toks := tk' }) :
  wpAny (model PySem.Challenge.rw_sn0021_01.row.prog w) (ktrTop dp un gd cn cs L a ccd cl outer) (call (.ref 63) [.int x tx, .int y ty]) Q E s := by
  obtain ⟨B, F, X, N, T, hk, hd, hu⟩ := H
  refine wpAny_call ?_
  k_dflt cell_enter
  k_steps
  exact hret _ _ _ (by assumption) (by assumption)
theorem word_ok {x : Int} {tx : Tok} (H : Here 8 w mean mg mb dp un cs outer A₀ base h₀ L m news s.heap) (hx : 0 ≤ x) (hx2 : x < 65536)
  (hret : ∀ t h' tk', Fr h₀ L h' m → News h₀ L h' news → Q (.str (wordS x.toNat) t) { s with heap := h', toks := tk' }) :
  wpAny (model PySem.Challenge.rw_sn0021_01.row.prog w) (ktrTop dp un gd cn cs L a ccd cl outer) (call (.ref 68) [.int x tx]) Q E s := by
  obtain ⟨B, F, X, N, T, hk, hd, hu⟩ := H
  refine wpAny_call ?_
  k_dflt cell_enter
  k_steps
  have hb := hb9.trans (apOf_word (by omega) (by omega))
  obtain rfl : b9 = (wordB x.toNat).toArray := by rw [← hb]
  refine KBw.pyIter_bytes ?_
  refine ⟨fun _ => true, fun v y => ∃ (k : Int) (t u : Tok), v = .int k t ∧ y = .str ⟨#[k.toNat]⟩ u, _, _, _, 5, _, _, rfl, KBw.walks rfl _ (wordB x.toNat).toArray t9, by decide, ⟨_, Heap.get?_push_size _ rfl, rfl, rfl⟩, ?_, ⟨?_, ?_⟩, ?_⟩
  · intro b hb
    rw [List.mem_singleton.mp hb]
    show _ < (Heap.push _ _).objs.size
    rw [Heap.size_push]; exact Nat.lt_succ_self _
  · intro C i v s₃ m₃ E' hP hn hm hkeep htk
    k_steps
    exact ⟨_, _, rfl, fun _ _ e => e⟩
  · intro C i v s₃ m₃ E' hP hp hn hm hkeep htk
    obtain ⟨c, u, hc, rfl⟩ := hP
    have hk2 : ∀ b o, h9.get? b = some o → s₃.heap.get? b = some o := fun b o e => hkeep b o (not_iter_of_old e) (Heap.get?_push_of_some _ e)
    k_steps
    refine chr_of_range (by omega) (by have := c.toNat_lt; omega) ?_
    exact ⟨⟨_, _, _, rfl, rfl⟩, _, _, rfl, fun _ _ e => e⟩
  · intro D h' tk ys vs hD hl hpl hlen hPv hpair hkeep
    have hk2 : ∀ b o, h9.get? b = some o → h'.get? b = some o := fun b o e => hkeep b o (not_iter_of_old e) (Heap.get?_push_of_some _ e)
    have cF := Fr.grownK F9 hk2
    have cN := News.grown N9 hk2
    k_steps
    refine join_listW (ys := (wordB x.toNat).map fun c => ⟨#[c.toNat]⟩) hl ?_ (by decide) ?_ ?_
    · rw [show List.filter (fun _ => true) vs = vs from filter_allG vs] at hpair
      exact strs_of_paired _ _ _ hlen (fun j v e => by
        obtain ⟨c, u, e1, e2⟩ := hPv j v e
        exact ⟨c, u, by simpa using e1, e2⟩) hpair
    · exact Nat.le_of_ble_eq_true rfl
    intro t8 k8
    k_steps
    rw [word_is]
    exact hret _ _ _ (by assumption) (by assumption)
end
end Mine
namespace Mine
/-- the quarters that come with a draw -/
def offs (x : Int) : List Int := if (x.fmod 48).fdiv 16 = 0 then [0] else if (x.fmod 48).fdiv 16 = 1 then [0, 8] else [0, 4, 8, 12]
def addHue (hs : List Int) (v : Int) : List Int := if hs.any (· == v) then hs else hs ++ [v]
def huesF (ns : List Int) : List Int := ns.foldl (fun hs x => (offs x).foldl (fun hs k => addHue hs ((x + k).fmod 16)) hs) []
theorem addHue_in {hs : List Int} {v : Int} (h : (hs.any fun x => x == v) = true) : addHue hs v = hs := by unfold addHue; rw [if_pos h]
theorem addHue_new {hs : List Int} {v : Int} (h : (hs.any fun x => x == v) = false) : addHue hs v = hs ++ [v] := by unfold addHue; rw [if_neg (by rw [h]; exact Bool.false_ne_true)]
theorem addHue_len (hs : List Int) (v : Int) : (addHue hs v).length ≤ hs.length + 1 := by
  unfold addHue; split
  · omega
  · simp
theorem foldHue_len (n : Int) : ∀ (l ks : List Int), (l.foldl (fun hs k => addHue hs ((n + k).fmod 16)) ks).length ≤ ks.length + l.length
  | [], ks => by simp
  | k :: l, ks => by
    have h1 := foldHue_len n l (addHue ks ((n + k).fmod 16))
    have h2 := addHue_len ks ((n + k).fmod 16)
    rw [List.foldl_cons, List.length_cons]
    omega
theorem offs_len (x : Int) : (offs x).length ≤ 4 := by
  unfold offs; split
  · decide
  · split <;> decide
theorem huesF_snoc (pre : List Int) (n : Int) : huesF (pre ++ [n]) = (offs n).foldl (fun hs k => addHue hs ((n + k).fmod 16)) (huesF pre) := by
  unfold huesF; rw [List.foldl_append]; rfl
theorem foldHues_len : ∀ (ns ks : List Int), (ns.foldl (fun hs x => (offs x).foldl (fun hs k => addHue hs ((x + k).fmod 16)) hs) ks).length ≤ ks.length + 4 * ns.length
  | [], ks => by simp
  | x :: ns, ks => by
    have h1 := foldHues_len ns ((offs x).foldl (fun hs k => addHue hs ((x + k).fmod 16)) ks)
    have h2 := foldHue_len x (offs x) ks
    have h3 := offs_len x
    rw [List.foldl_cons, List.length_cons]
    omega
theorem huesF_len (ns : List Int) : (huesF ns).length ≤ 4 * ns.length := by
  have := foldHues_len ns []
  rw [List.length_nil, Nat.zero_add] at this
  exact this
theorem item_list {prog : Program} {w : World} {A : Around} {E : Value → Shared → Prop} {s : Shared} {value slice : PySem.Expr} {l : Addr} {items : Array Value} {k : Int} {u : Tok} {v : Value} {Q : Value → Shared → Prop} (hl : s.heap.IsList l items) (h0 : 0 ≤ k) (hhi : k < 2 ^ 63) (hx : items[k.toNat]? = some v)
    (hs : subscripted slice false (.ref l) (.int k u) = operate [.ref l, .int k u] (getItem (.ref l) (.int k u))) (h : Q v s) : wpAny (model prog w) A (subscriptTail value slice (.ref l) (.int k u)) Q E s :=
  tail_any hl.typeIs slot_list_getitem.lookup (wpAny_getItem_list hl h0 hhi hx h) hs
theorem words4 : True := by
  k_with_none
  k_with "st" => (repeat' ((fail_if_success (with_reducible show wpAny _ _ (pyIter _) _ _ _)); (fail_if_success (with_reducible show InvEndN _ _ _ _ _ _ _)); (fail_if_success (with_reducible show KswEnd _ _ _ _ _ _ _ _ _ _ _ _)); (fail_if_success (with_reducible show wpAny _ _ (call (Value.builtin "list.append") _) _ _ _)); (fail_if_success (with_reducible show wpAny _ _ (exec (Stmt.For _ _ _ _ _) _) _ _ _)); (fail_if_success (with_reducible show wpAny _ _ (exec (Stmt.While _ _ _ _) _) _ _ _)); first | (k_unfold; (try dsimp only)) | (k_end; wrow_close) | walk1 | (dsimp only; walk1) | (leave1; walk_say "STEP leave1"; try dsimp only) | fail "no step"))
  k_with "for" => ((rename Fr _ _ _ _ => lF'); (with_reducible refine' For_invVF lF' ?k1 ?k2 ?_ ?k3 ?k4); (case k1 => exact rfl); (case k2 => exact rfl); (case k3 => intro _; rfl); (case k4 => passes_own))
  trivial
section
variable {w : World} {mean : ExcName → Option Value} {mg mb : Str → Option Value} {dp un : Nat} {gd : Option (List Code)} {cn : Str} {cs : Scope} {a : Addr} {ccd : Value} {cl : List (Str × Addr)} {outer : List Env} {A₀ : Around} {base h₀ : Heap} {L : Addr} {m : Str → Option Value} {news : List (Addr × Obj)} {s : Shared} {Q E : Value → Shared → Prop}
theorem hues_ok {l : Addr} {vs : List Value} {ns : List Int} {nn : Nat} (H : Here 5 w mean mg mb dp un cs outer A₀ base h₀ L m news s.heap) (hl : (l, listOf vs.toArray nn) ∈ news) (hi : IntsAre vs ns) (h5 : ns.length ≤ 5)
  (hret : ∀ D us cc h' tk', IntsAre us (huesF ns) → Fr h₀ L h' m → News h₀ L h' ((D, listOf us.toArray cc) :: news) → (∀ p ∈ news, p.1 < D) → Q (.ref D) { s with heap := h', toks := tk' }) :
  wpAny (model PySem.Challenge.rw_sn0021_01.row.prog w) (ktrTop dp un gd cn cs L a ccd cl outer) (call (.ref 56) [.ref l]) Q E s := by
  obtain ⟨B, F, X, N, T, hk, hd, hu⟩ := H
  refine wpAny_call ?_
  k_dflt cell_enter
  k_extra "st"
  k_extra "for"
  k_extra "st"
  rename_i g1 L1 h1 FG1 B1 X1 T1 D0 h2 l1 h3 lN'
  with_unfolding_all refine' kst_listL (σ := List Value × List Int × Nat) (fun c => (D0, listOf c.1.toArray c.2.2) :: news) (fun _ => []) (fun c => IntsAre c.1 c.2.1) [Str.ofString "more"] (fun pre c => c.2.1 = huesF pre) ([], [], 0) (by rfl) (fun _ => List.Mem.tail _ hl) hi lF' lN' ?kf ?kk ?kp ?_ ?_
  case kf => exact IntsAre.nil
  case kk => exact List.forall_mem_nil _
  case kp => rfl
  · intro c pre post n t u h tk own hns hmem hoff hfacts hP kFr kNews
    obtain ⟨us, ks, cc⟩ := c
    have kMark := kstMark
    dsimp only [kstB] at kFr
    dsimp only at kNews hfacts hP
    (try simp only [List.cons_append] at kNews)
    clear lF' lN'
    change Fr g1 L1 _ _ at kFr
    change News g1 L1 _ _ at kNews
    (try k_fold)
    k_extra "st"
    k_extra "for"
    k_extra "st"
    rename_i a1 _ la1 a2 _ la2 a3 _ la3 a0 _ FF NN la
    have q0 := Int.fmod_nonneg_of_pos n (show (0 : Int) < 48 by decide)
    have q1 := Int.fmod_lt_of_pos n (show (0 : Int) < 48 by decide)
    have q2 : 0 ≤ (n.fmod 48).fdiv 16 ∧ (n.fmod 48).fdiv 16 < 3 := by
      rw [Int.fdiv_eq_ediv_of_nonneg _ (by decide)]; omega
    have sub : ∀ (it : Addr) (o : Obj), (it, o) ∈ [(a3, listOf #[Value.int 0 (tk + 1 + 1 + 1), Value.int 4 (tk + 1 + 1 + 1 + 1), Value.int 8 (tk + 1 + 1 + 1 + 1 + 1), Value.int 12 (tk + 1 + 1 + 1 + 1 + 1 + 1)] 0), (a2, listOf #[Value.int 0 (tk + 1), Value.int 8 (tk + 1 + 1)] 0), (a1, listOf #[Value.int 0 tk] 0)] → News g1 L1 _ ((D0, listOf us.toArray cc) :: (it, o) :: (news ++ own)) := fun it o hm => cb_drop NN (fun p hp => by
      rcases List.mem_cons.mp hp with rfl | hp
      · exact .tail _ (.tail _ (.tail _ (.tail _ (.head _))))
      rcases List.mem_cons.mp hp with rfl | hp
      · exact .tail _ (List.mem_append_left ((D0, listOf us.toArray cc) :: (news ++ own)) hm)
      · exact .tail _ (.tail _ (.tail _ (.tail _ (.tail _ hp)))))
    obtain ⟨it, vals, hitem, hmemI, hints, hlt⟩ : ∃ it vals, (#[Value.ref a1, Value.ref a2, Value.ref a3] : Array Value)[((n.fmod 48).fdiv 16).toNat]? = some (.ref it) ∧ News g1 L1 _ ((D0, listOf us.toArray cc) :: (it, listOf vals.toArray 0) :: (news ++ own)) ∧ IntsAre vals (offs n) ∧ D0 < it := by
      unfold offs
      rcases (show (n.fmod 48).fdiv 16 = 0 ∨ (n.fmod 48).fdiv 16 = 1 ∨ (n.fmod 48).fdiv 16 = 2 by omega) with e | e | e
      · rw [e]
        exact ⟨a1, [Value.int 0 tk], rfl, sub _ _ (.tail _ (.tail _ (.head _))), .cons _ _ .nil, la1.1⟩
      · rw [e]
        exact ⟨a2, [Value.int 0 (tk + 1), Value.int 8 (tk + 1 + 1)], rfl, sub _ _ (.tail _ (.head _)), .cons _ _ (.cons _ _ .nil), la2.2.1⟩
      · rw [e]
        exact ⟨a3, [Value.int 0 (tk + 1 + 1 + 1), Value.int 4 (tk + 1 + 1 + 1 + 1), Value.int 8 (tk + 1 + 1 + 1 + 1 + 1), Value.int 12 (tk + 1 + 1 + 1 + 1 + 1 + 1)], rfl, sub _ _ (.head _), .cons _ _ (.cons _ _ (.cons _ _ (.cons _ _ .nil))), la3.2.2.1⟩
    refine item_list (News.isList NN (.head _)) q2.1 (by omega) hitem (by with_unfolding_all rfl) ?_
    clear NN sub
    k_extra "st"
    refine kst_listL (σ := List Value × List Int × Nat) (fun c => (D0, listOf c.1.toArray c.2.2) :: (it, listOf vals.toArray 0) :: (news ++ own)) (fun _ => []) (fun c => IntsAre c.1 c.2.1) [] (fun pre c => c.2.1 = pre.foldl (fun hs k => addHue hs ((n + k).fmod 16)) ks) (us, ks, cc) rfl (fun _ => .tail _ (.head _)) hints FF hmemI hfacts (List.forall_mem_nil _) rfl ?_ ?_
    · intro c pre2 post2 v t2 u2 h9 tk9 own2 hns2 hmem2 hoff2 hfacts2 hP2 kFr2 kNews2
      obtain ⟨us2, ks2, cc2⟩ := c
      dsimp only [kstB] at kFr2
      dsimp only at kNews2 hfacts2 hP2
      (try simp only [List.cons_append] at kNews2)
      change Fr g1 L1 _ _ at kFr2
      change News g1 L1 _ _ at kNews2
      clear hmemI FF
      (try k_fold)
      k_extra "st"
      · rename News _ _ _ _ => nE
        refine kst_end ⟨us2, ks2, cc2⟩ (by assumption) nE (by kst_in) (by intro p hp; kst_mem) rfl hfacts2 (List.forall_mem_nil _) (by kst_same) ?_
        rw [List.foldl_append, ← hP2]
        exact (addHue_in (by assumption)).symm
      · have hne : ∀ p ∈ (it, listOf vals.toArray 0) :: (news ++ own ++ own2), p.1 ≠ D0 := by
          intro p hp
          rcases List.mem_cons.mp hp with rfl | hp
          · exact Nat.ne_of_gt hlt
          rcases List.mem_append.mp hp with hp | hp
          · rcases List.mem_append.mp hp with hp | hp
            · exact Nat.ne_of_lt (l1 p hp)
            · exact hoff p hp D0 (.head _)
          · exact hoff2 p hp D0 (.head _)
        rename News _ _ _ _ => nE
        rename Fr _ _ _ _ => fE
        refine append_K fE nE (Upd.head hne) ?_ ?_
        · intro h' F' N'
          clear nE fE
          k_extra "st"
          rename News _ _ _ _ => nE
          simp only [List.push_toArray] at nE
          refine kst_end ⟨us2 ++ [Value.int ((n + v).fmod 16) _], ks2 ++ [(n + v).fmod 16], cc2 + 1⟩ (by assumption) nE (by kst_in) (by intro p hp; kst_mem) rfl (hfacts2.append (.cons _ _ .nil)) (List.forall_mem_nil _) (by kst_same) ?_
          rw [List.foldl_append, ← hP2]
          exact (addHue_new (by assumption)).symm
        · have e1 := hfacts2.length
          have e2 := foldHue_len n pre2 ks
          rw [← hP2] at e2
          have e3 := huesF_len pre
          rw [← hP] at e3
          have e4 := offs_len n
          rw [hns2, List.length_append, List.length_cons] at e4
          rw [hns, List.length_append, List.length_cons] at h5
          rw [sizeLine_eq, List.size_toArray]
          omega
    · intro c u9 h9 tk9 hfacts2 hP2 kFr2 kNews2
      obtain ⟨us2, ks2, cc2⟩ := c
      dsimp only [kstB] at kFr2
      dsimp only at kNews2 hfacts2 hP2
      change Fr g1 L1 _ _ at kFr2
      change News g1 L1 _ _ at kNews2
      clear hmemI FF
      k_extra "st"
      rename News _ _ _ _ => nE
      refine kst_end ⟨us2, ks2, cc2⟩ (by assumption) nE (by kst_in) (by intro p hp; kst_mem) rfl hfacts2 (List.forall_mem_nil _) (by kst_same) ?_
      rw [huesF_snoc, ← hP]
      exact hP2
  · intro c u9 h9 tk9 hfacts2 hP2 kFr2 kNews2
    obtain ⟨us2, ks2, cc2⟩ := c
    dsimp only [kstB] at kFr2
    dsimp only at kNews2 hfacts2 hP2
    change Fr g1 L1 _ _ at kFr2
    change News g1 L1 _ _ at kNews2
    clear lF' lN'
    k_extra "st"
    exact hret _ _ _ _ _ (hP2 ▸ hfacts2) (by assumption) (by assumption) l1
end
end Mine
namespace Mine
/-- what is known of the count of tokens behind a step -/
def TokMark (n : Nat) (s' : Shared) (P : Prop) : Prop := n ≤ s'.toks → P
section
variable {α : Type} {M : Model} {A : Around} {E : Value → Shared → Prop} {s : Shared}
theorem wpAny_mark {n : Nat} {t : Sem α} {Q : α → Shared → Prop} (hn : n ≤ s.toks) (h : wpAny M A t (fun a s' => TokMark n s' (Q a s')) E s) : wpAny M A t Q E s :=
  wpAny_mono (wpAny_toks_of hn h) (fun _ _ x => x.2 x.1) (fun _ _ x => x.2)
theorem wp_tok {t : Sem α} {Q : α → Shared → Prop} {h : Heap} {g : Array GenState} {d : Drawn} {X n : Nat} {os : OsState} (hle : n ≤ X) (k : ∀ T, n ≤ T → wpAny M A t Q E ⟨h, g, d, T, os⟩) : wpAny M A t Q E ⟨h, g, d, X, os⟩ := k X hle
end

def EndT (h₀ : Heap) (L : Addr) (J : Tok → (Str → Option Value) → List (Addr × Obj) → Prop) (own : List (Addr × Obj)) (s₁ s₂ : Shared) : Prop :=
  ∃ h' tk m' nw, s₂ = { s₁ with heap := h', toks := tk } ∧ Fr h₀ L h' m' ∧ News h₀ L h' (nw ++ own) ∧ J tk m' nw
def PostT (h₀ : Heap) (L : Addr) (J : Tok → (Str → Option Value) → List (Addr × Obj) → Prop) (own : List (Addr × Obj)) (s₁ : Shared) (Q : Flow → Shared → Prop) : Flow → Shared → Prop
  | .ret v, s₂ => Q (.ret v) s₂
  | .brk, s₂ => Q .next s₂
  | .next, s₂ => EndT h₀ L J own s₁ s₂
  | .cont, s₂ => EndT h₀ L J own s₁ s₂
section
variable {prog : Program} {w : World} {A : Around} {E : Value → Shared → Prop} {s : Shared} {env : Env} {h₀ : Heap} {x : Str} {px : Pos} {body : List Stmt} {Q : Flow → Shared → Prop}

/-- a for over a list of the ledger; what holds between the turns may speak of the count of tokens -/
theorem iterT {l : Addr} {items : List Value} {nn : Nat} {m₀ : Str → Option Value} {news : List (Addr × Obj)} (J : Nat → Tok → (Str → Option Value) → List (Addr × Obj) → Prop)
    (hh : A.handled = none) (hx : env.kindOf x = some .local) (hp : (env.scope.kind == .class || (env.scope.kind == .module && env.locals != env.globals)) = false)
    (F : Fr h₀ env.locals s.heap m₀) (N : News h₀ env.locals s.heap news) (hj : J 0 s.toks m₀ news)
    (mono : ∀ i t t' m nw, t ≤ t' → J i t m nw → J i t' m nw) (hold : ∀ i t m nw, J i t m nw → (l, listOf items.toArray nn) ∈ nw ∧ ∀ p ∈ nw, ∃ q ∈ news, p.1 = q.1)
    (turn : ∀ i v t h I o m nw, items[i]? = some v → J i t m nw → (∀ p ∈ nw, p.1 < I) → Fr h₀ env.locals h (fun y => if y = x then some v else m y) → News h₀ env.locals h (nw ++ [(I, o)]) →
      wpAny (model prog w) A (execs body env) (PostT h₀ env.locals (J (i + 1)) [(I, o)] { s with heap := h, toks := t } Q) E { s with heap := h, toks := t })
    (done : ∀ t h m nw, J items.length t m nw → Fr h₀ env.locals h m → News h₀ env.locals h nw → Q .next { s with heap := h, toks := t })
    (hE : PassesOwn (model prog w) A env E) :
    wpAny (model prog w) A (pyIter (.ref l)) (fun it s₂ => codeAny (model prog w) A (.forLoop (.Name x px) it body [] env) (fun r s' => match r with | .ok f => Q f s' | .error e => cameBackBy (model prog w) A env E e s') s₂) E s := by
  have hls : s.heap.IsList l items.toArray := News.isList N (hold 0 _ _ _ hj).1
  obtain ⟨ol, hol, _⟩ := id hls
  have hlI : l < s.heap.objs.size := Heap.lt_size hol
  have hLI : env.locals < s.heap.objs.size := F.ns.lt
  have hnI : ∀ p ∈ news, p.1 < s.heap.objs.size := fun p hp => Heap.lt_size (N p hp).1
  have hfI : h₀.get? s.heap.objs.size = none := next_is_new F
  have W := Walks.list (prog := prog) (w := w) hh s.heap.objs.size l (Nat.ne_of_lt hlI) items.toArray
  rw [List.size_toArray] at W
  refine wpAny_pyIter_list hls ?_
  refine codeAny_forLoop (fun k s' => ∃ h tk m nw i o, s' = { s with heap := h, toks := tk } ∧ h.IsListIter s.heap.objs.size l i ∧ h.get? s.heap.objs.size = some o ∧ Fr h₀ env.locals h m ∧ News h₀ env.locals h nw ∧ J i tk m nw ∧ i ≤ items.length ∧ k = items.length + 1 - i) ?_ (items.length + 1)
    ⟨_, _, m₀, news, 0, _, rfl, ⟨_, Heap.get?_push_size _ rfl, rfl, rfl⟩, Heap.get?_push_size _ rfl, F.push _, fun p hp => ⟨Heap.get?_push_of_some _ (N p hp).1, (N p hp).2⟩, hj, Nat.zero_le _, rfl⟩
  rintro k s' ⟨h, tk, m, nw, i, o, rfl, hit, ho, Fh, Nh, hJ, hi, rfl⟩
  obtain ⟨hmem, hadr⟩ := hold _ _ _ _ hJ
  have hlt : ∀ p ∈ nw, p.1 < s.heap.objs.size := fun p hp => by
    obtain ⟨q, hq, e⟩ := hadr p hp
    rw [e]; exact hnI q hq
  have hlh : h.IsList l items.toArray := News.isList Nh hmem
  have up : ∀ h₁ : Heap, (∀ b ob, b ∉ [s.heap.objs.size] → h.get? b = some ob → h₁.get? b = some ob) → Fr h₀ env.locals h₁ m ∧ News h₀ env.locals h₁ nw := fun h₁ hk₁ => by
    have away : ∀ b, b < s.heap.objs.size → b ∉ [s.heap.objs.size] := fun b hb hm => Nat.lt_irrefl _ ((List.mem_singleton.mp hm) ▸ hb)
    refine ⟨⟨Fh.ns.at' fun ob e => hk₁ _ ob (away _ hLI) e, fun b ob e => hk₁ b ob (fun hm => ?_) (Fh.keep b ob e), Fh.above⟩, fun p hp => ⟨hk₁ _ _ (away _ (hlt p hp)) (Nh p hp).1, (Nh p hp).2⟩⟩
    rw [List.mem_singleton.mp hm, hfI] at e
    cases e
  by_cases hc : i < items.length
  · refine wpAny_with_toks (n := tk) (Nat.le_refl _) (W.item i _ _ _ hc ⟨hit, hlh⟩ fun v h₁ tk₁ hv hst hk₁ htk => ?_)
    obtain ⟨F₁, N₁⟩ := up h₁ hk₁
    refine wpAny_assign_Name (wpAny_storeName_local hx F₁.ns (fun h₂ hn₂ hs₂ => ?_) hp)
    have F₂ := F₁.set hn₂ hs₂
    have hne : s.heap.objs.size ≠ env.locals := Nat.ne_of_gt hLI
    obtain ⟨o₁, ho₁, _⟩ := id hst.1
    have ho₂ : h₂.get? s.heap.objs.size = some o₁ := (hs₂.2 _ hne).trans ho₁
    have N₂ : News h₀ env.locals h₂ (nw ++ [(s.heap.objs.size, o₁)]) := fun p hp => by
      rcases List.mem_append.mp hp with hp | hp
      · exact (N₁.set hs₂) p hp
      · rw [List.mem_singleton.mp hp]; exact ⟨ho₂, hne, hfI⟩
    refine wpAny_mono (wpAny_passesOwn hE (turn i v _ h₂ s.heap.objs.size o₁ m nw (by simpa using hv) (mono _ _ _ _ _ (Nat.le_succ_of_le htk) hJ) hlt F₂ N₂)) (fun f s₃ q => ?_) fun _ _ y => y
    have fin : EndT h₀ env.locals (J (i + 1)) [(s.heap.objs.size, o₁)] { s with heap := h₂, toks := tk₁ + 1 } s₃ → ∃ k', k' < items.length + 1 - i ∧ ∃ h tk m nw i o, s₃ = { s with heap := h, toks := tk } ∧ h.IsListIter s.heap.objs.size l i ∧ h.get? s.heap.objs.size = some o ∧ Fr h₀ env.locals h m ∧ News h₀ env.locals h nw ∧ J i tk m nw ∧ i ≤ items.length ∧ k' = items.length + 1 - i := by
      rintro ⟨h₄, t₄, m₄, nw₄, rfl, F₄, N₄, J₄⟩
      have hI := (N₄ (s.heap.objs.size, o₁) (List.mem_append_right _ (List.mem_singleton.mpr rfl))).1
      obtain ⟨o₅, e₅, c₅⟩ := hst.1
      have : o₅ = o₁ := Option.some.inj (e₅.symm.trans ho₁)
      subst this
      exact ⟨items.length + 1 - (i + 1), by omega, h₄, t₄, m₄, nw₄, i + 1, o₅, rfl, ⟨_, hI, c₅⟩, hI, F₄, fun p hp => N₄ p (List.mem_append_left _ hp), J₄, hc, rfl⟩
    cases f with
    | ret r => exact q
    | brk => exact q
    | next => exact fin q
    | cont => exact fin q
  · have hin : i = items.length := by omega
    subst hin
    refine wpAny_with_toks (n := tk) (Nat.le_refl _) (W.done _ _ _ ⟨hit, hlh⟩ fun h₁ tk₁ hk₁ htk => wpAny_execs_nil ?_)
    obtain ⟨F₁, N₁⟩ := up h₁ hk₁
    exact done tk₁ h₁ m nw (mono _ _ _ _ _ htk hJ) F₁ N₁
theorem forT {px pos : Pos} {iter : Expr}
    (h : wpAny (model prog w) A (eval iter env) (fun xv s₁ => wpAny (model prog w) A (pyIter xv) (fun it s₂ => codeAny (model prog w) A (.forLoop (.Name x px) it body [] env) (fun r s' => match r with | .ok f => Q f s' | .error e => cameBackBy (model prog w) A env E e s') s₂) E s₁) E s)
    (hs : ∀ x, foldedSetIterable iter env x = pure x) : wpAny (model prog w) A (exec (.For (.Name x px) iter body [] pos) env) Q E s := wpAny_For h hs
end

def JS {σ : Type} (Led : σ → List (Addr × Obj)) (x : Str) (stored : List Str) (m₀ : Str → Option Value) (P : Nat → Tok → σ → Prop) (i : Nat) (t : Tok) (m : Str → Option Value) (nw : List (Addr × Obj)) : Prop :=
  ∃ c : σ, nw = Led c ∧ P i t c ∧ ∀ z, z ≠ x → stored.contains z = false → m z = m₀ z
theorem frS {h₀ h : Heap} {L : Addr} {x : Str} {stored : List Str} {m m₀ : Str → Option Value} {v : Value} (hm : ∀ z, z ≠ x → stored.contains z = false → m z = m₀ z) (F : Fr h₀ L h (fun y => if y = x then some v else m y)) :
    Fr h₀ L h (fun y => if y = x then some v else if stored.contains y then m y else m₀ y) := by
  have e : (fun y => if y = x then some v else if stored.contains y then m y else m₀ y) = fun y => if y = x then some v else m y := by
    funext y
    by_cases hy : y = x
    · rw [if_pos hy, if_pos hy]
    · rw [if_neg hy, if_neg hy]
      cases hs : stored.contains y with
      | true => simp
      | false => simp only [Bool.false_eq_true, if_false]; exact (hm y hy hs).symm
  rw [e]; exact F
theorem frS_out {h₀ h : Heap} {L : Addr} {x : Str} {stored : List Str} {m m₀ : Str → Option Value} (hm : ∀ z, z ≠ x → stored.contains z = false → m z = m₀ z) (F : Fr h₀ L h m) :
    Fr h₀ L h (fun y => if y = x then m y else if stored.contains y then m y else m₀ y) := by
  have e : (fun y => if y = x then m y else if stored.contains y then m y else m₀ y) = m := by
    funext y
    by_cases hy : y = x
    · rw [if_pos hy]
    · rw [if_neg hy]
      cases hs : stored.contains y with
      | true => simp
      | false => simp only [Bool.false_eq_true, if_false]; exact (hm y hy hs).symm
  rw [e]; exact F
theorem endS {σ : Type} {h₀ : Heap} {L : Addr} {Led : σ → List (Addr × Obj)} {x : Str} {stored : List Str} {m₀ m' : Str → Option Value} {P : Nat → Tok → σ → Prop} {i : Nat} {own news' : List (Addr × Obj)} {s₁ : Shared} {h' : Heap} {tk : Nat} (c : σ)
    (F : Fr h₀ L h' m') (N : News h₀ L h' news') (hn : ∀ p ∈ Led c, p ∈ news') (ho : ∀ p ∈ own, p ∈ news') (hm : ∀ z, z ≠ x → stored.contains z = false → m' z = m₀ z) (hp : P i tk c) :
    EndT h₀ L (JS Led x stored m₀ P i) own s₁ { s₁ with heap := h', toks := tk } :=
  ⟨h', tk, m', Led c, rfl, F, fun p hp => N p ((List.mem_append.mp hp).elim (hn p) (ho p)), c, rfl, hp, hm⟩
section
variable {prog : Program} {w : World} {A : Around} {E : Value → Shared → Prop} {s : Shared} {env : Env} {h₀ : Heap} {x : Str} {px : Pos} {body : List Stmt} {Q : Flow → Shared → Prop}
theorem iterS {σ : Type} {l : Addr} {items : List Value} {nn : Nat} {m₀ : Str → Option Value} (Led : σ → List (Addr × Obj)) (stored : List Str) (P : Nat → Tok → σ → Prop) (c₀ : σ)
    (hh : A.handled = none) (hx : env.kindOf x = some .local) (hp : (env.scope.kind == .class || (env.scope.kind == .module && env.locals != env.globals)) = false) (hE : PassesOwn (model prog w) A env E)
    (hl : ∀ c, (l, listOf items.toArray nn) ∈ Led c) (ha : ∀ c, (Led c).map (·.1) = (Led c₀).map (·.1)) (mono : ∀ i t t' c, t ≤ t' → P i t c → P i t' c)
    (F : Fr h₀ env.locals s.heap m₀) (N : News h₀ env.locals s.heap (Led c₀)) (hj : P 0 s.toks c₀)
    (turn : ∀ i v t h I o c (u : Str → Option Value), items[i]? = some v → P i t c → (∀ p ∈ Led c, p.1 < I) → Fr h₀ env.locals h (fun y => if y = x then some v else if stored.contains y then u y else m₀ y) → News h₀ env.locals h (Led c ++ [(I, o)]) →
      wpAny (model prog w) A (execs body env) (PostT h₀ env.locals (JS Led x stored m₀ P (i + 1)) [(I, o)] { s with heap := h, toks := t } Q) E { s with heap := h, toks := t })
    (done : ∀ t h c (u : Str → Option Value), P items.length t c → Fr h₀ env.locals h (fun y => if y = x then u y else if stored.contains y then u y else m₀ y) → News h₀ env.locals h (Led c) → Q .next { s with heap := h, toks := t }) :
    wpAny (model prog w) A (pyIter (.ref l)) (fun it s₂ => codeAny (model prog w) A (.forLoop (.Name x px) it body [] env) (fun r s' => match r with | .ok f => Q f s' | .error e => cameBackBy (model prog w) A env E e s') s₂) E s := by
  refine iterT (items := items) (nn := nn) (JS Led x stored m₀ P) hh hx hp F N ⟨c₀, rfl, hj, fun _ _ _ => rfl⟩ ?_ ?_ ?_ ?_ hE
  · rintro i t t' m nw ht ⟨c, e1, e2, e3⟩
    exact ⟨c, e1, mono _ _ _ _ ht e2, e3⟩
  · rintro i t m nw ⟨c, rfl, _⟩
    refine ⟨hl c, fun p hp => ?_⟩
    have h1 : p.1 ∈ (Led c).map (·.1) := List.mem_map_of_mem hp
    rw [ha c] at h1
    obtain ⟨q, hq, e⟩ := List.mem_map.mp h1
    exact ⟨q, hq, e.symm⟩
  · rintro i v t h I o m nw hv ⟨c, rfl, hP, hm⟩ hlt F₂ N₂
    exact turn i v t h I o c m hv hP hlt (frS hm F₂) N₂
  · rintro t h m nw ⟨c, rfl, hP, hm⟩ F₂ N₂
    exact done t h c m hP (frS_out hm F₂) N₂
end
theorem cmp_self {x : UInt64} (h : Float64.isNaN x = false) : Float64.cmp x x = some .eq := by
  unfold Float64.isNaN at h
  unfold Float64.cmp
  cases hd : Float64.decode x with
  | nan => rw [hd] at h; cases h
  | inf a => simp [compare, compareOfLessAndEq]
  | fin a m e => simp [Float64.align, compare, compareOfLessAndEq]

theorem eqAt_float {A : Around} {s : Shared} {x y : UInt64} {t u : Tok} (hb : NoneBooked s.heap) (ht : t ≠ 0) (hu : u ≠ 0) (htu : t ≠ u) (hx : Float64.isNaN x = false)   : SeqAt.EqAt A s (.float x t) (.float y u) (Float64.cmp x y == some .eq) := by
  intro prog w E Q hq
  unfold eqBool
  refine wpAny_holding ?_
  have hne : ¬ ((Value.float x t == Value.float y u) = true) := fun e => by
    have := eq_of_beq e
    injection this with _ e2
    exact htu e2
  rw [if_neg hne]
  have go : wpAny (model prog w) A (isSame (.float x t) (.float y u)) (fun b s' => s' = s ∧ (b = true → x = y)) E s := by
    show wpAny _ A (isSame.created (x == y && !Float64.isNaN x) t u) _ E s
    unfold isSame.created
    have h0 : ¬ ((t == 0 || u == 0) = true) := by simp [ht, hu]
    have h1 : ¬ ((t == u) = true) := by simp [htu]
    rw [if_neg h0, if_neg h1]
    by_cases hc : (x == y && !Float64.isNaN x) = true
    · have hxy : x = y := by
        rw [Bool.and_eq_true] at hc
        exact eq_of_beq hc.1
      rw [hc]
      refine wpAny_ite ?_
      rw [if_neg (by decide)]
      refine wpAny_bind (wpAny_sharingNotTold_none hb ?_)
      rw [if_neg Bool.false_ne_true]
      refine wpAny_bind (wpAny_sharingNotTold_none hb ?_)
      rw [if_neg Bool.false_ne_true]
      exact wpAny_bind (wpAny_rule (wpAny_bind (wpAny_askSetting (wpAny_pure ⟨rfl, fun _ => hxy⟩))))
    · have hc' : (x == y && !Float64.isNaN x) = false := Bool.eq_false_iff.mpr hc
      rw [hc']
      exact wpAny_pure ⟨rfl, fun e => nomatch e⟩
  refine wpAny_bind (wpAny_mono go (fun b s' hb' => ?_) fun _ _ e => e)
  obtain ⟨rfl, hxy⟩ := hb'
  cases b with
  | true =>
    have e := hxy rfl
    subst e
    rw [cmp_self hx] at hq
    exact wpAny_pure hq
  | false =>
    exact wpAny_bind (AutoFloatOps.eq_0 (wpAny_truthy_bool hq))
end Mine
namespace Mine
theorem noneBooked {w : World} {h : Heap} (X : (hd1.heap_39 w.params).In h) (hl : h.NoLimit) : NoneBooked h := by
  obtain ⟨mc, ⟨o, es, ep, ho, hd, hk, hf⟩, _⟩ := hl
  have e := X 2 _ rfl
  have e2 := ho.symm.trans e
  cases e2
  cases hd
  exact ⟨mc, ⟨_, _, _, ho, rfl, hk, hf⟩, by rw [← hf]; rfl⟩
/-- floats that are whole hues, each with a token below T -/
inductive Hues (T : Nat) : List Value → List Nat → Prop
  | nil : Hues T [] []
  | cons {i t : Nat} {vs : List Value} {ks : List Nat} : i < 16 → t ≠ 0 → t < T → Hues T vs ks → Hues T (.float (Float64.ofInt (i : Int)) t :: vs) (i :: ks)
theorem Hues.mono {T T' : Nat} {vs : List Value} {ks : List Nat} (h : Hues T vs ks) (hT : T ≤ T') : Hues T' vs ks := by
  induction h with
  | nil => exact .nil
  | cons a b c _ ih => exact .cons a b (Nat.lt_of_lt_of_le c hT) ih
theorem Hues.snoc {T : Nat} {vs : List Value} {ks : List Nat} {i t : Nat} (h : Hues T vs ks) (a : i < 16) (b : t ≠ 0) (c : t < T) : Hues T (vs ++ [.float (Float64.ofInt (i : Int)) t]) (ks ++ [i]) := by
  induction h with
  | nil => exact .cons a b c .nil
  | cons a' b' c' _ ih => exact .cons a' b' c' ih
theorem Hues.length {T : Nat} {vs : List Value} {ks : List Nat} (h : Hues T vs ks) : vs.length = ks.length := by
  induction h with
  | nil => rfl
  | cons _ _ _ _ ih => rw [List.length_cons, List.length_cons, ih]
theorem hue_eq : ∀ i j : Fin 16, (Float64.cmp (Float64.ofInt ((i.val : Nat) : Int)) (Float64.ofInt ((j.val : Nat) : Int)) == some .eq) = (i.val == j.val) := by decide +kernel
theorem hue_nan : ∀ i : Fin 16, Float64.isNaN (Float64.ofInt ((i.val : Nat) : Int)) = false := by decide +kernel
def isHue (k : Nat) : Value → Bool
  | .float b _ => Float64.cmp b (Float64.ofInt (k : Int)) == some .eq
  | _ => false
theorem Hues.any {T k : Nat} {vs : List Value} {ks : List Nat} (h : Hues T vs ks) (hk : k < 16) : vs.any (isHue k) = ks.any (· == k) := by
  induction h with
  | nil => rfl
  | @cons i t vs ks a _ _ _ ih =>
    rw [List.any_cons, List.any_cons, ih]
    show ((Float64.cmp (Float64.ofInt (i : Int)) (Float64.ofInt (k : Int)) == some .eq) || _) = _
    rw [hue_eq ⟨i, a⟩ ⟨k, hk⟩]
theorem Hues.eqAt {T k tk : Nat} {vs : List Value} {ks : List Nat} {A : Around} {s : Shared} (h : Hues T vs ks) (hb : NoneBooked s.heap) (h0 : tk ≠ 0) (hT : T ≤ tk) : ∀ y, y ∈ vs → SeqAt.EqAt A s y (.float (Float64.ofInt (k : Int)) tk) (isHue k y) := by
  induction h with
  | nil => intro y hy; cases hy
  | @cons i t vs ks a b c _ ih =>
    intro y hy
    rcases List.mem_cons.mp hy with rfl | hy
    · exact eqAt_float hb b h0 (Nat.ne_of_lt (Nat.lt_of_lt_of_le c hT)) (hue_nan ⟨i, a⟩)
    · exact ih y hy
section
variable {prog : Program} {w : World} {A : Around} {E : Value → Shared → Prop} {s : Shared} {h₀ : Heap} {L D : Addr} {news : List (Addr × Obj)} {Q : Value → Shared → Prop}
theorem notin_hues {T k tk cc : Nat} {vs : List Value} {ks : List Nat} (N : News h₀ L s.heap news) (hm : (D, listOf vs.toArray cc) ∈ news) (h : Hues T vs ks) (hb : NoneBooked s.heap) (h0 : tk ≠ 0) (hT : T ≤ tk) (hk : k < 16)
    (hq : Q (.bool (!ks.any (· == k))) s) : wpAny (model prog w) A (compareOp .NotIn (.float (Float64.ofInt (k : Int)) tk) (.ref D)) Q E s := by
  refine SeqAt.notIn_listAt (isHue k) (News.isList N hm) (fun y hy => h.eqAt hb h0 hT y (by simpa using hy)) ?_
  rw [List.any_toArray, h.any hk]
  exact hq
end
def addN (ks : List Nat) (k : Nat) : List Nat := if ks.any (· == k) then ks else ks ++ [k]
theorem addN_in {ks : List Nat} {k : Nat} (h : (ks.any (· == k)) = true) : addN ks k = ks := by unfold addN; rw [if_pos h]
theorem addN_new {ks : List Nat} {k : Nat} (h : (ks.any (· == k)) = false) : addN ks k = ks ++ [k] := by unfold addN; rw [if_neg (by rw [h]; exact Bool.false_ne_true)]
theorem addN_len (ks : List Nat) (k : Nat) : (addN ks k).length ≤ ks.length + 1 := by
  unfold addN; split
  · omega
  · simp
def kindsF (n : Int) (ns : List Int) : List Nat := ns.foldl (fun ks h => addN ks ((n * h).toNat % 16)) []

theorem foldN_len (n : Int) : ∀ (l : List Int) (ks : List Nat), (l.foldl (fun ks h => addN ks ((n * h).toNat % 16)) ks).length ≤ ks.length + l.length
  | [], ks => by simp
  | h :: l, ks => by
    have h1 := foldN_len n l (addN ks ((n * h).toNat % 16))
    have h2 := addN_len ks ((n * h).toNat % 16)
    rw [List.foldl_cons, List.length_cons]
    omega
theorem kindsF_len (n : Int) (l : List Int) : (kindsF n l).length ≤ l.length := by
  have := foldN_len n l []
  rw [List.length_nil, Nat.zero_add] at this
  exact this
/-- k sixteenths -/
def qF (k : Nat) : UInt64 := Float64.ofFrac false k 16
def turnF (k : Nat) : UInt64 := Float64.sub (Float64.mul (qF k) 4618441417868443648) (Float64.ofInt (hsvI (qF k)))
def fitF (x : UInt64) : Bool := !Float64.isNaN (Float64.mul x 4618441417868443648) && (!Float64.isInf (Float64.mul x 4618441417868443648) && decide ((hsvI x).natAbs < 2 ^ 1024 - 2 ^ 970))
theorem hsvOk_fit {x y : UInt64} (h : fitF x = true) : hsvOk x y = true := by unfold hsvOk; rw [show (!Float64.isNaN (Float64.mul x 4618441417868443648) && (!Float64.isInf (Float64.mul x 4618441417868443648) && decide ((hsvI x).natAbs < 2 ^ 1024 - 2 ^ 970))) = true from h, Bool.or_true]
/-- whole turns fall out -/
theorem turn_tab : (List.range 241).all (fun k => fitF (qF k) && ((hsvI (qF k)).fmod 6 == (hsvI (qF (k % 16))).fmod 6 && turnF k == turnF (k % 16))) = true := by decide +kernel
theorem turn_at {k : Nat} (hk : k ≤ 240) : fitF (qF k) = true ∧ (hsvI (qF k)).fmod 6 = (hsvI (qF (k % 16))).fmod 6 ∧ turnF k = turnF (k % 16) := by
  have h := List.all_eq_true.mp turn_tab k (List.mem_range.mpr (by omega))
  rw [Bool.and_eq_true, Bool.and_eq_true] at h
  exact ⟨h.1, eq_of_beq h.2.1, eq_of_beq h.2.2⟩
theorem hsv_turn {k : Nat} (hk : k ≤ 240) (y z : UInt64) : hsvF (qF k) y z = hsvF (qF (k % 16)) y z := by
  obtain ⟨_, h1, h2⟩ := turn_at hk
  unfold turnF at h2
  unfold hsvF
  rw [h1, h2]
def kindOk (t : UInt64 × UInt64 × UInt64) (k : Nat) : Bool := hlsOk t.1 t.2.1 t.2.2 && Float64.mul (Float64.ofInt 16) (hueF t.1 t.2.1 t.2.2) == Float64.ofInt (k : Int)
theorem kind_tab : (List.range 16).all (fun k => kindOk (hsvF (qF k) 4607182418800017408 4607182418800017408) k) = true := by decide +kernel
theorem kind_at {k : Nat} (hk : k ≤ 240) : hlsOk (hsvF (qF k) 4607182418800017408 4607182418800017408).1 (hsvF (qF k) 4607182418800017408 4607182418800017408).2.1 (hsvF (qF k) 4607182418800017408 4607182418800017408).2.2 = true ∧
    Float64.mul (Float64.ofInt 16) (hueF (hsvF (qF k) 4607182418800017408 4607182418800017408).1 (hsvF (qF k) 4607182418800017408 4607182418800017408).2.1 (hsvF (qF k) 4607182418800017408 4607182418800017408).2.2) = Float64.ofInt ((k % 16 : Nat) : Int) := by
  rw [hsv_turn hk]
  have h := List.all_eq_true.mp kind_tab (k % 16) (List.mem_range.mpr (Nat.mod_lt _ (by decide)))
  unfold kindOk at h
  rw [Bool.and_eq_true] at h
  exact ⟨h.1, eq_of_beq h.2⟩
theorem qF_of {i : Int} {k : Nat} (h : i = (k : Int)) : Float64.ofFrac (decide (i < 0) != decide ((16 : Int) < 0)) i.natAbs (Int.natAbs 16) = qF k := by
  subst h
  rw [decide_eq_false (by omega : ¬ ((k : Int) < 0))]
  rfl
theorem words6 : True := by
  k_with_none
  k_with "st" => (repeat' ((fail_if_success (with_reducible show wpAny _ _ (pyIter _) _ _ _)); (fail_if_success (with_reducible show InvEndN _ _ _ _ _ _ _)); (fail_if_success (with_reducible show KswEnd _ _ _ _ _ _ _ _ _ _ _ _)); (fail_if_success (with_reducible show wpAny _ _ (call (Value.builtin "list.append") _) _ _ _)); (fail_if_success (with_reducible show wpAny _ _ (call (Value.ref _) _) _ _ _)); (fail_if_success (with_reducible show wpAny _ _ (exec (Stmt.For _ _ _ _ _) _) _ _ _)); (fail_if_success (with_reducible show wpAny _ _ (exec (Stmt.While _ _ _ _) _) _ _ _)); first | (k_unfold; (try dsimp only)) | (k_end; wrow_close) | walk1 | (dsimp only; walk1) | (leave1; walk_say "STEP leave1"; try dsimp only) | fail "no step"))
  k_with "sx" => (repeat' ((fail_if_success (with_reducible show wpAny _ _ (pyIter _) _ _ _)); (fail_if_success (with_reducible show wpAny _ _ (execs (_ :: _) _) _ _ _)); (fail_if_success (with_reducible show wpAny _ _ (call (Value.builtin "list.append") _) _ _ _)); (fail_if_success (with_reducible show wpAny _ _ (call (Value.ref _) _) _ _ _)); (fail_if_success (with_reducible show wpAny _ _ (exec (Stmt.For _ _ _ _ _) _) _ _ _)); (fail_if_success (with_reducible show wpAny _ _ (exec (Stmt.While _ _ _ _) _) _ _ _)); first | (k_unfold; (try dsimp only)) | (k_end; wrow_close) | walk1 | (dsimp only; walk1) | (leave1; walk_say "STEP leave1"; try dsimp only) | fail "no step"))
  k_with "for" => ((rename Fr _ _ _ _ => lF'); (with_reducible refine' For_invVF lF' ?k1 ?k2 ?_ ?k3 ?k4); (case k1 => exact rfl); (case k2 => exact rfl); (case k3 => intro _; rfl); (case k4 => passes_own))
  k_with "same" => (intro z h2 h3; (simp only [List.contains_cons, List.contains_nil, Bool.or_false, Bool.or_eq_false_iff, beq_eq_false_iff_ne, ne_eq] at h3); simp [h2, h3])
  k_with "tle" => (repeat' (first | assumption | exact Nat.le_refl _ | refine Nat.le_succ_of_le ?_))
  k_with "here" => (first | k_asm | exact rfl | ktr_room | ktr_units)
  trivial
section
variable {w : World} {mean : ExcName → Option Value} {mg mb : Str → Option Value} {dp un : Nat} {gd : Option (List Code)} {cn : Str} {cs : Scope} {a : Addr} {ccd : Value} {cl : List (Str × Addr)} {outer : List Env} {A₀ : Around} {base h₀ : Heap} {L : Addr} {m : Str → Option Value} {news : List (Addr × Obj)} {s : Shared} {Q E : Value → Shared → Prop}
theorem kinds_ok {l : Addr} {vs : List Value} {ns : List Int} {nn : Nat} {n : Int} {tn : Tok} (H : Here 9 w mean mg mb dp un cs outer A₀ base h₀ L m news s.heap) (hl : (l, listOf vs.toArray nn) ∈ news) (hi : IntsAre vs ns) (h5 : ns.length ≤ 100) (hn1 : 0 ≤ n) (hn2 : n ≤ 16) (hh : ∀ h ∈ ns, 0 ≤ h ∧ h < 16)
  (hret : ∀ t h' tk', Fr h₀ L h' m → News h₀ L h' news → Q (.int ((kindsF n ns).length : Nat) t) { s with heap := h', toks := tk' }) :
  wpAny (model PySem.Challenge.rw_sn0021_01.row.prog w) (ktrTop dp un gd cn cs L a ccd cl outer) (call (.ref 75) [.ref l, .int n tn]) Q E s := by
  obtain ⟨B, F, X, N, T, hk, hd, hu⟩ := H
  refine wpAny_call ?_
  k_dflt cell_enter
  k_extra "st"
  refine forT ?_ (by intro _; rfl)
  k_extra "st"
  rename_i g1 L1 h1 FG1 B1 X1 T1 D0 h2 l1 h3 lF lN
  refine iterS (items := vs) (nn := nn) (σ := List Value × List Nat × Nat) (fun c => (D0, listOf c.1.toArray c.2.2) :: news) [Str.ofString "r", Str.ofString "g", Str.ofString "b", Str.ofString "kind"] (fun i t c => Hues t c.1 c.2.1 ∧ c.2.1 = kindsF n (ns.take i)) ([], [], 0) rfl rfl rfl (by passes_own) (fun _ => .tail _ hl) (fun _ => rfl) (fun i t t' c ht h => ⟨h.1.mono ht, h.2⟩) lF lN ⟨.nil, rfl⟩ ?_ ?_
  · rintro i v t h I o ⟨us, ks, cc⟩ u hv ⟨hH, hP⟩ hlt kFr kNews
    clear lF lN
    have kMark := kstMark
    dsimp only at kNews hH hP hlt
    change Fr g1 L1 _ _ at kFr
    change News g1 L1 _ _ at kNews
    have hin : i < ns.length := by
      have := hi.length
      obtain ⟨h9, _⟩ := List.getElem?_eq_some_iff.mp hv
      omega
    have hmi : ns[i] ∈ ns := List.getElem_mem hin
    obtain ⟨tv, e⟩ := hi.get i ns[i] (by simp [hin])
    obtain rfl : v = .int ns[i] tv := Option.some.inj (hv.symm.trans e)
    have hb1 := hh _ hmi
    have hsnoc : kindsF n (ns.take (i + 1)) = addN (kindsF n (ns.take i)) ((n * ns[i]).toNat % 16) := by
      unfold kindsF
      rw [List.take_add_one, List.getElem?_eq_getElem hin, List.foldl_append]
      rfl
    generalize ns[i] = q at hsnoc hb1 kFr
    obtain ⟨k, hkq, hk9⟩ : ∃ k : Nat, n * q = (k : Int) ∧ k ≤ 240 := by
      have h1 : 0 ≤ n * q := Int.mul_nonneg hn1 hb1.1
      have h2 : n * q ≤ 16 * 15 := Int.mul_le_mul hn2 (by omega) hb1.1 (by decide)
      exact ⟨(n * q).toNat, by omega, by omega⟩
    rw [hkq, Int.toNat_natCast] at hsnoc
    clear hv e hmi
    (try k_fold)
    k_extra "st"
    rw [qF_of hkq]
    refine wpAny_mark (n := t) (by k_extra "tle") ?_
    refine' hsv_ok ⟨by k_asm, by k_asm, by k_asm, by k_asm, by k_asm, by first | exact rfl | assumption, by ktr_room, by ktr_units⟩ (hsvOk_fit (turn_at hk9).1) ?_
    obtain ⟨ok2, hkind⟩ := kind_at hk9
    generalize hsvF (qF k) 4607182418800017408 4607182418800017408 = tri at ok2 hkind ⊢
    obtain ⟨r, g, b⟩ := tri
    intro D9 t1 t2 t3 h9 tk9 F9 N9 l9 htk
    replace htk : t ≤ tk9 := htk
    dsimp only at N9 hkind ok2
    simp only [List.cons_append] at N9 l9
    k_lt l9
    (try k_fold)
    k_extra "sx"
    refine wp_tok (n := t) (by k_extra "tle") ?_
    intro T2 hT2
    k_extra "st"
    refine wpAny_mark (n := t) (by k_extra "tle") ?_
    refine' hls_ok ⟨by k_asm, by k_asm, by k_asm, by k_asm, by k_asm, by first | exact rfl | assumption, by ktr_room, by ktr_units⟩ ok2 ?_
    intro D8 t4 g5 t5 b6 t6 h8 tk8 F8 N8 l8 htk8
    replace htk8 : t ≤ tk8 := htk8
    (try k_fold)
    k_extra "sx"
    refine wp_tok (n := tk8 + 2) (by k_extra "tle") ?_
    intro T3 hT3
    have htT : t ≤ T3 := Nat.le_trans htk8 (Nat.le_trans (Nat.le_add_right _ 2) hT3)
    refine wpAny_mark (n := T3) (Nat.le_refl _) ?_
    k_extra "st"
    rename Fr _ _ _ _ => fA
    rename News _ _ _ _ => nA
    rw [hkind]
    refine notin_hues nA (.tail _ (.tail _ (.head _))) hH (noneBooked (Frag.In.keeps X1 fA.keep) (T1.nolimit.keeps fA.keep)) (Nat.succ_ne_zero _) (Nat.le_succ_of_le htk8) (Nat.mod_lt _ (by decide)) ?_
    k_extra "st"
    · rename News _ _ _ _ => nE
      intro hTk
      dsimp only [PostT]
      refine endS ⟨us, ks, cc⟩ (by assumption) nE (by intro p hp; rcases List.mem_cons.mp hp with rfl | hp; exact .tail _ (.tail _ (.head _)); exact .tail _ (.tail _ (.tail _ (List.mem_append_left _ hp)))) (by intro p hp; exact .tail _ (.tail _ (.tail _ (List.mem_append_right _ hp)))) ?_ ⟨hH.mono (Nat.le_trans htT hTk), ?_⟩
      · k_extra "same"
      · rw [hsnoc, ← hP]
        exact (addN_in (by assumption)).symm
    · have hne : ∀ p ∈ news ++ [(I, o)], p.1 ≠ D0 := by
        intro p hp
        rcases List.mem_append.mp hp with hp | hp
        · exact Nat.ne_of_lt (l1 p hp)
        · rw [List.mem_singleton.mp hp]; exact Nat.ne_of_gt (hlt _ (.head _))
      have h98 : D9 < D8 := l8 _ (.head _)
      have h08 : D0 < D8 := l8 _ (.tail _ (.head _))
      refine append_K fA nA (Upd.tail (Nat.ne_of_gt h08) (Upd.tail (Nat.ne_of_gt l9.1) (Upd.head hne))) ?_ ?_
      · intro h' F' N'
        clear nA fA
        k_extra "st"
        rename News _ _ _ _ => nE
        intro hTk
        dsimp only [PostT]
        rw [hkind] at nE
        simp only [List.push_toArray] at nE
        refine endS ⟨us ++ [Value.float (Float64.ofInt ((k % 16 : Nat) : Int)) (tk8 + 1)], ks ++ [k % 16], cc + 1⟩ (by assumption) nE (by intro p hp; rcases List.mem_cons.mp hp with rfl | hp; exact .tail _ (.tail _ (.head _)); exact .tail _ (.tail _ (.tail _ (List.mem_append_left _ hp)))) (by intro p hp; exact .tail _ (.tail _ (.tail _ (List.mem_append_right _ hp)))) ?_ ⟨(hH.mono (Nat.le_trans htT hTk)).snoc (Nat.mod_lt _ (by decide)) (Nat.succ_ne_zero _) (Nat.lt_of_lt_of_le (Nat.lt_succ_self _) (Nat.le_trans hT3 hTk)), ?_⟩
        · k_extra "same"
        · rw [hsnoc, ← hP]
          exact (addN_new (by assumption)).symm
      · have e1 := hH.length
        have e2 := kindsF_len n (ns.take i)
        rw [← hP, List.length_take] at e2
        rw [sizeLine_eq, List.size_toArray]
        omega
  · intro t9 h9 ⟨us, ks, cc⟩ u9 ⟨hH, hP⟩ kFr kNews
    clear lF lN
    dsimp only at kNews hH hP
    change Fr g1 L1 _ _ at kFr
    change News g1 L1 _ _ at kNews
    rw [hi.length, List.take_length] at hP
    k_extra "st"
    have e1 := hH.length
    have e2 := kindsF_len n ns
    rw [← hP] at e2
    have e3 : us.toArray.size = ks.length := by rw [List.size_toArray, e1]
    refine len_list (News.isList kNews (.head _)) (by rw [e3]; omega) ?_
    rw [e3, hP]
    k_extra "st"
    exact hret _ _ _ (by assumption) (cb_drop (by assumption) (fun p hp => .tail _ hp))
end
end Mine
namespace Mine
theorem words7 : True := by
  k_with_none
  k_with "s7" => (repeat' ((fail_if_success (with_reducible show wpAny _ _ (call (Value.builtin "str.split") _) _ _ _)); (fail_if_success (with_reducible show wpAny _ _ (call (Value.builtin "str.find") _) _ _ _)); (fail_if_success (with_reducible show wpAny _ _ (pyIter _) _ _ _)); (fail_if_success (with_reducible show wpAny _ _ (exec (Stmt.For _ _ _ _ _) _) _ _ _)); first | (k_unfold; (try dsimp only)) | (k_end; wrow_close) | walk1 | (dsimp only; walk1) | (leave1; walk_say "STEP leave1"; try dsimp only) | fail "no step"))
  trivial
theorem args_find4 (a b c d : Value) : argsOk "str.find" ⟨[a, b, c, d], []⟩ := by unfold argsOk; kernel_rfl
def find4 (x y : Str) (i j : Int) : Int := match Builtin.Str.occurrences x y (fromIndex x.length i) (min (fromIndex x.length j) x.length) 1 with | k :: _ => (k : Int) | [] => -1
theorem gives_find4 (x y : Str) (i j : Int) (t u v z : Tok) : Gives (Builtin.«str.find» ⟨[.str x t, .str y u, .int i v, .int j z], []⟩) (.int (find4 x y i j)) := by
  show Gives (match Builtin.Str.occurrences x y (fromIndex x.length i) (min (fromIndex x.length j) x.length) 1 with | k :: _ => retInt k | [] => (do rule "str.find.not-found"; retInt (-1))) _
  unfold find4
  cases Builtin.Str.occurrences x y (fromIndex x.length i) (min (fromIndex x.length j) x.length) 1 with
  | nil => exact .rule (.of_eq rfl)
  | cons k _ => exact .of_eq rfl
theorem find4_call {prog : Program} {w : World} {A : Around} {E : Value → Shared → Prop} {s : Shared} {x y : Str} {t u v z : Tok} {i j : Int} {Q : Value → Shared → Prop} (hq : Q (.int (find4 x y i j) s.toks) { s with toks := s.toks + 1 }) : wpAny (model prog w) A (call (.builtin "str.find") [.str x t, .str y u, .int i v, .int j z]) Q E s :=
  call_gives F.slot_str_find (typeIs_str _ _ _) F.entry_str_find (args_find4 _ _ _ _) (gives_find4 x y i j t u v z) hq
theorem str_nil {R : Str} (h : R.length = 0) : R = ⟨#[]⟩ := by
  obtain ⟨c⟩ := R
  have h : c.size = 0 := h
  rw [Array.eq_empty_of_size_eq_zero h]
theorem find4_end {y : Str} {n m : Nat} (h : n = y.length ∧ m = y.length) : find4 y ⟨#[]⟩ (n : Int) (m : Int) = (n : Int) := by
  obtain ⟨rfl, rfl⟩ := h
  have e : fromIndex y.length (y.length : Int) = y.length := by
    unfold fromIndex
    rw [if_neg (by omega)]
    omega
  unfold find4
  rw [e, Nat.min_self, StrLaws.occ_eq, show y.length + 1 - y.length = 1 by omega]
  have hs : Builtin.Str.subAt y ⟨#[]⟩ y.length = true := by
    rw [StrLaws.subAt_eq]; rfl
  have e2 : (forIn (List.range' y.length 1) (#[], y.length) (StrLaws.occBody y ⟨#[]⟩ y.length 1) : Id _).run.fst.toList = [y.length] := by
    have hs' : Builtin.Str.subAt y { cps := #[] } y.cps.size = true := hs
    unfold StrLaws.occBody
    simp [List.range', hs', Str.length]
  rw [e2]
theorem endswith_nil (y : Str) : Txt.endswith y ⟨#[]⟩ = true := by
  unfold Txt.endswith
  rw [StrLaws.subAt_eq]
  simp [Str.length]
section
variable {w : World} {mean : ExcName → Option Value} {mg mb : Str → Option Value} {dp un : Nat} {gd : Option (List Code)} {cn : Str} {cs : Scope} {a : Addr} {ccd : Value} {cl : List (Str × Addr)} {outer : List Env} {A₀ : Around} {base h₀ : Heap} {L : Addr} {m : Str → Option Value} {news : List (Addr × Obj)} {s : Shared} {Q E : Value → Shared → Prop}
theorem ell_ok {x y P R : Str} {tx ty : Tok} (H : Here 5 w mean mg mb dp un cs outer A₀ base h₀ L m news s.heap) (h1 : (Builtin.Str.occurrences x (Str.ofString "...") 0 x.length 1).isEmpty = false) (h2 : Txt.split x (Str.ofString "...") = [P, R]) (hx : x.length ≤ 100) (hy : y.length ≤ 100)
  (hP : P.length ≠ 0) (hL : P.length + R.length = y.length)
  (hret : ∀ h' tk', Fr h₀ L h' m → News h₀ L h' news → Q (.bool (Txt.startswith y P && Txt.endswith y R)) { s with heap := h', toks := tk' }) :
  wpAny (model PySem.Challenge.rw_sn0021_01.row.prog w) (ktrTop dp un gd cn cs L a ccd cl outer) (call (.ref 42) [.str x tx, .str y ty]) Q E s := by
  obtain ⟨B, F, X, N, T, hk, hd, hu⟩ := H
  refine wpAny_call ?_
  k_dflt cell_enter
  k_extra "s7"
  · rename Fr _ _ _ _ => fA
    rename News _ _ _ _ => nA
    refine KSpl.split1 fA nA (by decide) ?_ (by rw [sizeLine_eq]; omega)
    clear fA nA
    intro D l h' k e1 e2 F' N' l1
    rw [h2] at e1
    obtain ⟨t1, r, rfl, e3⟩ := KSpl.cons_of e1
    obtain ⟨t2, r2, rfl, e4⟩ := KSpl.cons_of e3
    obtain rfl := KSpl.nil_of e4
    clear e1 e3 e4
    simp only [strValues, List.map_cons, List.map_nil] at N' e2
    replace l1 := allLt_of l1
    have hf : ∀ h' tk' nw, (Txt.startswith y P && Txt.endswith y R) = false → Fr h₀ L h' m → News h₀ L h' nw → (∀ p ∈ news, p ∈ nw) → Q (.bool false) { s with heap := h', toks := tk' } := fun h' tk' nw e f n i => e ▸ hret h' tk' f (cb_drop n i)
    k_extra "s7"
    all_goals try (exfalso; omega)
    all_goals try (exact hf _ _ _ (by first | (rename Txt.startswith y P = false => e; rw [e]; rfl) | (rename Txt.endswith y R = false => e; rw [e, Bool.and_false])) (by assumption) (by assumption) (fun p hp => .tail _ (.tail _ hp)))
    · refine forT ?_ (by intro _; rfl)
      k_extra "s7"
      rename Fr _ _ _ _ => fE
      rename News _ _ _ _ => nE
      have e1 : Txt.endswith y R = true := by assumption
      have e2 : Txt.startswith y P = true := by assumption
      refine iterS (items := []) (nn := 0+1+1) (σ := Unit) (fun c => _ :: (D, listOf #[] (0+1+1)) :: news) [] (fun i t c => True) () rfl rfl rfl (by passes_own) (fun _ => .tail _ (.head _)) (fun _ => rfl) (fun i t t' c ht h => h) fE nE trivial ?_ ?_
      · intro i v t h I o c u hv; exact absurd hv (by simp)
      · intro t9 h9 c u9 _ kFr kNews
        clear fE nE
        k_extra "s7"
        have := hret
        rw [e1, e2] at this
        exact this _ _ (by assumption) (cb_drop (by assumption) (fun p hp => .tail _ (.tail _ hp)))
    · refine forT ?_ (by intro _; rfl)
      k_extra "s7"
      rename Fr _ _ _ _ => fE
      rename News _ _ _ _ => nE
      have hR0 : R.length = 0 := by omega
      have hR : R = ⟨#[]⟩ := str_nil hR0
      subst hR
      have e2 : Txt.startswith y P = true := by assumption
      refine iterT (items := [Value.str ⟨#[]⟩ t2]) (nn := 0+1) (J := fun i t m nw => nw = _ ∧ (i = 0 → m = _)) rfl rfl rfl fE nE ⟨rfl, fun _ => rfl⟩ ?_ ?_ ?_ ?_ (by passes_own)
      · intro i t t' m nw ht h; exact h
      · rintro i t m nw ⟨rfl, _⟩
        exact ⟨.tail _ (.head _), fun p hp => ⟨p, hp, rfl⟩⟩
      · rintro i v t h I o m nw hv ⟨rfl, hm⟩ hlt kFr kNews
        obtain ⟨rfl, rfl⟩ : i = 0 ∧ v = Value.str ⟨#[]⟩ t2 := by
          cases i with
          | zero => exact ⟨rfl, (Option.some.inj hv).symm⟩
          | succ i => exact absurd hv (by simp)
        obtain rfl := hm rfl
        clear fE nE
        simp only [List.cons_append] at kNews
        k_extra "s7"
        refine find4_call ?_
        have hPy : P.length = y.length := by
          have : (Str.mk #[]).length = 0 := rfl
          omega
        rw [find4_end ⟨hPy, rfl⟩]
        k_extra "s7"
        · dsimp only [PostT]
          refine ⟨_, _, _, _, rfl, by assumption, ?_, rfl, fun e => by omega⟩
          simp only [List.cons_append]
          assumption
      · rintro t9 h9 m9 nw ⟨rfl, _⟩ kFr kNews
        clear fE nE
        k_extra "s7"
        have := hret
        rw [e2, endswith_nil] at this
        exact this _ _ (by assumption) (cb_drop (by assumption) (fun p hp => .tail _ (.tail _ hp)))
end
end Mine
namespace Mine
/-- one to four quarters -/
def shF (i : Nat) : UInt64 := Float64.ofFrac false (1 + i) 4
def sumOk (t : UInt64 × UInt64 × UInt64) (i j k : Nat) : Bool :=
  hsv2Ok t.1 t.2.1 t.2.2 && (satF t.1 t.2.1 t.2.2 == shF i && (fMax t.1 t.2.1 t.2.2 == shF j && Float64.mul (Float64.ofInt 16) (hueF t.1 t.2.1 t.2.2) == Float64.ofInt (k : Int)))
def sumRow (i : Nat) : Bool := (List.range 4).all fun j => (List.range 16).all fun k => sumOk (hsvF (qF k) (shF i) (shF j)) i j k
theorem sum_tab0 : sumRow 0 = true := by decide +kernel
theorem sum_tab1 : sumRow 1 = true := by decide +kernel
theorem sum_tab2 : sumRow 2 = true := by decide +kernel
theorem sum_tab3 : sumRow 3 = true := by decide +kernel
theorem sum_at {i j k : Nat} (hi : i < 4) (hj : j < 4) (hk : k ≤ 240) :
    hsv2Ok (hsvF (qF k) (shF i) (shF j)).1 (hsvF (qF k) (shF i) (shF j)).2.1 (hsvF (qF k) (shF i) (shF j)).2.2 = true ∧
    satF (hsvF (qF k) (shF i) (shF j)).1 (hsvF (qF k) (shF i) (shF j)).2.1 (hsvF (qF k) (shF i) (shF j)).2.2 = shF i ∧
    fMax (hsvF (qF k) (shF i) (shF j)).1 (hsvF (qF k) (shF i) (shF j)).2.1 (hsvF (qF k) (shF i) (shF j)).2.2 = shF j ∧
    Float64.mul (Float64.ofInt 16) (hueF (hsvF (qF k) (shF i) (shF j)).1 (hsvF (qF k) (shF i) (shF j)).2.1 (hsvF (qF k) (shF i) (shF j)).2.2) = Float64.ofInt ((k % 16 : Nat) : Int) := by
  rw [hsv_turn hk]
  have h0 : sumRow i = true := by
    rcases (show i = 0 ∨ i = 1 ∨ i = 2 ∨ i = 3 by omega) with rfl | rfl | rfl | rfl
    · exact sum_tab0
    · exact sum_tab1
    · exact sum_tab2
    · exact sum_tab3
  have h := List.all_eq_true.mp (List.all_eq_true.mp h0 j (List.mem_range.mpr hj)) (k % 16) (List.mem_range.mpr (Nat.mod_lt _ (by decide)))
  unfold sumOk at h
  rw [Bool.and_eq_true, Bool.and_eq_true, Bool.and_eq_true] at h
  exact ⟨h.1, eq_of_beq h.2.1, eq_of_beq h.2.2.1, eq_of_beq h.2.2.2⟩
theorem shF_of {n : Int} {i : Nat} (h : n = (i : Int)) : Float64.ofFrac (decide (1 + n < 0) != decide ((4 : Int) < 0)) (1 + n).natAbs (Int.natAbs 4) = shF i := by
  subst h
  rw [decide_eq_false (by omega : ¬ (1 + (i : Int) < 0))]
  unfold shF
  rw [show (1 + (i : Int)).natAbs = 1 + i by omega]
  rfl
end Mine
namespace Mine
theorem tok_le {h : Heap} {g : Array GenState} {d : Drawn} {X n : Nat} {os : OsState} (e : n ≤ (Shared.mk h g d X os).toks) : n ≤ X := e
theorem tok3 {a t u v : Nat} (h1 : t ≠ 0) (h2 : u ≠ 0) (h3 : v ≠ 0) (h : a = t ∨ a = u ∨ a = v) : a ≠ 0 := by
  rcases h with rfl | rfl | rfl
  · exact h1
  · exact h2
  · exact h3
theorem wordsB0 : True := by
  k_with_none
  k_with "tle" => (repeat' (first | assumption | exact Nat.le_refl _ | exact Nat.succ_le_succ (Nat.zero_le _) | refine Nat.le_succ_of_le ?_))
  k_with "tne" => (first | assumption | exact Nat.succ_ne_zero _ | exact Nat.ne_of_gt (by assumption))
  trivial
section
variable {prog : Program} {w : World} {A : Around} {E : Value → Shared → Prop} {s : Shared} {Q : Value → Shared → Prop}
theorem max3_k {x y z : UInt64} {t u v : Tok} {h₀ : Heap} {L : Addr} {m : Str → Option Value} {news : List (Addr × Obj)}
    (hh : A.handled = none) (F : Fr h₀ L s.heap m) (N : News h₀ L s.heap news)
    (h : ∀ h' tk v', (v' = t ∨ v' = u ∨ v' = v) → Fr h₀ L h' m → News h₀ L h' news → Q (.float (fMax x y z) v') { s with heap := h', toks := tk }) :
    wpAny (model prog w) A (call (.builtin "max") [.float x t, .float y u, .float z v]) Q E s :=
  max3_num hh (.float x t) (.float y u) (.float z v) fun h' tk kp => by
    have := h h' tk
    simp only [fMax] at this
    by_cases h1 : (Float64.cmp x y == some .lt) = true
    · have g1 : ltV (.float x t) (.float y u) = true := h1
      rw [if_pos h1] at this; rw [if_pos g1]
      by_cases h2 : (Float64.cmp y z == some .lt) = true
      · have g2 : ltV (.float y u) (.float z v) = true := h2
        rw [if_pos h2] at this; rw [if_pos g2]; exact this _ (by simp) (F.grownK kp) (N.grown kp)
      · have g2 : ltV (.float y u) (.float z v) = false := Bool.eq_false_iff.mpr h2
        rw [if_neg h2] at this; rw [if_neg (by rw [g2]; exact Bool.false_ne_true)]; exact this _ (by simp) (F.grownK kp) (N.grown kp)
    · have g1 : ltV (.float x t) (.float y u) = false := Bool.eq_false_iff.mpr h1
      rw [if_neg h1] at this; rw [if_neg (by rw [g1]; exact Bool.false_ne_true)]
      by_cases h2 : (Float64.cmp x z == some .lt) = true
      · have g2 : ltV (.float x t) (.float z v) = true := h2
        rw [if_pos h2] at this; rw [if_pos g2]; exact this _ (by simp) (F.grownK kp) (N.grown kp)
      · have g2 : ltV (.float x t) (.float z v) = false := Bool.eq_false_iff.mpr h2
        rw [if_neg h2] at this; rw [if_neg (by rw [g2]; exact Bool.false_ne_true)]; exact this _ (by simp) (F.grownK kp) (N.grown kp)
end
local macro_rules | `(tactic| walk_at "call builtin:max") => `(tactic| (k_here; (with_reducible show wpAny _ _ (call _ [Value.float _ _, Value.float _ _, Value.float _ _]) _ _ _); (rename News _ _ _ _ => N'); (rename Fr _ _ _ _ => F'); refine max3_k rfl F' N' ?_; clear N'; intro _ _ _ hw' _ _; replace hw' := tok3 (by assumption) (by assumption) (by assumption) hw'))
local macro_rules | `(tactic| walk_at "call builtin:min") => `(tactic| (k_here; (with_reducible show wpAny _ _ (call _ [Value.float _ _, Value.float _ _, Value.float _ _]) _ _ _); (rename News _ _ _ _ => N'); (rename Fr _ _ _ _ => F'); refine min3_f rfl F' N' ?_; clear N'; intro _ _ _ _ _))
local macro_rules | `(tactic| walk_at "execs cons") => `(tactic| ((with_reducible show wpAny _ _ _ _ _ (Shared.mk _ _ _ (_ + 1) _)); refine wp_tok (n := 1) (Nat.succ_le_succ (Nat.zero_le _)) ?_; intro _ hT'))
section
variable {w : World} {mean : ExcName → Option Value} {mg mb : Str → Option Value} {dp un : Nat} {gd : Option (List Code)} {cn : Str} {cs : Scope} {a : Addr} {ccd : Value} {cl : List (Str × Addr)} {outer : List Env} {A₀ : Around} {base h₀ : Heap} {L : Addr} {m : Str → Option Value} {news : List (Addr × Obj)} {s : Shared} {Q E : Value → Shared → Prop}
theorem hsv_tk {x y z : UInt64} {tx ty tz : Tok} (H : Here 5 w mean mg mb dp un cs outer A₀ base h₀ L m news s.heap) (htx : tx ≠ 0) (hty : ty ≠ 0) (htz : tz ≠ 0) (hT : 1 ≤ s.toks) (ok : hsvOk x y = true)
  (hret : ∀ D t1 t2 t3 h' tk', Fr h₀ L h' m → News h₀ L h' ((D, tup3 (hsvF x y z).1 t1 (hsvF x y z).2.1 t2 (hsvF x y z).2.2 t3) :: news) → (∀ p ∈ news, p.1 < D) → t1 ≠ 0 → t2 ≠ 0 → t3 ≠ 0 → Q (.ref D) { s with heap := h', toks := tk' }) :
  wpAny (model PySem.Challenge.rw_sn0021_01.row.prog w) (ktrTop dp un gd cn cs L a ccd cl outer) (call (.ref 35) [.float x tx, .float y ty, .float z tz]) Q E s := by
  obtain ⟨B, F, X, N, T, hk, hd, hu⟩ := H
  obtain ⟨hp0, gg0, dd0, T0, oo0⟩ := s
  dsimp only at F N hT hret
  refine wpAny_call ?_
  k_dflt cell_enter
  k_steps
  all_goals first
    | (rw [hsvF_s (by assumption)] at hret; exact hret _ _ _ _ _ _ (by assumption) (by assumption) (by assumption) (by k_extra "tne") (by k_extra "tne") (by k_extra "tne"))
    | (rw [hsvF_0 (by assumption) (by assumption)] at hret; exact hret _ _ _ _ _ _ (by assumption) (by assumption) (by assumption) (by k_extra "tne") (by k_extra "tne") (by k_extra "tne"))
    | (rw [hsvF_1 (by assumption) (by assumption)] at hret; exact hret _ _ _ _ _ _ (by assumption) (by assumption) (by assumption) (by k_extra "tne") (by k_extra "tne") (by k_extra "tne"))
    | (rw [hsvF_2 (by assumption) (by assumption)] at hret; exact hret _ _ _ _ _ _ (by assumption) (by assumption) (by assumption) (by k_extra "tne") (by k_extra "tne") (by k_extra "tne"))
    | (rw [hsvF_3 (by assumption) (by assumption)] at hret; exact hret _ _ _ _ _ _ (by assumption) (by assumption) (by assumption) (by k_extra "tne") (by k_extra "tne") (by k_extra "tne"))
    | (rw [hsvF_4 (by assumption) (by assumption)] at hret; exact hret _ _ _ _ _ _ (by assumption) (by assumption) (by assumption) (by k_extra "tne") (by k_extra "tne") (by k_extra "tne"))
    | (rw [hsvF_5 (by assumption) (by assumption)] at hret; exact hret _ _ _ _ _ _ (by assumption) (by assumption) (by assumption) (by k_extra "tne") (by k_extra "tne") (by k_extra "tne"))
    | exact tf (hsvOk_at ok (by assumption)).1 (by assumption)
    | exact tf (hsvOk_at ok (by assumption)).2.1 (by assumption)
    | exact absurd (hsvOk_at ok (by assumption)).2.2 (Nat.not_lt.mpr (by assumption))
    | exact (hsvI_no (by assumption) (by assumption) (by assumption) (by assumption) (by assumption) (by assumption)).elim
theorem hsv2_tk {x y z : UInt64} {tx ty tz : Tok} (H : Here 5 w mean mg mb dp un cs outer A₀ base h₀ L m news s.heap) (htx : tx ≠ 0) (hty : ty ≠ 0) (htz : tz ≠ 0) (hT : 1 ≤ s.toks) (ok : hsv2Ok x y z = true)
  (hret : ∀ D t1 t2 t3 h' tk', Fr h₀ L h' m → News h₀ L h' ((D, tup3 (hueF x y z) t1 (satF x y z) t2 (fMax x y z) t3) :: news) → (∀ p ∈ news, p.1 < D) → t1 ≠ 0 → t2 ≠ 0 → t3 ≠ 0 → Q (.ref D) { s with heap := h', toks := tk' }) :
  wpAny (model PySem.Challenge.rw_sn0021_01.row.prog w) (ktrTop dp un gd cn cs L a ccd cl outer) (call (.ref 28) [.float x tx, .float y ty, .float z tz]) Q E s := by
  obtain ⟨B, F, X, N, T, hk, hd, hu⟩ := H
  obtain ⟨hp0, gg0, dd0, T0, oo0⟩ := s
  dsimp only at F N hT hret
  refine wpAny_call ?_
  k_dflt cell_enter
  k_steps
  all_goals first
    | (rw [hueF_s (by assumption), satF_s (by assumption)] at hret; exact hret _ _ _ _ _ _ (by assumption) (by assumption) (by assumption) (by k_extra "tne") (by k_extra "tne") (by k_extra "tne"))
    | (rw [hueF_r (by assumption) (by assumption), satF_n (by assumption)] at hret; exact hret _ _ _ _ _ _ (by assumption) (by assumption) (by assumption) (by k_extra "tne") (by k_extra "tne") (by k_extra "tne"))
    | (rw [hueF_g (by assumption) (by assumption) (by assumption), satF_n (by assumption)] at hret; exact hret _ _ _ _ _ _ (by assumption) (by assumption) (by assumption) (by k_extra "tne") (by k_extra "tne") (by k_extra "tne"))
    | (rw [hueF_b (by assumption) (by assumption) (by assumption), satF_n (by assumption)] at hret; exact hret _ _ _ _ _ _ (by assumption) (by assumption) (by assumption) (by k_extra "tne") (by k_extra "tne") (by k_extra "tne"))
    | exact tf (hsv2Ok_at ok (by assumption)).1 (by assumption)
    | exact tf (hsv2Ok_at ok (by assumption)).2 (by assumption)
end
end Mine
namespace Mine
def hueOf (x : UInt64) : Option Nat := (List.range 16).find? (fun k => x == Float64.ofInt (k : Int))
theorem hueOf_some {x : UInt64} {a : Nat} (h : hueOf x = some a) : a < 16 ∧ x = Float64.ofInt (a : Int) := by
  unfold hueOf at h
  exact ⟨List.mem_range.mp (List.mem_of_find?_eq_some h), by
    have h1 := List.find?_some (p := fun k : Nat => x == Float64.ofInt (k : Int)) h
    exact eq_of_beq h1⟩
theorem hueOf_ofInt : ∀ i : Fin 16, hueOf (Float64.ofInt ((i.val : Nat) : Int)) = some i.val := by decide +kernel
theorem hue_lt : ∀ i j : Fin 16, (Float64.cmp (Float64.ofInt ((i.val : Nat) : Int)) (Float64.ofInt ((j.val : Nat) : Int)) == some .lt) = decide (i.val < j.val) := by decide +kernel
@[reducible] def hueKind : KeyKind where
  α := Nat
  blt a b := decide (a < b)
  irrefl a := by simp
  trans a b c h1 h2 := by simp only [decide_eq_true_eq] at *; omega
  negTrans a b c h := by simp only [decide_eq_true_eq] at *; omega
  total a b h1 h2 := by simp only [decide_eq_false_iff_not] at *; omega
  keyOf v := match v with | .float x _ => hueOf x | _ => none
  dflt := 0
section
variable {prog : Program} {w : World} {A : Around} {E : Value → Shared → Prop} {s : Shared}
theorem call_float_lt {a b : UInt64} {t u : Tok} {Q : Value → Shared → Prop} (h : Q (.bool (Float64.cmp a b == some .lt)) s) :
    wpAny (model prog w) A (call (.builtin "float.__lt__") [.float a t, .float b u]) Q E s := by
  refine wpAny_call_entry PySem.F.slot_float_lt (typeIs_float s a t) PySem.F.entry_float_lt ?_ (PySem.F.args_float_lt_2 _ _)
  show wpAny _ _ (ret (.bool (Float64.cmp a b == some .lt))) _ _ s
  exact wpAny_pure ⟨_, rfl, h⟩
theorem oneLt_float {a b : UInt64} {t u : Tok} {Q : Bool → Shared → Prop} (h : Q (Float64.cmp a b == some .lt) s) : wpAny (model prog w) A (oneLt' true (.float a t) (.float b u)) Q E s := by
  rw [oneLt'_eq]
  simp only [if_true]
  refine wpAny_bind (wpAny_cRoomFor_byValue rfl ?_)
  refine wpAny_bind (wpAny_callSpecialIfBound?_slot (typeIs_float s a t) PySem.F.slot_float_lt (call_float_lt ?_))
  exact wpAny_truthy_bool h
end
theorem hueKind_oneLt : hueKind.OneLt := by
  intro prog w A E s x y a b Q ha hb h
  cases x <;> simp only [hueKind, reduceCtorEq] at ha
  cases y <;> simp only [hueKind, reduceCtorEq] at hb
  obtain ⟨a1, rfl⟩ := hueOf_some ha
  obtain ⟨b1, rfl⟩ := hueOf_some hb
  refine oneLt_float ?_
  rw [hue_lt ⟨a, a1⟩ ⟨b, b1⟩]
  exact h
def hueVal : Value → Nat
  | .float x _ => (hueOf x).getD 0
  | _ => 0
theorem Hues.all {T : Nat} {vs : List Value} {ks : List Nat} (h : Hues T vs ks) : ∀ v, v ∈ vs → ∃ i t, i < 16 ∧ t ≠ 0 ∧ t < T ∧ v = .float (Float64.ofInt ((i : Nat) : Int)) t := by
  induction h with
  | nil => intro v hv; cases hv
  | @cons i t vs ks a b c _ ih =>
    intro v hv
    rcases List.mem_cons.mp hv with rfl | hv
    · exact ⟨i, t, a, b, c, rfl⟩
    · exact ih v hv
theorem Hues.vals {T : Nat} {vs : List Value} {ks : List Nat} (h : Hues T vs ks) : vs.map hueVal = ks := by
  induction h with
  | nil => rfl
  | @cons i t vs ks a b c _ ih =>
    rw [List.map_cons, ih]
    show (hueOf (Float64.ofInt (i : Int))).getD 0 :: _ = _
    rw [hueOf_ofInt ⟨i, a⟩]; rfl
theorem hues_map {T : Nat} : ∀ (vs : List Value), (∀ v, v ∈ vs → ∃ i t, i < 16 ∧ t ≠ 0 ∧ t < T ∧ v = .float (Float64.ofInt ((i : Nat) : Int)) t) → Hues T vs (vs.map hueVal)
  | [], _ => .nil
  | v :: vs, h => by
    obtain ⟨i, t, a, b, c, rfl⟩ := h v (List.mem_cons_self ..)
    have e : hueVal (.float (Float64.ofInt (i : Int)) t) = i := by
      show (hueOf (Float64.ofInt (i : Int))).getD 0 = i
      rw [hueOf_ofInt ⟨i, a⟩]; rfl
    rw [List.map_cons, e]
    exact .cons a b c (hues_map vs fun u hu => h u (List.mem_cons_of_mem _ hu))
theorem Hues.keysOf {T : Nat} {vs : List Value} {ks : List Nat} (h : Hues T vs ks) : KeysOf hueKind (pairsOf vs) := by
  intro p hp
  rw [pairsOf_toList] at hp
  obtain ⟨i, t, a, _, _, e⟩ := h.all _ (mem_zip_self hp).2
  exact ⟨i, by rw [e]; exact hueOf_ofInt ⟨i, a⟩⟩
theorem KK_hue {xs : Array Keyed} {j : Nat} (hj : j < xs.size) {i : Nat} (hi : i < 16) {t : Tok} {q : Value} (hx : xs[j] = (.float (Float64.ofInt (i : Int)) t, q)) : KK hueKind xs j = i := by
  unfold KK; rw [getElem?_pos xs j hj, hx]
  show (hueOf (Float64.ofInt (i : Int))).getD 0 = i
  rw [hueOf_ofInt ⟨i, hi⟩]; rfl
theorem firstOfTuple'_float (x : UInt64) (t : Tok) : firstOfTuple' (.float x t) = pure none := rfl
theorem mapM_first_hues {T : Nat} {vs : List Value} {ks : List Nat} (h : Hues T vs ks) : vs.mapM firstOfTuple' = pure (vs.map fun _ => none) := by
  induction h with
  | nil => simp
  | cons _ _ _ _ ih => rw [List.mapM_cons, firstOfTuple'_float, ih]; simp
theorem mapM_typeOf_hues {T : Nat} {vs : List Value} {ks : List Nat} (h : Hues T vs ks) : vs.mapM typeOf = pure (vs.map fun _ => Value.type "float") := by
  induction h with
  | nil => simp
  | cons _ _ _ _ ih =>
    rw [List.mapM_cons, ih]
    show (pure (Value.type "float") >>= fun b => pure _ >>= fun bs => pure (b :: bs)) = _
    simp
theorem keyKind_hues {T : Nat} {v₁ v₂ : Value} {vs : List Value} {ks : List Nat} (hS : Hues T (v₁ :: v₂ :: vs) ks) : keyKind' (v₁ :: v₂ :: vs).toArray = pure oneType' := by
  rw [keyKind'_eq, List.mapM_toArray, mapM_first_hues hS]
  simp only [map_pure, pure_bind]
  rw [if_neg (by simp), if_neg (by simp)]
  rw [oneTypeOnly'_eq, List.mapM_toArray, mapM_typeOf_hues hS]
  simp only [map_pure, pure_bind]
  have hall : ((List.map (fun _ => Value.type "float") (v₁ :: v₂ :: vs)).toArray.all fun x => x == Value.type "float") = true := by
    simp only [List.all_toArray, List.all_map, List.all_eq_true]
    intro _ _
    rfl
  have h0 : (List.map (fun _ => Value.type "float") (v₁ :: v₂ :: vs)).toArray[0]? = some (Value.type "float") := by simp
  rw [h0]
  simp only [hall, if_true, pure_bind, Option.isSome_some]
theorem sorted_out_hue {T : Nat} {vs : List Value} {ks : List Nat} (hS : Hues T vs ks) {xs : Array Keyed} (hp : xs.Perm (pairsOf vs)) (hs : SortedToK hueKind xs (pairsOf vs).size) :
    ∃ ks', Hues T (xs.map (·.2)).toList ks' ∧ ks'.Perm ks ∧ ks'.Pairwise (· ≤ ·) := by
  have hl : xs.toList.Perm (vs.zip vs) := by rw [← pairsOf_toList]; exact Array.perm_iff_toList_perm.mp hp
  have hmem : ∀ p, p ∈ xs.toList → p.1 = p.2 ∧ p.1 ∈ vs := fun p hp' => mem_zip_self (hl.mem_iff.mp hp')
  refine ⟨xs.toList.map (fun p => hueVal p.1), ?_, ?_, ?_⟩
  · have e : (xs.map (·.2)).toList = xs.toList.map (·.1) := by
      rw [Array.toList_map]; exact List.map_congr_left fun p hp' => (hmem p hp').1.symm
    rw [e]
    have h1 := hues_map (T := T) (xs.toList.map (·.1)) (by
      intro v hv
      obtain ⟨p, hp', rfl⟩ := List.mem_map.mp hv
      exact hS.all _ (hmem p hp').2)
    rwa [List.map_map] at h1
  · have h1 := hl.map (fun p => hueVal p.1)
    have e2 : (vs.zip vs).map (fun p => hueVal p.1) = ks := by
      have : (vs.zip vs).map (fun p => hueVal p.1) = ((vs.zip vs).map Prod.fst).map hueVal := by rw [List.map_map]; rfl
      rw [this, List.map_fst_zip (Nat.le_refl _), hS.vals]
    rwa [e2] at h1
  · rw [List.pairwise_iff_getElem]
    intro i j hi hj hij
    have hi' : i < xs.size := by simpa using hi
    have hj' : j < xs.size := by simpa using hj
    have h1 := hs i j (Nat.le_of_lt hij) (by rw [← hp.size_eq]; exact hj')
    obtain ⟨x, t, a, _, _, ex⟩ := hS.all _ (hmem xs[i] (by simp)).2
    obtain ⟨y, u, b, _, _, ey⟩ := hS.all _ (hmem xs[j] (by simp)).2
    rw [KK_hue hi' a (t := t) (q := xs[i].2) (Prod.ext ex rfl), KK_hue hj' b (t := u) (q := xs[j].2) (Prod.ext ey rfl)] at h1
    change decide (y < x) = false at h1
    simp only [List.getElem_map, Array.getElem_toList]
    rw [show hueVal xs[i].1 = x by rw [ex]; show (hueOf _).getD 0 = x; rw [hueOf_ofInt ⟨x, a⟩]; rfl, show hueVal xs[j].1 = y by rw [ey]; show (hueOf _).getD 0 = y; rw [hueOf_ofInt ⟨y, b⟩]; rfl]
    simpa using h1
section
variable {prog : Program} {w : World} {A : Around} {E : Value → Shared → Prop} {s : Shared}
theorem sorted_hues {T : Nat} {h₀ : Heap} {L : Addr} {m : Str → Option Value} {news : List (Addr × Obj)} {l : Addr} {nn : Nat} {vs : List Value} {ks : List Nat} {Q : Value → Shared → Prop}
    (F : Fr h₀ L s.heap m) (N : News h₀ L s.heap news) (hl : (l, listOf vs.toArray nn) ∈ news) (hS : Hues T vs ks) (h64 : ks.length < 64)
    (h : ∀ (h' : Heap) (D : Addr) (vs' : List Value) (ks' : List Nat) (e : Nat), Fr h₀ L h' m → News h₀ L h' ((D, listOf vs'.toArray e) :: news) → (∀ p ∈ news, p.1 < D) →
      Hues T vs' ks' → ks'.Perm ks → ks'.Pairwise (· ≤ ·) → Q (.ref D) { s with heap := h' }) :
    wpAny (model prog w) A (call (.builtin "sorted") [.ref l]) Q E s := by
  refine sortedK hueKind_oneLt (News.isList N hl) hS.keysOf (fun v₁ v₂ rest e => keyKind_hues (by rw [← e]; exact hS)) (by rw [hS.length]; exact h64) fun st' hp hs => ?_
  obtain ⟨ks', h1, h2, h3⟩ := sorted_out_hue hS hp hs
  obtain ⟨e, he⟩ := sortedAll_at s.heap vs ((arrOf st').map (·.2))
  exact h _ _ ((arrOf st').map (·.2)).toList ks' e (F.kept fun _ _ => sortedAll_old) (N.kept_cons F (fun _ _ => sortedAll_old) (Nat.le_succ _) he) (fun p hp => Nat.lt_succ_of_lt (Heap.lt_size (N p hp).1)) h1 h2 h3
end
end Mine
namespace Mine
theorem hue_int : ∀ i : Fin 16, (Float64.cmpInt (Float64.ofInt ((i.val : Nat) : Int)) ((i.val : Nat) : Int) == some Ordering.eq) = true := by decide +kernel
theorem eqAt_fi {A : Around} {s : Shared} {i : Nat} {t u : Tok} (hi : i < 16) : SeqAt.EqAt A s (.float (Float64.ofInt (i : Int)) t) (.int (i : Int) u) true := by
  intro prog w E Q hq
  unfold eqBool
  refine wpAny_holding ?_
  have hne : ¬ ((Value.float (Float64.ofInt (i : Int)) t == Value.int (i : Int) u) = true) := fun e => nomatch eq_of_beq e
  rw [if_neg hne]
  refine wpAny_bind (eq_fi (wpAny_truthy_bool ?_))
  rw [hue_int ⟨i, hi⟩]
  exact hq
theorem Hues.get {T : Nat} {vs : List Value} {ks : List Nat} (h : Hues T vs ks) : ∀ (j : Nat) (h1 : j < vs.length) (h2 : j < ks.length), ∃ t, vs[j] = .float (Float64.ofInt ((ks[j] : Nat) : Int)) t ∧ ks[j] < 16 := by
  induction h with
  | nil => intro j h1; exact absurd h1 (Nat.not_lt_zero _)
  | @cons i t vs ks a b c _ ih =>
    intro j h1 h2
    cases j with
    | zero => exact ⟨t, rfl, a⟩
    | succ j => exact ih j (Nat.lt_of_succ_lt_succ h1) (Nat.lt_of_succ_lt_succ h2)
theorem ne_sorted {prog : Program} {w : World} {A : Around} {E : Value → Shared → Prop} {s : Shared} {h₀ : Heap} {L l b : Addr} {news : List (Addr × Obj)} {T n1 : Nat} {vs ws : List Value} {ks : List Nat} {ms : List Int} {Q : Value → Shared → Prop} (N : News h₀ L s.heap news)
    (hl : (l, listOf vs.toArray n1) ∈ news) (hb : s.heap.IsList b ws.toArray) (hH : Hues T vs ks) (hI : IntsAre ws ms) (e : ms = ks.map fun k => ((k : Nat) : Int)) (hA : A.units < cLine)
    (h : Q (.bool false) s) : wpAny (model prog w) A (compareOp .NotEq (.ref l) (.ref b)) Q E s := by
  subst e
  have e1 := hH.length
  have e2 := hI.length
  rw [List.length_map] at e2
  refine SeqAt.RcNeAt.lists (items := vs.toArray) (items2 := ws.toArray) (e := fun _ => true) (News.isList N hl) hb (by rw [List.size_toArray, List.size_toArray, e1, e2]) hA ?_ prog w E Q ?_
  · intro j h1 h2
    rw [List.size_toArray] at h1 h2
    have h3 : j < ks.length := by omega
    obtain ⟨t, e3, h16⟩ := hH.get j h1 h3
    obtain ⟨u, e4⟩ := hI.get j ((ks[j] : Nat) : Int) (by rw [List.getElem?_map, List.getElem?_eq_getElem h3]; rfl)
    rw [List.getElem?_eq_getElem h2] at e4
    rw [List.getElem_toArray, List.getElem_toArray, e3, Option.some.inj e4]
    exact eqAt_fi h16
  · have e3 : (List.range vs.toArray.size).all (fun _ => true) = true := by simp
    rw [e3]
    exact h
theorem ne_ints {prog : Program} {w : World} {A : Around} {E : Value → Shared → Prop} {s : Shared} {h₀ : Heap} {L l b : Addr} {news : List (Addr × Obj)} {n1 : Nat} {vs ws : List Value} {ks ms : List Int} {Q : Value → Shared → Prop} (N : News h₀ L s.heap news)
    (hl : (l, listOf vs.toArray n1) ∈ news) (hb : s.heap.IsList b ws.toArray) (hJ : IntsAre vs ks) (hI : IntsAre ws ms) (e : ms = ks) (hA : A.units < cLine)
    (h : Q (.bool false) s) : wpAny (model prog w) A (compareOp .NotEq (.ref l) (.ref b)) Q E s := by
  subst e
  have e1 := hJ.length
  have e2 := hI.length
  refine SeqAt.RcNeAt.lists (items := vs.toArray) (items2 := ws.toArray) (e := fun _ => true) (News.isList N hl) hb (by rw [List.size_toArray, List.size_toArray, e1, e2]) hA ?_ prog w E Q ?_
  · intro j h1 h2
    rw [List.size_toArray] at h1 h2
    have h3 : j < ms.length := by omega
    obtain ⟨t, e3⟩ := hJ.get j ms[j] (List.getElem?_eq_getElem h3)
    obtain ⟨u, e4⟩ := hI.get j ms[j] (List.getElem?_eq_getElem h3)
    rw [List.getElem?_eq_getElem h1] at e3
    rw [List.getElem?_eq_getElem h2] at e4
    rw [List.getElem_toArray, List.getElem_toArray, Option.some.inj e3, Option.some.inj e4]
    have h := SeqAt.EqAt.int_int (A := A.in1) (s := s) ms[j] t ms[j] u
    rw [beq_self_eq_true] at h
    exact h
  · have e3 : (List.range vs.toArray.size).all (fun _ => true) = true := by simp
    rw [e3]
    exact h
theorem ints_carried {vs : List Value} {ns : List Int} (h : CarriedAll vs (ns.map PyData.int)) : IntsAre vs ns := by
  have h1 := CarriedAll.intsOf (f := fun a : Int => a) h
  rwa [List.map_id'] at h1
end Mine
namespace Mine
def cutA (w : Str) (n : Nat) : Str := ⟨(w.cps.toList.drop n).toArray⟩
def cutB (w : Str) (n : Nat) : Str := ⟨(w.cps.toList.take n).toArray⟩
theorem dots_eq : Str.ofString "..." = ⟨#[46, 46, 46]⟩ := by decide +kernel
theorem kind_dots : Builtin.Str.strKind ⟨#[46, 46, 46]⟩ = 1 := by decide +kernel
theorem kind_pos (x : Str) : 1 ≤ Builtin.Str.strKind x := by
  unfold Builtin.Str.strKind
  split
  · exact Nat.le_refl _
  · split <;> decide
theorem split_of {x : Str} {i : Nat} {r : List Str} (h7 : x.length = 7) (ho : Builtin.Str.occurrences x ⟨#[46, 46, 46]⟩ 0 7 8 = [i]) (hp : Builtin.Str.partsBetween x [i] 3 = r) : Txt.split x ⟨#[46, 46, 46]⟩ = r := by
  unfold Txt.split
  have h3 : (Str.mk #[46, 46, 46]).length = 3 := rfl
  have hk := kind_pos x
  rw [kind_dots, h3, h7, ho, if_neg, if_neg]
  · exact hp
  · simp
  · simp; omega
theorem word_form (k : Nat) : ∃ a b c d : Nat, wordS k = ⟨#[a + 65, b + 65, c + 65, d + 65]⟩ :=
  ⟨k / 4096 % 16, k / 256 % 16, k / 16 % 16, k % 16, by unfold wordS; simp only [Nat.add_comm]⟩
theorem app_str (a b : Array Nat) : (Str.mk a) ++ (Str.mk b) = Str.mk (a ++ b) := rfl
theorem want_ok {w : Str} {k n : Nat} (hw : w = wordS k) (hn : n ≤ 3) :
    (Builtin.Str.occurrences (Txt.slice w (some (n : Int)) none ++ Str.ofString "..." ++ Txt.slice w none (some (n : Int))) (Str.ofString "...") 0 (Txt.slice w (some (n : Int)) none ++ Str.ofString "..." ++ Txt.slice w none (some (n : Int))).length 1).isEmpty = false ∧
    Txt.split (Txt.slice w (some (n : Int)) none ++ Str.ofString "..." ++ Txt.slice w none (some (n : Int))) (Str.ofString "...") = [cutA w n, cutB w n] ∧
    (Txt.slice w (some (n : Int)) none ++ Str.ofString "..." ++ Txt.slice w none (some (n : Int))).length = 7 := by
  obtain ⟨a, b, c, d, e⟩ := word_form k
  rw [e] at hw
  subst hw
  have hl : n ≤ (Str.mk #[a + 65, b + 65, c + 65, d + 65]).length := by show n ≤ 4; omega
  rw [slice_from _ n hl, slice_to _ n hl, dots_eq]
  rcases (show n = 0 ∨ n = 1 ∨ n = 2 ∨ n = 3 by omega) with rfl | rfl | rfl | rfl
  · exact ⟨by kernel_rfl, split_of (x := ⟨#[a + 65, b + 65, c + 65, d + 65, 46, 46, 46]⟩) (i := 4) rfl (by kernel_rfl) (by kernel_rfl), rfl⟩
  · exact ⟨by kernel_rfl, split_of (x := ⟨#[b + 65, c + 65, d + 65, 46, 46, 46, a + 65]⟩) (i := 3) rfl (by kernel_rfl) (by kernel_rfl), rfl⟩
  · exact ⟨by kernel_rfl, split_of (x := ⟨#[c + 65, d + 65, 46, 46, 46, a + 65, b + 65]⟩) (i := 2) rfl (by kernel_rfl) (by kernel_rfl), rfl⟩
  · exact ⟨by kernel_rfl, split_of (x := ⟨#[d + 65, 46, 46, 46, a + 65, b + 65, c + 65]⟩) (i := 1) rfl (by kernel_rfl) (by kernel_rfl), rfl⟩
theorem cutA_len {w : Str} {n : Nat} (hw : w.length = 4) (hn : n ≤ 3) : (cutA w n).length ≠ 0 ∧ (cutA w n).length + (cutB w n).length = 4 := by
  have h : w.cps.toList.length = 4 := hw
  have h1 : (cutA w n).length = 4 - n := by
    show (w.cps.toList.drop n).toArray.size = _
    rw [List.size_toArray, List.length_drop, h]
  have h2 : (cutB w n).length = n := by
    show (w.cps.toList.take n).toArray.size = _
    rw [List.size_toArray, List.length_take, h]; omega
  rw [h1, h2]; omega
theorem four_words {ys : List Value} {g : Int → Str} (h : CarriedAll ys ((rangeKs 0 (4 - 0 : Int).toNat).map fun k => PyData.str (g k))) : ∃ t0 t1 t2 t3, ys = [.str (g 0) t0, .str (g 1) t1, .str (g 2) t2, .str (g 3) t3] := by
  have e : (rangeKs 0 (4 - 0 : Int).toNat) = [0, 1, 2, 3] := by decide
  rw [e] at h
  obtain _ | ⟨⟨⟩, h⟩ := h
  obtain _ | ⟨⟨⟩, h⟩ := h
  obtain _ | ⟨⟨⟩, h⟩ := h
  obtain _ | ⟨⟨⟩, h⟩ := h
  cases h
  exact ⟨_, _, _, _, rfl⟩
theorem words_at {g : Int → Str} {k : Int} (t0 t1 t2 t3 : Tok) (h0 : 0 ≤ k) (h1 : k < 4) : ∃ t, (#[Value.str (g 0) t0, .str (g 1) t1, .str (g 2) t2, .str (g 3) t3])[k.toNat]? = some (.str (g k) t) := by
  rcases (show k = 0 ∨ k = 1 ∨ k = 2 ∨ k = 3 by omega) with rfl | rfl | rfl | rfl
  · exact ⟨t0, rfl⟩
  · exact ⟨t1, rfl⟩
  · exact ⟨t2, rfl⟩
  · exact ⟨t3, rfl⟩
def turnOk (g : Int → Str) (b : Int) : Bool := Txt.startswith (g 0) (cutA (g (b.fmod 4)) (b.fdiv 4).toNat) && Txt.endswith (g 0) (cutB (g (b.fmod 4)) (b.fdiv 4).toNat)
end Mine
namespace Mine
section
variable {prog : Program} {w : World} {A : Around} {h₀ : Heap} {L : Addr} {m : Str → Option Value} {env : Env} {elt : Expr} {x : Str} {scope : Scope} {cl : List (Str × Addr)} {s : Shared} {S : List (Addr × Obj) → Prop} {Fin : List Value → List (Addr × Obj) → Prop} {news : List (Addr × Obj)}
theorem hue_rest {T : Nat} {vs : List Value} {ks : List Nat} (hH : Hues T vs ks)
    (turn : ∀ (k : Nat) t I oI C oC D m₂ ys h tk (E' : Value → Shared → Prop), k < 16 → LCg.NsObj oC m₂ → m₂ x = some (.float (Float64.ofInt (k : Int)) t) → Fr h₀ L h m → News h₀ L h ((I, oI) :: (C, oC) :: (D, LCg.lst ys) :: news) → LCg.Off3 I C D news → ((@Ne Nat I C) ∧ (@Ne Nat I D) ∧ (@Ne Nat C D)) →
      wpAny (model prog w) A (eval elt (compEnvC scope cl C env)) (LCg.CompEnd h₀ L m { s with heap := h, toks := tk } I oI C oC D (LCg.lst ys) S (fun y news' => news' = news ∧ ∃ t', y = .int (k : Int) t')) E' { s with heap := h, toks := tk })
    (fin : ∀ ys, IntsAre ys (ks.map fun k => ((k : Nat) : Int)) → Fin ys news) : LCg.CompRest prog w A h₀ L m env elt x scope cl s S (fun i v => vs.toArray[i]? = some v) Fin vs.toArray.size 0 [] news := by
  have key : ∀ (j i : Nat) (ys : List Value), i + j = vs.length → IntsAre ys ((ks.take i).map fun k => ((k : Nat) : Int)) → LCg.CompRest prog w A h₀ L m env elt x scope cl s S (fun i v => vs.toArray[i]? = some v) Fin j i ys news := by
    intro j
    induction j with
    | zero =>
      intro i ys hi hy
      have e : i = ks.length := by rw [← hH.length]; omega
      subst e
      rw [List.take_length] at hy
      exact LCg.CompRest.zero (fin ys hy)
    | succ j ih =>
      intro i ys hi hy
      refine LCg.CompRest.succ ?_
      intro v I oI C oC D m₂ h tk E' hv hC hx F N off ne
      have h1 : i < vs.length := by omega
      have h2 : i < ks.length := by rw [← hH.length]; exact h1
      obtain ⟨t, e, h16⟩ := hH.get i h1 h2
      have hv' : v = .float (Float64.ofInt ((ks[i] : Nat) : Int)) t := by
        have : vs.toArray[i]? = some v := hv
        rw [List.getElem?_toArray, List.getElem?_eq_getElem h1, e] at this
        exact (Option.some.inj this).symm
      rw [hv'] at hx
      refine wpAny_mono (turn ks[i] t I oI C oC D m₂ ys h tk E' h16 hC hx F N off ne) (fun y s₂ hq => ?_) fun _ _ e => e
      obtain ⟨h', tk', nw, e, F', N', off', hS, hn, t', hy'⟩ := hq
      rw [hn] at N' off' hS
      refine ⟨h', tk', news, e, F', N', off', hS, ?_⟩
      rw [hy']
      refine ih (i + 1) _ (by omega) ?_
      rw [List.take_add_one, List.getElem?_eq_getElem h2, List.map_append]
      exact IntsAre.append hy (.cons _ t' .nil)
  rw [List.size_toArray]
  exact key vs.length 0 [] (by omega) (by simp only [List.take_zero, List.map_nil]; exact .nil)
end
end Mine
namespace Mine
theorem IntsAre_take : ∀ {vs : List Value} {ns : List Int} (k : Nat), IntsAre vs ns → IntsAre (vs.take k) (ns.take k)
  | _, _, 0, _ => by simpa using IntsAre.nil
  | _, _, k + 1, .nil => by simpa using IntsAre.nil
  | _, _, k + 1, .cons n t h => by
    rw [List.take_succ_cons, List.take_succ_cons]
    exact .cons n t (IntsAre_take k h)
theorem pick_take (vs : List Value) : kms_pick vs none (some 5) = vs.take 5 := by
  unfold kms_pick kms_lo kms_hi
  simp
theorem pick_drop (vs : List Value) (n : Nat) (h : n ≤ vs.length) : kms_pick vs (some (n : Int)) none = vs.drop n := by
  unfold kms_pick kms_lo kms_hi
  have h1 : ¬ ((n : Int) < 0) := by omega
  simp [h1, Nat.min_eq_left h]
  rw [← List.length_drop]
  exact List.take_length
def drawsOf (ns : List Int) : List Int := ns.take 5 ++ ([16, 17, 18, 16, 17] : List Int).drop (ns.take 5).length
theorem drawsOf_len (ns : List Int) : (drawsOf ns).length = 5 := by
  unfold drawsOf
  rw [List.length_append, List.length_drop, List.length_take]
  simp
  omega
theorem IntsAre_app {vs ws : List Value} {ns ms : List Int} (h : IntsAre vs ns) (g : IntsAre ws ms) : IntsAre (vs ++ ws) (ns ++ ms) := by
  induction h with
  | nil => exact g
  | cons n t _ ih => exact .cons n t ih
theorem IntsAre_drop : ∀ {vs : List Value} {ns : List Int} (k : Nat), IntsAre vs ns → IntsAre (vs.drop k) (ns.drop k)
  | _, _, 0, h => h
  | _, _, k + 1, .nil => by simpa using IntsAre.nil
  | _, _, k + 1, .cons n t h => IntsAre_drop k h
theorem five {vs : List Value} {ns : List Int} (h : IntsAre vs ns) (h5 : ns.length = 5) : ∃ a b c d e ta tb tc td te, ns = [a, b, c, d, e] ∧ vs = [.int a ta, .int b tb, .int c tc, .int d td, .int e te] := by
  rcases h with _ | ⟨a, ta, h⟩
  · cases h5
  rcases h with _ | ⟨b, tb, h⟩
  · cases h5
  rcases h with _ | ⟨c, tc, h⟩
  · cases h5
  rcases h with _ | ⟨d, td, h⟩
  · cases h5
  rcases h with _ | ⟨e, te, h⟩
  · cases h5
  rcases h with _ | ⟨f, tf, h⟩
  · exact ⟨a, b, c, d, e, ta, tb, tc, td, te, rfl, rfl⟩
  · exact absurd h5 (by simp)
theorem draws_five {us ws : List Value} {ns : List Int} (h : IntsAre us (ns.take 5)) (hw : IntsAre (us ++ ws) (ns.take 5 ++ ([16, 17, 18, 16, 17] : List Int).drop us.length)) :
    ∃ a b c d e ta tb tc td te, drawsOf ns = [a, b, c, d, e] ∧ us ++ ws = [.int a ta, .int b tb, .int c tc, .int d td, .int e te] := by
  rw [h.length] at hw
  exact five hw (drawsOf_len ns)
theorem addHue_all {P : Int → Prop} {hs : List Int} {v : Int} (h : ∀ x ∈ hs, P x) (hv : P v) : ∀ x ∈ addHue hs v, P x := by
  unfold addHue; split
  · exact h
  · intro x hx
    rcases List.mem_append.mp hx with hx | hx
    · exact h x hx
    · rw [List.mem_singleton.mp hx]; exact hv
theorem foldHue_all {P : Int → Prop} (n : Int) (hP : ∀ k, P ((n + k).fmod 16)) : ∀ (l hs : List Int), (∀ x ∈ hs, P x) → ∀ x ∈ l.foldl (fun hs k => addHue hs ((n + k).fmod 16)) hs, P x
  | [], _, h => h
  | k :: l, hs, h => by
    rw [List.foldl_cons]
    exact foldHue_all n hP l _ (addHue_all h (hP k))
theorem huesF_all (ns : List Int) : ∀ h ∈ huesF ns, 0 ≤ h ∧ h < 16 := by
  unfold huesF
  have go : ∀ (ns hs : List Int), (∀ x ∈ hs, 0 ≤ x ∧ x < 16) → ∀ x ∈ ns.foldl (fun hs x => (offs x).foldl (fun hs k => addHue hs ((x + k).fmod 16)) hs) hs, 0 ≤ x ∧ x < 16 := by
    intro ns
    induction ns with
    | nil => intro hs h; exact h
    | cons a ns ih =>
      intro hs h
      rw [List.foldl_cons]
      exact ih _ (foldHue_all (P := fun x => 0 ≤ x ∧ x < 16) a (fun k => ⟨Int.fmod_nonneg_of_pos _ (by decide), Int.fmod_lt_of_pos _ (by decide)⟩) _ _ h)
  exact go ns [] (fun x hx => nomatch hx)
def sumsOf (a : Int) (B : List Int) (ks : List Nat) : List Nat := B.foldl (fun ks b => addN ks ((a + b).toNat % 16)) ks
def sumsF (A B : List Int) : List Nat := A.foldl (fun ks a => sumsOf a B ks) []
theorem sumsOf_len (a : Int) : ∀ (B : List Int) (ks : List Nat), (sumsOf a B ks).length ≤ ks.length + B.length
  | [], ks => by simp [sumsOf]
  | b :: B, ks => by
    have h1 := sumsOf_len a B (addN ks ((a + b).toNat % 16))
    have h2 := addN_len ks ((a + b).toNat % 16)
    have e : sumsOf a (b :: B) ks = sumsOf a B (addN ks ((a + b).toNat % 16)) := rfl
    rw [e, List.length_cons]
    omega
theorem foldSums_len (B : List Int) : ∀ (A : List Int) (ks : List Nat), (A.foldl (fun ks a => sumsOf a B ks) ks).length ≤ ks.length + A.length * B.length
  | [], ks => by simp
  | a :: A, ks => by
    have h1 := foldSums_len B A (sumsOf a B ks)
    have h2 := sumsOf_len a B ks
    rw [List.foldl_cons, List.length_cons, Nat.add_mul, Nat.one_mul]
    omega
theorem sumsF_len (A B : List Int) : (sumsF A B).length ≤ A.length * B.length := by
  have := foldSums_len B A []
  rw [List.length_nil, Nat.zero_add] at this
  exact this
theorem pick4 {h₀ h : Heap} {L : Addr} {l : List (Addr × Obj)} {a b c d : Addr × Obj} (N : News h₀ L h l) (i j k n : Nat) (e1 : l[i]? = some a) (e2 : l[j]? = some b) (e3 : l[k]? = some c) (e4 : l[n]? = some d) : News h₀ L h [a, b, c, d] := by
  intro p hp
  rcases List.mem_cons.mp hp with rfl | hp
  · exact N _ (List.mem_of_getElem? e1)
  rcases List.mem_cons.mp hp with rfl | hp
  · exact N _ (List.mem_of_getElem? e2)
  rcases List.mem_cons.mp hp with rfl | hp
  · exact N _ (List.mem_of_getElem? e3)
  rw [List.mem_singleton.mp hp]
  exact N _ (List.mem_of_getElem? e4)
theorem eqAt_float_same {A : Around} {s : Shared} {x : UInt64} {t u : Tok} (hb : NoneBooked s.heap) (ht : t ≠ 0) (hu : u ≠ 0) (hx : Float64.isNaN x = false) : SeqAt.EqAt A s (.float x t) (.float x u) true := by
  by_cases htu : t = u
  · subst htu
    exact SeqAt.EqAt.same _
  · have h := eqAt_float (A := A) hb ht hu htu hx (y := x)
    rw [cmp_self hx] at h
    exact h
theorem shF_nan {i : Nat} (hi : i < 4) : Float64.isNaN (shF i) = false := by
  have h : ∀ i : Fin 4, Float64.isNaN (shF i.val) = false := by decide +kernel
  exact h ⟨i, hi⟩
theorem ne_pair {prog : Program} {w : World} {A : Around} {E : Value → Shared → Prop} {s : Shared} {h₀ : Heap} {L l b : Addr} {news : List (Addr × Obj)} {x y : UInt64} {t u v z : Tok} {Q : Value → Shared → Prop} (N : News h₀ L s.heap news)
    (hl : (l, ({ cls := .type "tuple", data := .seq #[Value.float x t, Value.float y u] } : Obj)) ∈ news) (hb : (b, ({ cls := .type "tuple", data := .seq #[Value.float x v, Value.float y z] } : Obj)) ∈ news)
    (nb : NoneBooked s.heap) (hx : Float64.isNaN x = false) (hy : Float64.isNaN y = false) (ht : t ≠ 0) (hu : u ≠ 0) (hv : v ≠ 0) (hz : z ≠ 0) (hA : A.units < cLine)
    (h : Q (.bool false) s) : wpAny (model prog w) A (compareOp .NotEq (.ref l) (.ref b)) Q E s := by
  refine SeqAt.RcNeAt.tuples (items := #[Value.float x t, Value.float y u]) (items2 := #[Value.float x v, Value.float y z]) (e := fun _ => true) ⟨_, (N _ hl).1, rfl, _, rfl⟩ ⟨_, (N _ hb).1, rfl, _, rfl⟩ hA ?_ prog w E Q h
  intro j h1 h2
  match j, h1, h2 with
  | 0, _, _ => exact eqAt_float_same nb ht hv hx
  | 1, _, _ => exact eqAt_float_same nb hu hz hy
  | j + 2, h1, _ => exact absurd h1 (by simp)
theorem pre5 {α : Type} {a b c d e f : α} {p : α} (h : p ∈ [a, b, c, d, e]) : p ∈ [a, b, c, d, e, f] := by
  simp only [List.mem_cons, List.not_mem_nil, or_false] at h ⊢
  rcases h with h | h | h | h | h <;> simp [h]
theorem last6 {α : Type} {a b c d e f : α} {p : α} (h : p ∈ [f]) : p ∈ [a, b, c, d, e, f] := by
  rw [List.mem_singleton.mp h]; simp
theorem pre4 {α : Type} {a b c d f : α} {p : α} (h : p ∈ [a, b, c, d]) : p ∈ [a, b, c, d, f] := by
  simp only [List.mem_cons, List.not_mem_nil, or_false] at h ⊢
  rcases h with h | h | h | h <;> simp [h]
theorem last5 {α : Type} {a b c d f : α} {p : α} (h : p ∈ [f]) : p ∈ [a, b, c, d, f] := by
  rw [List.mem_singleton.mp h]; simp
theorem pow_mem {prog : Program} {w : World} {R : Around} {E : Value → Shared → Prop} {s : Shared} {A : List Int} {k : Int} {t u : Tok} {Q : Value → Shared → Prop} (hk : k ∈ A) (g : ∀ x ∈ A, 0 ≤ x ∧ x < 16)
    (h : Q (.int (2 ^ k.toNat) s.toks) { s with toks := s.toks + 1 }) : wpAny (model prog w) R (binaryOp .Pow (.int 2 t) (.int k u)) Q E s :=
  pow_int_small (g k hk).1 (by have := (g k hk).2; omega) (by decide) h
def turnF16 (x y : Int) : Int := Builtin.bitAnd (Builtin.bitOr (x * 2 ^ y.toNat) (x.fdiv (2 ^ (16 - y).toNat))) 65535
def plainF (A : List Int) : Int := (A.map (fun k => 2 ^ k.toNat)).sum
def markF (p : Int) (B : List Int) : Int := B.foldl (fun m b => Builtin.bitOr m (turnF16 p b)) 0
end Mine
namespace Mine
theorem bitOr_nat (a b : Nat) : Builtin.bitOr (a : Int) (b : Int) = ((a ||| b : Nat) : Int) := by
  unfold Builtin.bitOr
  have e1 : Builtin.bitNot (a : Int) = Int.negSucc a := by unfold Builtin.bitNot; omega
  have e2 : Builtin.bitNot (b : Int) = Int.negSucc b := by unfold Builtin.bitNot; omega
  rw [e1, e2]
  have e3 : Builtin.bitAnd (Int.negSucc a) (Int.negSucc b) = Int.negSucc (a ||| b) := by
    unfold Builtin.bitAnd Builtin.bitNot
    have h1 : ¬ (0 ≤ Int.negSucc a) := by omega
    have h2 : ¬ (0 ≤ Int.negSucc b) := by omega
    have e4 : (-Int.negSucc a - 1).toNat = a := by omega
    have e5 : (-Int.negSucc b - 1).toNat = b := by omega
    simp only [h1, h2, decide_false, e4, e5]
    omega
  rw [e3]
  unfold Builtin.bitNot; omega
def turnN (m y : Nat) : Nat := (m <<< y ||| m >>> (16 - y)) % 65536
theorem turnF16_nat (m y : Nat) (hy : y ≤ 16) : turnF16 (m : Int) (y : Int) = ((turnN m y : Nat) : Int) := by
  unfold turnF16 turnN
  have e1 : ((m : Int) * 2 ^ (y : Int).toNat) = ((m <<< y : Nat) : Int) := by
    rw [Int.toNat_natCast, Nat.shiftLeft_eq]; push_cast; rfl
  have e2 : (m : Int).fdiv (2 ^ (16 - (y : Int)).toNat) = ((m >>> (16 - y) : Nat) : Int) := by
    rw [show (16 - (y : Int)).toNat = 16 - y by omega, Nat.shiftRight_eq_div_pow]
    rw [Int.fdiv_eq_ediv_of_nonneg _ (Int.pow_nonneg (by decide))]
    push_cast; rfl
  rw [e1, e2, bitOr_nat, bitAnd_m16]
  exact (Int.natCast_emod _ _).symm
theorem turnF16_lt (x y : Int) : 0 ≤ turnF16 x y ∧ turnF16 x y < 65536 := by
  unfold turnF16
  rw [bitAnd_m16]
  omega
theorem turnN_lt (m y : Nat) : turnN m y < 65536 := Nat.mod_lt _ (by decide)
theorem bit_high {m : Nat} (hm : m < 65536) {k : Nat} (hk : 16 ≤ k) : m.testBit k = false :=
  Nat.testBit_lt_two_pow (Nat.lt_of_lt_of_le hm (show 2 ^ 16 ≤ 2 ^ k from Nat.pow_le_pow_right (by decide) hk))
theorem turnN_bit {m y k : Nat} (hm : m < 65536) (hy : y < 16) (hk : k < 16) : (turnN m y).testBit k = m.testBit ((k + 16 - y) % 16) := by
  unfold turnN
  rw [show 65536 = 2 ^ 16 by decide, Nat.testBit_mod_two_pow, Nat.testBit_or, Nat.testBit_shiftLeft, Nat.testBit_shiftRight]
  rw [decide_eq_true hk, Bool.true_and]
  by_cases h : y ≤ k
  · rw [decide_eq_true h, Bool.true_and, bit_high hm (show 16 ≤ 16 - y + k by omega), Bool.or_false]
    congr 1; omega
  · rw [decide_eq_false h, Bool.false_and, Bool.false_or]
    congr 1; omega
theorem eq_bits {m n : Nat} (hm : m < 65536) (hn : n < 65536) (h : ∀ k, k < 16 → m.testBit k = n.testBit k) : m = n := by
  refine Nat.eq_of_testBit_eq fun k => ?_
  by_cases hk : k < 16
  · exact h k hk
  · rw [bit_high hm (by omega), bit_high hn (by omega)]
theorem orBits_lt {a b : Nat} (ha : a < 65536) (hb : b < 65536) : a ||| b < 65536 := Nat.or_lt_two_pow (n := 16) ha hb
def maskN (p : Nat) (B : List Nat) : Nat := B.foldl (fun m b => m ||| turnN p b) 0
theorem foldMark (p : Nat) : ∀ (B : List Int) (m : Nat), (∀ x ∈ B, 0 ≤ x ∧ x < 16) → B.foldl (fun m b => Builtin.bitOr m (turnF16 (p : Int) b)) (m : Int) = (((B.map Int.toNat).foldl (fun m b => m ||| turnN p b) m : Nat) : Int)
  | [], m, _ => rfl
  | b :: B, m, h => by
    have hb := h b (List.mem_cons_self ..)
    obtain ⟨n, rfl⟩ := Int.eq_ofNat_of_zero_le hb.1
    rw [List.foldl_cons, List.map_cons, List.foldl_cons, turnF16_nat p n (by omega), bitOr_nat, foldMark p B _ (fun x hx => h x (List.mem_cons_of_mem _ hx))]
    rfl
theorem markF_nat (p : Nat) {B : List Int} (h : ∀ x ∈ B, 0 ≤ x ∧ x < 16) : markF (p : Int) B = ((maskN p (B.map Int.toNat) : Nat) : Int) := foldMark p B 0 h
theorem foldMask_bit (p k : Nat) (hp : p < 65536) (hk : k < 16) : ∀ (B : List Nat) (m : Nat), (∀ x ∈ B, x < 16) → ((B.foldl (fun m b => m ||| turnN p b) m).testBit k = true ↔ m.testBit k = true ∨ ∃ b ∈ B, p.testBit ((k + 16 - b) % 16) = true)
  | [], m, _ => by simp
  | b :: B, m, h => by
    rw [List.foldl_cons, foldMask_bit p k hp hk B _ (fun x hx => h x (List.mem_cons_of_mem _ hx)), Nat.testBit_or, turnN_bit hp (h b (List.mem_cons_self ..)) hk]
    simp [or_assoc]
theorem maskN_bit {p k : Nat} (hp : p < 65536) (hk : k < 16) {B : List Nat} (h : ∀ x ∈ B, x < 16) : (maskN p B).testBit k = true ↔ ∃ b ∈ B, p.testBit ((k + 16 - b) % 16) = true := by
  unfold maskN
  rw [foldMask_bit p k hp hk B 0 h]
  simp
theorem foldMask_lt (p : Nat) : ∀ (B : List Nat) (m : Nat), m < 65536 → B.foldl (fun m b => m ||| turnN p b) m < 65536
  | [], _, h => h
  | b :: B, m, h => by
    rw [List.foldl_cons]
    exact foldMask_lt p B _ (orBits_lt h (turnN_lt p b))
theorem maskN_lt (p : Nat) (B : List Nat) : maskN p B < 65536 := foldMask_lt p B 0 (by decide)
def plainN (A : List Nat) : Nat := (A.map (fun k => 2 ^ k)).sum
theorem plainF_nat : ∀ {A : List Int}, (∀ x ∈ A, 0 ≤ x ∧ x < 16) → plainF A = ((plainN (A.map Int.toNat) : Nat) : Int)
  | [], _ => rfl
  | a :: A, h => by
    have e := plainF_nat (A := A) (fun x hx => h x (List.mem_cons_of_mem _ hx))
    unfold plainF plainN at e ⊢
    simp only [List.map_cons, List.sum_cons] at e ⊢
    rw [e]
    push_cast; rfl
theorem add_pow_bit {m a : Nat} (h : m.testBit a = false) (k : Nat) : (2 ^ a + m).testBit k = (decide (k = a) || m.testBit k) := by
  rcases Nat.lt_trichotomy k a with hk | rfl | hk
  · rw [Nat.testBit_two_pow_add_gt hk, decide_eq_false (by omega), Bool.false_or]
  · rw [Nat.testBit_two_pow_add_eq, h]; simp
  · rw [decide_eq_false (by omega), Bool.false_or]
    obtain ⟨j, rfl⟩ : ∃ j, k = a + (j + 1) := ⟨k - a - 1, by omega⟩
    rw [Nat.add_comm a (j + 1), Nat.testBit_add _ (j + 1) a, Nat.testBit_add m (j + 1) a, Nat.add_div_left _ (Nat.two_pow_pos a)]
    have h0 : (m / 2 ^ a) % 2 = 0 := by
      have h1 := Nat.testBit_eq_decide_div_mod_eq (x := m) (i := a)
      rw [h] at h1
      have := of_decide_eq_false h1.symm
      omega
    rw [Nat.testBit_add_one, Nat.testBit_add_one]
    congr 1; omega
theorem plainN_bit : ∀ {A : List Nat}, A.Nodup → ∀ k, (plainN A).testBit k = decide (k ∈ A)
  | [], _, k => by simp [plainN]
  | a :: A, h, k => by
    have h2 := List.nodup_cons.mp h
    have ih := plainN_bit h2.2
    have e : plainN (a :: A) = 2 ^ a + plainN A := rfl
    rw [e, add_pow_bit (by rw [ih]; exact decide_eq_false h2.1), ih]
    simp
theorem plainN_lt {A : List Nat} (h : A.Nodup) (hA : ∀ x ∈ A, x < 16) : plainN A < 65536 := by
  refine Nat.lt_pow_two_of_testBit (n := 16) _ fun k hk => ?_
  rw [plainN_bit h]
  exact decide_eq_false fun hm => by have := hA k hm; omega
theorem toNat_nodup {A : List Int} (h : A.Nodup) (hA : ∀ x ∈ A, 0 ≤ x ∧ x < 16) : (A.map Int.toNat).Nodup := by
  rw [List.nodup_iff_pairwise_ne, List.pairwise_map]
  rw [List.nodup_iff_pairwise_ne] at h
  refine List.Pairwise.imp_of_mem (fun {a b} ha hb hne he => hne ?_) h
  have h1 := hA a ha
  have h2 := hA b hb
  omega
theorem toNat_lt {A : List Int} (hA : ∀ x ∈ A, 0 ≤ x ∧ x < 16) : ∀ x ∈ A.map Int.toNat, x < 16 := by
  intro x hx
  obtain ⟨a, ha, rfl⟩ := List.mem_map.mp hx
  have := hA a ha
  omega
theorem plainF_lt {A : List Int} (hn : A.Nodup) (h : ∀ x ∈ A, 0 ≤ x ∧ x < 16) : 0 ≤ plainF A ∧ plainF A < 65536 := by
  rw [plainF_nat h]
  have := plainN_lt (toNat_nodup hn h) (toNat_lt h)
  omega
theorem addN_mem {ks : List Nat} {j k : Nat} : k ∈ addN ks j ↔ k ∈ ks ∨ k = j := by
  unfold addN
  split
  · rename_i h
    rw [List.any_eq_true] at h
    obtain ⟨x, hx, e⟩ := h
    have e' : x = j := eq_of_beq e
    subst e'
    constructor
    · exact .inl
    · rintro (h | rfl)
      · exact h
      · exact hx
  · simp
theorem addN_nodup {ks : List Nat} {j : Nat} (h : ks.Nodup) : (addN ks j).Nodup := by
  unfold addN
  split
  · exact h
  · rename_i hn
    rw [List.nodup_append]
    refine ⟨h, by simp, ?_⟩
    intro a ha b hb e
    rw [List.mem_singleton] at hb
    subst hb
    subst e
    apply hn
    rw [List.any_eq_true]
    exact ⟨a, ha, by simp⟩
theorem foldN_mem {α : Type} (f : α → Nat) : ∀ (l : List α) (ks : List Nat) (k : Nat), k ∈ l.foldl (fun ks h => addN ks (f h)) ks ↔ k ∈ ks ∨ ∃ h ∈ l, k = f h
  | [], ks, k => by simp
  | a :: l, ks, k => by
    rw [List.foldl_cons, foldN_mem f l, addN_mem]
    simp [or_assoc]
theorem foldN_nodup {α : Type} (f : α → Nat) : ∀ (l : List α) (ks : List Nat), ks.Nodup → (l.foldl (fun ks h => addN ks (f h)) ks).Nodup
  | [], _, h => h
  | a :: l, ks, h => by
    rw [List.foldl_cons]
    exact foldN_nodup f l _ (addN_nodup h)
theorem kindsF_mem {n : Int} {A : List Int} {k : Nat} : k ∈ kindsF n A ↔ ∃ h ∈ A, k = (n * h).toNat % 16 := by
  unfold kindsF
  rw [foldN_mem (fun h : Int => (n * h).toNat % 16)]
  simp
theorem kindsF_nodup (n : Int) (A : List Int) : (kindsF n A).Nodup := foldN_nodup (fun h : Int => (n * h).toNat % 16) A [] List.nodup_nil
theorem foldS_mem (B : List Int) : ∀ (A : List Int) (ks : List Nat) (k : Nat), k ∈ A.foldl (fun ks a => sumsOf a B ks) ks ↔ k ∈ ks ∨ ∃ a ∈ A, ∃ b ∈ B, k = (a + b).toNat % 16
  | [], ks, k => by simp
  | a :: A, ks, k => by
    rw [List.foldl_cons, foldS_mem B A]
    unfold sumsOf
    rw [foldN_mem (fun b : Int => (a + b).toNat % 16)]
    simp [or_assoc]
theorem sumsF_mem {A B : List Int} {k : Nat} : k ∈ sumsF A B ↔ ∃ a ∈ A, ∃ b ∈ B, k = (a + b).toNat % 16 := by
  unfold sumsF
  rw [foldS_mem]
  simp
theorem foldS_nodup (B : List Int) : ∀ (A : List Int) (ks : List Nat), ks.Nodup → (A.foldl (fun ks a => sumsOf a B ks) ks).Nodup
  | [], _, h => h
  | a :: A, ks, h => by
    rw [List.foldl_cons]
    exact foldS_nodup B A _ (foldN_nodup (fun b : Int => (a + b).toNat % 16) B ks h)
theorem sumsF_nodup (A B : List Int) : (sumsF A B).Nodup := foldS_nodup B A [] List.nodup_nil
theorem sumsF_lt {A B : List Int} {k : Nat} (h : k ∈ sumsF A B) : k < 16 := by
  obtain ⟨a, _, b, _, rfl⟩ := sumsF_mem.mp h
  exact Nat.mod_lt _ (by decide)
/-- a list without repeats of numbers below 16 is the filter of the range -/
theorem perm_range {ks : List Nat} (hn : ks.Nodup) (hl : ∀ k ∈ ks, k < 16) (p : Nat → Bool) (hp : ∀ k, k < 16 → (k ∈ ks ↔ p k = true)) : ks.Perm ((List.range 16).filter p) := by
  rw [List.perm_ext_iff_of_nodup hn (List.nodup_range.filter p)]
  intro k
  rw [List.mem_filter, List.mem_range]
  constructor
  · intro h; exact ⟨hl k h, (hp k (hl k h)).mp h⟩
  · rintro ⟨h1, h2⟩; exact (hp k h1).mpr h2
theorem sums_len {A B : List Int} : (sumsF A B).length ≤ 16 := by
  have h := (perm_range (sumsF_nodup A B) (fun k hk => sumsF_lt hk) (fun k => decide (k ∈ sumsF A B)) (fun k _ => by simp)).length_eq
  rw [h]
  exact Nat.le_trans (List.length_filter_le _ _) (by simp)
theorem addHue_nodup {hs : List Int} {v : Int} (h : hs.Nodup) : (addHue hs v).Nodup := by
  unfold addHue
  split
  · exact h
  · rename_i hn
    rw [List.nodup_append]
    refine ⟨h, by simp, ?_⟩
    intro a ha b hb e
    rw [List.mem_singleton] at hb
    subst hb
    subst e
    apply hn
    rw [List.any_eq_true]
    exact ⟨a, ha, by simp⟩
theorem foldHue_nodup (n : Int) : ∀ (l hs : List Int), hs.Nodup → (l.foldl (fun hs k => addHue hs ((n + k).fmod 16)) hs).Nodup
  | [], _, h => h
  | k :: l, hs, h => by
    rw [List.foldl_cons]
    exact foldHue_nodup n l _ (addHue_nodup h)
theorem huesF_nodup (ns : List Int) : (huesF ns).Nodup := by
  have go : ∀ (ns hs : List Int), hs.Nodup → (ns.foldl (fun hs x => (offs x).foldl (fun hs k => addHue hs ((x + k).fmod 16)) hs) hs).Nodup := by
    intro ns
    induction ns with
    | nil => intro hs h; exact h
    | cons a ns ih => intro hs h; rw [List.foldl_cons]; exact ih _ (foldHue_nodup a _ _ h)
  exact go ns [] List.nodup_nil
/-- the bits of the mark are the sums -/
theorem mark_bit {A B : List Int} (hAn : A.Nodup) (hA : ∀ x ∈ A, 0 ≤ x ∧ x < 16) (hB : ∀ x ∈ B, 0 ≤ x ∧ x < 16) {k : Nat} (hk : k < 16) :
    k ∈ sumsF A B ↔ (maskN (plainN (A.map Int.toNat)) (B.map Int.toNat)).testBit k = true := by
  rw [maskN_bit (plainN_lt (toNat_nodup hAn hA) (toNat_lt hA)) hk (toNat_lt hB), sumsF_mem]
  constructor
  · rintro ⟨a, ha, b, hb, rfl⟩
    refine ⟨b.toNat, List.mem_map_of_mem hb, ?_⟩
    rw [plainN_bit (toNat_nodup hAn hA)]
    refine decide_eq_true ?_
    have h1 := hA a ha
    have h2 := hB b hb
    rw [show ((a + b).toNat % 16 + 16 - b.toNat) % 16 = a.toNat by omega]
    exact List.mem_map_of_mem ha
  · rintro ⟨b, hb, h⟩
    rw [plainN_bit (toNat_nodup hAn hA)] at h
    have h := of_decide_eq_true h
    obtain ⟨a, ha, ea⟩ := List.mem_map.mp h
    obtain ⟨b', hb', rfl⟩ := List.mem_map.mp hb
    have h1 := hA a ha
    have h2 := hB b' hb'
    exact ⟨a, ha, b', hb', by omega⟩
theorem mark_nat {A B : List Int} (hA : ∀ x ∈ A, 0 ≤ x ∧ x < 16) (hB : ∀ x ∈ B, 0 ≤ x ∧ x < 16) : markF (plainF A) B = ((maskN (plainN (A.map Int.toNat)) (B.map Int.toNat) : Nat) : Int) := by
  rw [plainF_nat hA, markF_nat _ hB]
theorem bit_int (m k : Nat) : (Builtin.bitAnd ((m : Int).fdiv (2 ^ (k : Int).toNat)) 1 != 0) = m.testBit k := by
  rw [bitAnd_m1, Int.toNat_natCast, Nat.testBit_eq_decide_div_mod_eq]
  have e : (m : Int).fdiv (2 ^ k) = ((m / 2 ^ k : Nat) : Int) := by
    rw [Int.fdiv_eq_ediv_of_nonneg _ (Int.pow_nonneg (by decide))]
    push_cast; rfl
  rw [e]
  generalize m / 2 ^ k = q
  rcases Nat.mod_two_eq_zero_or_one q with h | h
  · have : ((q : Int) % 2) = 0 := by omega
    rw [this, h]; rfl
  · have : ((q : Int) % 2) = 1 := by omega
    rw [this, h]; rfl
theorem range16 : rangeInts 0 1 (16 - 0 : Int).toNat = (List.range 16).map (fun k => ((k : Nat) : Int)) := by decide
theorem law_sorted {A B : List Int} {ks' : List Nat} (hAn : A.Nodup) (hA : ∀ x ∈ A, 0 ≤ x ∧ x < 16) (hB : ∀ x ∈ B, 0 ≤ x ∧ x < 16) (hp : ks'.Perm (sumsF A B)) (hs : ks'.Pairwise (· ≤ ·)) :
    (rangeInts 0 1 (16 - 0 : Int).toNat).filter (fun a => Builtin.bitAnd ((markF (plainF A) B).fdiv (2 ^ a.toNat)) 1 != 0) = ks'.map (fun k => ((k : Nat) : Int)) := by
  rw [range16, mark_nat hA hB, List.filter_map]
  congr 1
  have e : ((fun a : Int => Builtin.bitAnd (((maskN (plainN (A.map Int.toNat)) (B.map Int.toNat) : Nat) : Int).fdiv (2 ^ a.toNat)) 1 != 0) ∘ fun k : Nat => (k : Int)) = fun k => (maskN (plainN (A.map Int.toNat)) (B.map Int.toNat)).testBit k := by
    funext k
    exact bit_int _ k
  rw [e]
  have h1 := perm_range (sumsF_nodup A B) (fun k hk => sumsF_lt hk) _ (fun k hk => mark_bit hAn hA hB hk)
  have h2 := h1.symm.trans hp.symm
  refine List.Perm.eq_of_pairwise (le := (· ≤ ·)) (fun a b _ _ h1 h2 => Nat.le_antisymm h1 h2) ?_ hs h2
  exact List.Pairwise.filter _ (List.pairwise_le_range)
theorem markF_lt (p : Int) (B : List Int) : 0 ≤ markF p B ∧ markF p B < 65536 := by
  have go : ∀ (B : List Int) (m : Nat), m < 65536 → ∃ q : Nat, q < 65536 ∧ B.foldl (fun m b => Builtin.bitOr m (turnF16 p b)) (m : Int) = (q : Int) := by
    intro B
    induction B with
    | nil => intro m h; exact ⟨m, h, rfl⟩
    | cons b B ih =>
      intro m h
      have ht := turnF16_lt p b
      obtain ⟨t, et⟩ := Int.eq_ofNat_of_zero_le ht.1
      rw [List.foldl_cons, et, bitOr_nat]
      exact ih _ (orBits_lt h (by omega))
  obtain ⟨q, hq, e⟩ := go B 0 (by decide)
  have e' : markF p B = (q : Int) := e
  rw [e']; omega
end Mine
namespace Mine
def fin16 : List (Fin 16) := (List.range 16).map (Fin.ofNat 16)
theorem mem_fin16 : ∀ k : Fin 16, k ∈ fin16 := by decide +kernel
theorem nodup_fin16 : fin16.Nodup := by decide +kernel
def cnt (f : Fin 16 → Bool) : Nat := fin16.countP f
theorem cnt_le {f g : Fin 16 → Bool} (h : ∀ k, f k = true → g k = true) : cnt f ≤ cnt g := List.countP_mono_left fun k _ => h k
theorem cnt_congr {f g : Fin 16 → Bool} (h : ∀ k, f k = g k) : cnt f = cnt g := by rw [show f = g from funext h]
theorem shift_perm : ∀ y : Fin 16, ((fin16.map (· + y)).isPerm fin16) = true := by decide +kernel
theorem cnt_shift (f : Fin 16 → Bool) (y : Fin 16) : cnt (fun k => f (k + y)) = cnt f := by
  have h := (List.isPerm_iff.mp (shift_perm y)).countP_eq f
  rw [List.countP_map] at h
  exact h
theorem countP_or (f g : Fin 16 → Bool) : ∀ l : List (Fin 16), (∀ k, ¬ (f k = true ∧ g k = true)) → l.countP (fun k => f k || g k) = l.countP f + l.countP g
  | [], _ => rfl
  | a :: l, h => by
    rw [List.countP_cons, List.countP_cons, List.countP_cons, countP_or f g l h]
    have := h a
    cases hf : f a <;> cases hg : g a <;> simp_all <;> omega
def K1 : List (Fin 16) := [0]
def K2 : List (Fin 16) := [0, 8]
def K4 : List (Fin 16) := [0, 4, 8, 12]
/-- K is one of the three -/
structure Sub (K : List (Fin 16)) : Prop where
  zero : (0 : Fin 16) ∈ K
  add : ∀ x ∈ K, ∀ y ∈ K, x + y ∈ K
  neg : ∀ x ∈ K, -x ∈ K
  size : ∀ j : Fin 16, cnt (fun k => K.any (fun x => k == j + x)) = K.length
  size1 : ∀ x y : Fin 16, cnt (fun k => k == y || K.any (fun z => k == x + z)) ≤ K.length + 1
  kind : K = K1 ∨ (8 : Fin 16) ∈ K
theorem sub1 : Sub K1 := ⟨by decide +kernel, by decide +kernel, by decide +kernel, by decide +kernel, by decide +kernel, .inl rfl⟩
theorem sub2 : Sub K2 := ⟨by decide +kernel, by decide +kernel, by decide +kernel, by decide +kernel, by decide +kernel, .inr (by decide +kernel)⟩
theorem sub4 : Sub K4 := ⟨by decide +kernel, by decide +kernel, by decide +kernel, by decide +kernel, by decide +kernel, .inr (by decide +kernel)⟩
theorem times16 : ∀ j d : Fin 16, j + d + d + d + d + d + d + d + d + d + d + d + d + d + d + d + d = j := by decide +kernel
theorem step_back {h : Fin 16 → Prop} {d : Fin 16} (H : ∀ j, h j → h (j + d)) (j : Fin 16) (hj : h (j + d)) : h j := by
  have e := times16 j d
  rw [← e]
  exact H _ (H _ (H _ (H _ (H _ (H _ (H _ (H _ (H _ (H _ (H _ (H _ (H _ (H _ (H _ hj))))))))))))))
theorem eight_of : ∀ d : Fin 16, d ≠ 0 → ∃ t : Fin 16, t * d = 8 := by decide +kernel
theorem steps {h : Fin 16 → Prop} {d : Fin 16} (H : ∀ j, h j → h (j + d)) : ∀ (t : Nat) (j : Fin 16), h j → h (j + Fin.ofNat 16 t * d)
  | 0, j, hj => by
    have e : j + Fin.ofNat 16 0 * d = j := by
      have : ∀ j d : Fin 16, j + Fin.ofNat 16 0 * d = j := by decide +kernel
      exact this j d
    rw [e]; exact hj
  | t + 1, j, hj => by
    have e : j + Fin.ofNat 16 (t + 1) * d = j + Fin.ofNat 16 t * d + d := by
      have h1 : Fin.ofNat 16 (t + 1) = Fin.ofNat 16 t + 1 := by
        apply Fin.ext
        simp [Fin.ofNat, Fin.val_add]
      have h2 : ∀ j d u : Fin 16, j + (u + 1) * d = j + u * d + d := by decide +kernel
      rw [h1, h2]
    rw [e]
    exact H _ (steps H t j hj)
theorem a1 : ∀ k x : Fin 16, k - x + x = k := by decide +kernel
theorem a2 : ∀ j y z : Fin 16, j + z - y - z = j - y := by decide +kernel
theorem a3 : ∀ j x y : Fin 16, j - x + (x - y) = j - y := by decide +kernel
theorem a4 : ∀ k x : Fin 16, k + 8 - x = k - x + 8 := by decide +kernel
theorem a5 : ∀ k z : Fin 16, k - -z = k + z := by decide +kernel
theorem a6 : ∀ j z u : Fin 16, j + z - u = j - (u - z) := by decide +kernel
theorem a7 : ∀ k : Fin 16, k + 8 + 8 = k := by decide +kernel
theorem a8 : ∀ k y : Fin 16, k + y - y = k := by decide +kernel
theorem a9 : ∀ u z : Fin 16, u - z = u + -z := by decide +kernel
def hitK (a : Fin 16 → Bool) (K : List (Fin 16)) (j : Fin 16) : Bool := K.any fun z => a (j - z)
theorem hitK_iff {a : Fin 16 → Bool} {K : List (Fin 16)} {j : Fin 16} : hitK a K j = true ↔ ∃ z ∈ K, a (j - z) = true := by
  unfold hitK; rw [List.any_eq_true]
theorem hitK_add {a : Fin 16 → Bool} {K : List (Fin 16)} (hK : Sub K) {j z : Fin 16} (hz : z ∈ K) (h : hitK a K j = true) : hitK a K (j + z) = true := by
  obtain ⟨u, hu, hau⟩ := hitK_iff.mp h
  refine hitK_iff.mpr ⟨z + u, hK.add z hz u hu, ?_⟩
  have e : ∀ j z u : Fin 16, j + z - (z + u) = j - u := by decide +kernel
  rw [e]; exact hau
theorem hitK_self {a : Fin 16 → Bool} {K : List (Fin 16)} (hK : Sub K) {j : Fin 16} (h : a j = true) : hitK a K j = true := by
  refine hitK_iff.mpr ⟨0, hK.zero, ?_⟩
  have e : ∀ j : Fin 16, j - 0 = j := by decide +kernel
  rw [e]; exact h
theorem kneser_core {a s : Fin 16 → Bool} {x y : Fin 16} {K : List (Fin 16)} (hK : Sub K) (hs : ∀ k, s k = (a (k - y) || hitK a K (k - x))) (hper : ¬ ∀ k, s (k + 8) = s k) :
    cnt a + cnt (fun k => k == y || K.any (fun z => k == x + z)) ≤ cnt s + 1 := by
  by_cases hA : ∃ j, hitK a K (j - x) = true ∧ ¬ hitK a K (j - y) = true
  · obtain ⟨j, h1, h2⟩ := hA
    have e1 : cnt (fun k => a (k - y)) = cnt a := by
      have h := cnt_shift (fun k => a (k - y)) y
      rw [← h]
      exact cnt_congr fun k => by rw [a8]
    have dis : ∀ k, ¬ (a (k - y) = true ∧ (K.any fun z => k == j + z) = true) := by
      rintro k ⟨h3, h4⟩
      rw [List.any_eq_true] at h4
      obtain ⟨z, hz, e⟩ := h4
      have e' : k = j + z := eq_of_beq e
      subst e'
      apply h2
      have h5 := hitK_add hK (hK.neg z hz) (hitK_self hK h3)
      have e : ∀ j y z : Fin 16, j + z - y + -z = j - y := by decide +kernel
      rwa [e] at h5
    have e2 := countP_or (fun k => a (k - y)) (fun k => K.any fun z => k == j + z) fin16 dis
    have e3 : cnt (fun k => a (k - y) || K.any fun z => k == j + z) ≤ cnt s := by
      refine cnt_le fun k hk => ?_
      rw [hs]
      rw [Bool.or_eq_true] at hk ⊢
      rcases hk with hk | hk
      · exact .inl hk
      · right
        rw [List.any_eq_true] at hk
        obtain ⟨z, hz, e⟩ := hk
        have e' : k = j + z := eq_of_beq e
        subst e'
        have h5 := hitK_add hK hz h1
        have e : ∀ j x z : Fin 16, j - x + z = j + z - x := by decide +kernel
        rwa [e] at h5
    have e4 := hK.size j
    have e5 := hK.size1 x y
    unfold cnt at *
    omega
  · have hB : ∀ j, hitK a K j = true → hitK a K (j + (x - y)) = true := by
      intro j hj
      refine Classical.byContradiction fun hn => hA ⟨j + x, ?_, ?_⟩
      · rw [a8]; exact hj
      · have e : ∀ j x y : Fin 16, j + x - y = j + (x - y) := by decide +kernel
        rw [e]; exact hn
    have hC : ∀ k, s k = hitK a K (k - x) := by
      intro k
      rw [hs]
      cases h1 : a (k - y) with
      | false => simp
      | true =>
        have h2 := hitK_self hK h1
        rw [← a3 k x y] at h2
        rw [step_back (h := fun j => hitK a K j = true) hB _ h2]
        rfl
    rcases hK.kind with rfl | h8
    · have hit1 : ∀ j, hitK a K1 j = a j := by
        intro j
        unfold hitK K1
        have e : ∀ j : Fin 16, j - 0 = j := by decide +kernel
        simp [e]
      by_cases hd : x - y = 0
      · have hxy : x = y := by
          have e : ∀ x y : Fin 16, x - y = 0 → x = y := by decide +kernel
          exact e x y hd
        subst hxy
        have e1 : cnt s = cnt a := by
          have h := cnt_shift s x
          rw [← h]
          exact cnt_congr fun k => by rw [hC, hit1, a8]
        have e2 : ∀ x : Fin 16, cnt (fun k => k == x || K1.any (fun z => k == x + z)) = 1 := by decide +kernel
        rw [e1, e2]
        exact Nat.le_refl _
      · obtain ⟨t, ht⟩ := eight_of _ hd
        exfalso
        apply hper
        have h8 : ∀ j, a j = true → a (j + 8) = true := by
          intro j hj
          have h := steps (h := fun j => hitK a K1 j = true) hB t.val j (by rw [hit1]; exact hj)
          have e : Fin.ofNat 16 t.val = t := by apply Fin.ext; simp [Fin.ofNat]
          rw [e, ht, hit1] at h
          exact h
        intro k
        rw [hC, hC, hit1, hit1, a4]
        cases h1 : a (k - x) with
        | true => exact h8 _ h1
        | false =>
          cases h2 : a (k - x + 8) with
          | false => rfl
          | true =>
            have := h8 _ h2
            rw [a7, h1] at this
            cases this
    · exfalso
      apply hper
      intro k
      rw [hC, hC, a4]
      cases h1 : hitK a K (k - x) with
      | true => exact hitK_add hK h8 h1
      | false =>
        cases h2 : hitK a K (k - x + 8) with
        | false => rfl
        | true =>
          have := hitK_add hK h8 h2
          rw [a7, h1] at this
          cases this
theorem any1 (k y : Fin 16) : K1.any (fun z => k == y + z) = (k == y) := by
  have e : ∀ y : Fin 16, y + 0 = y := by decide +kernel
  simp [K1, e]
theorem hit1 (a : Fin 16 → Bool) (j : Fin 16) : hitK a K1 j = a j := by
  unfold hitK K1
  have e : ∀ j : Fin 16, j - 0 = j := by decide +kernel
  simp [e]
/-- Kneser for the wheel of sixteen: any set, and two of the three kinds -/
theorem kneser16 {a b s : Fin 16 → Bool} {x y : Fin 16} {K L : List (Fin 16)} (hK : Sub K) (hL : Sub L) (hb : ∀ k, b k = (L.any (fun z => k == y + z) || K.any (fun z => k == x + z))) (hs : ∀ k, s k = (hitK a L (k - y) || hitK a K (k - x))) (hper : ¬ ∀ k, s (k + 8) = s k) :
    cnt a + cnt b ≤ cnt s + 1 := by
  rcases hL.kind with rfl | hl
  · have e : cnt b = cnt (fun k => k == y || K.any (fun z => k == x + z)) := cnt_congr fun k => by rw [hb, any1]
    rw [e]
    exact kneser_core hK (fun k => by rw [hs, hit1]) hper
  · rcases hK.kind with rfl | hk
    · have e : cnt b = cnt (fun k => k == x || L.any (fun z => k == y + z)) := cnt_congr fun k => by rw [hb, any1, Bool.or_comm]
      rw [e]
      exact kneser_core hL (fun k => by rw [hs, hit1, Bool.or_comm]) hper
    · exfalso
      apply hper
      have go : ∀ k, s k = true → s (k + 8) = true := by
        intro k h
        rw [hs, Bool.or_eq_true] at h ⊢
        rw [a4, a4]
        rcases h with h | h
        · exact .inl (hitK_add hL hl h)
        · exact .inr (hitK_add hK hk h)
      intro k
      cases h1 : s k with
      | true => exact go k h1
      | false =>
        cases h2 : s (k + 8) with
        | false => rfl
        | true =>
          have := go _ h2
          rw [a7, h1] at this
          cases this
end Mine
namespace Mine
/-- which hues n times a list gives -/
def ind (n : Nat) (l : List Int) : Fin 16 → Bool := fun k => l.any fun h => ((n : Int) * h).toNat % 16 == k.val
theorem ind_iff {n : Nat} {l : List Int} {k : Fin 16} : ind n l k = true ↔ ∃ h ∈ l, ((n : Int) * h).toNat % 16 = k.val := by
  unfold ind
  rw [List.any_eq_true]
  constructor
  · rintro ⟨h, hm, e⟩; exact ⟨h, hm, eq_of_beq e⟩
  · rintro ⟨h, hm, e⟩; exact ⟨h, hm, beq_iff_eq.mpr e⟩
theorem cnt_range (f : Fin 16 → Bool) (p : Nat → Bool) (h : ∀ k, k < 16 → p k = f (Fin.ofNat 16 k)) : ((List.range 16).filter p).length = cnt f := by
  unfold cnt fin16
  rw [List.countP_map, List.countP_eq_length_filter]
  congr 1
  refine List.filter_congr fun k hk => ?_
  exact h k (List.mem_range.mp hk)
theorem fin_val {k : Nat} (h : k < 16) : (Fin.ofNat 16 k).val = k := Nat.mod_eq_of_lt h
theorem list_cnt {ks : List Nat} (hn : ks.Nodup) (hl : ∀ k ∈ ks, k < 16) (f : Fin 16 → Bool) (hf : ∀ k : Fin 16, k.val ∈ ks ↔ f k = true) : ks.length = cnt f := by
  have h := perm_range hn hl (fun k => f (Fin.ofNat 16 k)) (fun k hk => by
    have := hf (Fin.ofNat 16 k)
    rwa [fin_val hk] at this)
  rw [h.length_eq]
  exact cnt_range f _ fun _ _ => rfl
theorem kinds_cnt (n : Nat) (l : List Int) : (kindsF (n : Int) l).length = cnt (ind n l) :=
  list_cnt (kindsF_nodup _ _) (fun k hk => by
    obtain ⟨h, _, rfl⟩ := kindsF_mem.mp hk
    exact Nat.mod_lt _ (by decide)) _ fun k => by
      rw [kindsF_mem, ind_iff]
      exact ⟨fun ⟨h, a, b⟩ => ⟨h, a, b.symm⟩, fun ⟨h, a, b⟩ => ⟨h, a, b.symm⟩⟩
def setF (A B : List Int) : Fin 16 → Bool := fun k => decide (k.val ∈ sumsF A B)
theorem sums_cnt (A B : List Int) : (sumsF A B).length = cnt (setF A B) :=
  list_cnt (sumsF_nodup A B) (fun k hk => sumsF_lt hk) _ fun k => by unfold setF; rw [decide_eq_true_iff]
def sumsI (A B : List Int) : List Int := (sumsF A B).map fun k => ((k : Nat) : Int)
def manyF (n : Nat) (s : Fin 16 → Bool) : Fin 16 → Bool := fun k => fin16.any fun j => s j && Fin.ofNat 16 n * j == k
theorem manyF_iff {n : Nat} {s : Fin 16 → Bool} {k : Fin 16} : manyF n s k = true ↔ ∃ j, s j = true ∧ Fin.ofNat 16 n * j = k := by
  unfold manyF
  rw [List.any_eq_true]
  constructor
  · rintro ⟨j, _, h⟩
    rw [Bool.and_eq_true] at h
    exact ⟨j, h.1, eq_of_beq h.2⟩
  · rintro ⟨j, h1, h2⟩
    exact ⟨j, mem_fin16 j, by rw [h1, h2]; simp⟩
theorem bool_iff {a b : Bool} (h : a = true ↔ b = true) : a = b := by cases a <;> cases b <;> simp_all
theorem ind_many (n : Nat) (A B : List Int) (k : Fin 16) : ind n (sumsI A B) k = manyF n (setF A B) k := by
  refine bool_iff ?_
  rw [ind_iff, manyF_iff]
  constructor
  · rintro ⟨h, hm, e⟩
    obtain ⟨j, hj, rfl⟩ := List.mem_map.mp hm
    have hlt := sumsF_lt hj
    refine ⟨Fin.ofNat 16 j, ?_, ?_⟩
    · unfold setF; rw [decide_eq_true_iff, fin_val hlt]; exact hj
    · apply Fin.ext
      rw [← e, Fin.val_mul, fin_val hlt]
      show n % 16 * j % 16 = _
      rw [show ((n : Int) * (j : Int)).toNat = n * j by rw [← Int.natCast_mul, Int.toNat_natCast], Nat.mod_mul_mod]
  · rintro ⟨j, hs, e⟩
    unfold setF at hs
    rw [decide_eq_true_iff] at hs
    refine ⟨(j.val : Int), List.mem_map_of_mem hs, ?_⟩
    rw [← e, Fin.val_mul]
    show _ = n % 16 * j.val % 16
    rw [show ((n : Int) * (j.val : Int)).toNat = n * j.val by rw [← Int.natCast_mul, Int.toNat_natCast], Nat.mod_mul_mod]
theorem ind_sum {n : Nat} {A B : List Int} (hA : ∀ x ∈ A, 0 ≤ x ∧ x < 16) (hB : ∀ x ∈ B, 0 ≤ x ∧ x < 16) (k : Fin 16) : ind n (sumsI A B) k = true ↔ ∃ j, ind n B j = true ∧ ind n A (k - j) = true := by
  rw [ind_iff]
  constructor
  · rintro ⟨h, hm, e⟩
    obtain ⟨j, hj, rfl⟩ := List.mem_map.mp hm
    obtain ⟨a, ha, b, hb, rfl⟩ := sumsF_mem.mp hj
    obtain ⟨a', rfl⟩ := Int.eq_ofNat_of_zero_le (hA a ha).1
    obtain ⟨b', rfl⟩ := Int.eq_ofNat_of_zero_le (hB b hb).1
    have e1 : ((a' : Int) + (b' : Int)).toNat = a' + b' := by omega
    rw [e1] at e
    have e2 : ((n : Int) * (((a' + b') % 16 : Nat) : Int)).toNat % 16 = (n * a' + n * b') % 16 := by
      rw [← Int.natCast_mul, Int.toNat_natCast, Nat.mul_mod_mod, Nat.mul_add]
    rw [e2] at e
    refine ⟨Fin.ofNat 16 (n * b'), ind_iff.mpr ⟨(b' : Int), hb, ?_⟩, ind_iff.mpr ⟨(a' : Int), ha, ?_⟩⟩
    · rw [← Int.natCast_mul, Int.toNat_natCast]; rfl
    · rw [← Int.natCast_mul, Int.toNat_natCast, Fin.sub_def]
      show _ = (16 - (n * b') % 16 + k.val) % 16
      have := k.isLt
      omega
  · rintro ⟨j, h1, h2⟩
    obtain ⟨b, hb, eb⟩ := ind_iff.mp h1
    obtain ⟨a, ha, ea⟩ := ind_iff.mp h2
    obtain ⟨a', rfl⟩ := Int.eq_ofNat_of_zero_le (hA a ha).1
    obtain ⟨b', rfl⟩ := Int.eq_ofNat_of_zero_le (hB b hb).1
    have e1 : ((a' : Int) + (b' : Int)).toNat = a' + b' := by omega
    refine ⟨(((a' + b') % 16 : Nat) : Int), List.mem_map_of_mem (sumsF_mem.mpr ⟨_, ha, _, hb, by rw [e1]⟩), ?_⟩
    rw [← Int.natCast_mul, Int.toNat_natCast] at ea eb ⊢
    rw [Nat.mul_mod_mod, Nat.mul_add]
    rw [Fin.sub_def] at ea
    change _ = (16 - j.val + k.val) % 16 at ea
    have := k.isLt
    have := j.isLt
    omega
/-- a turn that leaves the set as it is -/
def invF (s : Fin 16 → Bool) (b : Fin 16) : Prop := ∀ k, s (k + b) = s k
theorem invF_mul {s : Fin 16 → Bool} {b : Fin 16} (h : invF s b) (c : Fin 16) : invF s (c * b) := by
  intro k
  refine bool_iff ⟨fun hk => ?_, fun hk => ?_⟩
  · have h1 := steps (h := fun j => s (j + c * b) = true → s j = true) (d := b) (fun j hj hjb => ?_) 0 k ?_
    · have e : k + Fin.ofNat 16 0 * b = k := by
        have : ∀ k b : Fin 16, k + Fin.ofNat 16 0 * b = k := by decide +kernel
        exact this k b
      rw [e] at h1
      exact h1 hk
    · rw [h]
      apply hj
      have e : ∀ j b c : Fin 16, j + b + c * b = j + c * b + b := by decide +kernel
      rw [e, h] at hjb
      exact hjb
    · intro hk2
      have h2 := steps (h := fun j => s j = s k) (d := b) (fun j hj => by rw [h]; exact hj) c.val k rfl
      have e : Fin.ofNat 16 c.val = c := by apply Fin.ext; exact Nat.mod_eq_of_lt c.isLt
      rw [e] at h2
      rw [← h2]; exact hk2
  · have h2 := steps (h := fun j => s j = s k) (d := b) (fun j hj => by rw [h]; exact hj) c.val k rfl
    have e : Fin.ofNat 16 c.val = c := by apply Fin.ext; exact Nat.mod_eq_of_lt c.isLt
    rw [e] at h2
    rw [h2]; exact hk
def pick (i1 i2 i4 i8 : Bool) (b : Fin 16) : Bool := if b.val = 0 then true else if b.val % 2 = 1 then i1 else if b.val % 4 = 2 then i2 else if b.val % 8 = 4 then i4 else i8
theorem pick_tab : ∀ i1 i2 i4 i8 : Bool, (i1 = true → i2 = true) → (i2 = true → i4 = true) → (i4 = true → i8 = true) →
    (cnt (pick i1 i2 i4 i8) = 16 ∧ i1 = true) ∨ (cnt (pick i1 i2 i4 i8) = 8 ∧ i2 = true ∧ i1 = false) ∨ (cnt (pick i1 i2 i4 i8) = 4 ∧ i4 = true ∧ i2 = false) ∨ (cnt (pick i1 i2 i4 i8) = 2 ∧ i8 = true ∧ i4 = false) ∨ (cnt (pick i1 i2 i4 i8) = 1 ∧ i8 = false) := by decide +kernel
def rep (b : Fin 16) : Fin 16 := if b.val % 2 = 1 then 1 else if b.val % 4 = 2 then 2 else if b.val % 8 = 4 then 4 else 8
theorem rep_to : ∀ b : Fin 16, b.val ≠ 0 → (∃ c : Fin 16, c * b = rep b) ∧ ∃ c : Fin 16, c * rep b = b := by decide +kernel
theorem sub_count {I : Fin 16 → Bool} (h0 : I 0 = true) (hm : ∀ b c, I b = true → I (c * b) = true) :
    (cnt I = 16 ∧ I 1 = true) ∨ (cnt I = 8 ∧ I 2 = true ∧ I 1 = false) ∨ (cnt I = 4 ∧ I 4 = true ∧ I 2 = false) ∨ (cnt I = 2 ∧ I 8 = true ∧ I 4 = false) ∨ (cnt I = 1 ∧ I 8 = false) := by
  have e : cnt I = cnt (pick (I 1) (I 2) (I 4) (I 8)) := cnt_congr fun b => by
    by_cases hb : b.val = 0
    · have : b = 0 := Fin.ext hb
      subst this
      rw [h0]; rfl
    · obtain ⟨⟨c, hc⟩, ⟨c', hc'⟩⟩ := rep_to b hb
      have e1 : I b = I (rep b) := bool_iff ⟨fun h => by rw [← hc]; exact hm _ _ h, fun h => by rw [← hc']; exact hm _ _ h⟩
      rw [e1]
      unfold rep pick
      rw [if_neg hb]
      split
      · rfl
      · split
        · rfl
        · split <;> rfl
  rw [e]
  refine pick_tab _ _ _ _ (fun h => ?_) (fun h => ?_) (fun h => ?_)
  · exact hm 1 2 h
  · exact hm 2 2 h
  · exact hm 4 2 h
end Mine
namespace Mine
def pick8 (v0 v1 v2 v3 v4 v5 v6 v7 : Bool) (k : Fin 16) : Bool := if k.val % 8 = 0 then v0 else if k.val % 8 = 1 then v1 else if k.val % 8 = 2 then v2 else if k.val % 8 = 3 then v3 else if k.val % 8 = 4 then v4 else if k.val % 8 = 5 then v5 else if k.val % 8 = 6 then v6 else v7
theorem third2 : ∀ v0 v1 v2 v3 v4 v5 v6 v7 : Bool, cnt (manyF 2 (pick8 v0 v1 v2 v3 v4 v5 v6 v7)) * 2 = cnt (pick8 v0 v1 v2 v3 v4 v5 v6 v7) := by decide +kernel
theorem third4 : ∀ v0 v1 v2 v3 : Bool, cnt (manyF 4 (pick8 v0 v1 v2 v3 v0 v1 v2 v3)) * 4 = cnt (pick8 v0 v1 v2 v3 v0 v1 v2 v3) := by decide +kernel
theorem third8 : ∀ v0 v1 : Bool, cnt (manyF 8 (pick8 v0 v1 v0 v1 v0 v1 v0 v1)) * 8 = cnt (pick8 v0 v1 v0 v1 v0 v1 v0 v1) := by decide +kernel
theorem third16 : ∀ v0 : Bool, cnt (manyF 16 (pick8 v0 v0 v0 v0 v0 v0 v0 v0)) * 16 = cnt (pick8 v0 v0 v0 v0 v0 v0 v0 v0) := by decide +kernel
theorem inv_pick {s : Fin 16 → Bool} (h : invF s 8) : s = pick8 (s 0) (s 1) (s 2) (s 3) (s 4) (s 5) (s 6) (s 7) := by
  funext k
  have e : ∀ k : Fin 16, ∃ c : Fin 16, k = Fin.ofNat 16 (k.val % 8) + c * 8 := by decide +kernel
  obtain ⟨c, hc⟩ := e k
  have h1 : s k = s (Fin.ofNat 16 (k.val % 8)) := by
    have := invF_mul h c (Fin.ofNat 16 (k.val % 8))
    rwa [← hc] at this
  rw [h1]
  unfold pick8
  have h8 := Nat.mod_lt k.val (show 0 < 8 by decide)
  generalize k.val % 8 = r at h8
  rcases (show r = 0 ∨ r = 1 ∨ r = 2 ∨ r = 3 ∨ r = 4 ∨ r = 5 ∨ r = 6 ∨ r = 7 by omega) with rfl | rfl | rfl | rfl | rfl | rfl | rfl | rfl <;> rfl
theorem third_ok {s : Fin 16 → Bool} {n : Nat} (h : (n = 16 ∧ invF s 1) ∨ (n = 8 ∧ invF s 2) ∨ (n = 4 ∧ invF s 4) ∨ (n = 2 ∧ invF s 8) ∨ n = 1) : cnt (manyF n s) * n = cnt s := by
  rcases h with ⟨rfl, h⟩ | ⟨rfl, h⟩ | ⟨rfl, h⟩ | ⟨rfl, h⟩ | rfl
  · have h8 : invF s 8 := invF_mul h 8
    have e1 : s 1 = s 0 := h 0
    have e2 : s 2 = s 0 := (h 1).trans e1
    have e3 : s 3 = s 0 := (h 2).trans e2
    have e4 : s 4 = s 0 := (h 3).trans e3
    have e5 : s 5 = s 0 := (h 4).trans e4
    have e6 : s 6 = s 0 := (h 5).trans e5
    have e7 : s 7 = s 0 := (h 6).trans e6
    have e := inv_pick h8
    rw [e1, e2, e3, e4, e5, e6, e7] at e
    rw [e]
    exact third16 _
  · have h8 : invF s 8 := invF_mul h 4
    have e2 : s 2 = s 0 := h 0
    have e3 : s 3 = s 1 := h 1
    have e4 : s 4 = s 0 := (h 2).trans e2
    have e5 : s 5 = s 1 := (h 3).trans e3
    have e6 : s 6 = s 0 := (h 4).trans e4
    have e7 : s 7 = s 1 := (h 5).trans e5
    have e := inv_pick h8
    rw [e2, e3, e4, e5, e6, e7] at e
    rw [e]
    exact third8 _ _
  · have h8 : invF s 8 := invF_mul h 2
    have e4 : s 4 = s 0 := h 0
    have e5 : s 5 = s 1 := h 1
    have e6 : s 6 = s 2 := h 2
    have e7 : s 7 = s 3 := h 3
    have e := inv_pick h8
    rw [e4, e5, e6, e7] at e
    rw [e]
    exact third4 _ _ _ _
  · have e := inv_pick h
    rw [e]
    exact third2 _ _ _ _ _ _ _ _
  · rw [Nat.mul_one]
    refine cnt_congr fun k => bool_iff ?_
    rw [manyF_iff]
    have e : ∀ j : Fin 16, Fin.ofNat 16 1 * j = j := by decide +kernel
    constructor
    · rintro ⟨j, h1, h2⟩; rw [e] at h2; rw [← h2]; exact h1
    · intro h; exact ⟨k, h, e k⟩
theorem far1 : ∀ j k : Fin 16, Fin.ofNat 16 1 * j = Fin.ofNat 16 1 * k + 8 → ∃ c : Fin 16, j = k + 8 + c * 0 := by decide +kernel
theorem far2 : ∀ j k : Fin 16, Fin.ofNat 16 2 * j = Fin.ofNat 16 2 * k + 8 → ∃ c : Fin 16, j = k + 4 + c * 8 := by decide +kernel
theorem far4 : ∀ j k : Fin 16, Fin.ofNat 16 4 * j = Fin.ofNat 16 4 * k + 8 → ∃ c : Fin 16, j = k + 2 + c * 4 := by decide +kernel
theorem far8 : ∀ j k : Fin 16, Fin.ofNat 16 8 * j = Fin.ofNat 16 8 * k + 8 → ∃ c : Fin 16, j = k + 1 + c * 2 := by decide +kernel
theorem not_per {s : Fin 16 → Bool} {n : Nat} {e d : Fin 16} (hf : ∀ j k : Fin 16, Fin.ofNat 16 n * j = Fin.ofNat 16 n * k + 8 → ∃ c : Fin 16, j = k + e + c * d) (hd : invF s d) (he : ¬ invF s e) : ¬ ∀ k, manyF n s (k + 8) = manyF n s k := by
  intro hp
  apply he
  have go : ∀ k, s k = true → s (k + e) = true := by
    intro k hk
    have h1 : manyF n s (Fin.ofNat 16 n * k) = true := manyF_iff.mpr ⟨k, hk, rfl⟩
    rw [← hp] at h1
    obtain ⟨j, hj, ej⟩ := manyF_iff.mp h1
    obtain ⟨c, rfl⟩ := hf j k ej
    have := invF_mul hd c (k + e)
    rw [← this]; exact hj
  intro k
  exact bool_iff ⟨fun h => step_back (h := fun j => s j = true) go k h, go k⟩
theorem inv0 (s : Fin 16 → Bool) : invF s 0 := fun k => by
  have e : ∀ k : Fin 16, k + 0 = k := by decide +kernel
  rw [e]
/-- what n times the quarters of a draw are -/
def subOf (n : Nat) (O : List Int) : List (Fin 16) := if O = [0] then K1 else if O = [0, 8] then (if n = 1 then K2 else K1) else if n = 1 then K4 else if n = 2 then K2 else K1
theorem subOf_sub (n : Nat) (O : List Int) : Sub (subOf n O) := by
  unfold subOf
  split
  · exact sub1
  · split
    · split
      · exact sub2
      · exact sub1
    · split
      · exact sub4
      · split
        · exact sub2
        · exact sub1
theorem offs_kind (x : Int) : offs x = [0] ∨ offs x = [0, 8] ∨ offs x = [0, 4, 8, 12] := by
  unfold offs
  split
  · exact .inl rfl
  · split
    · exact .inr (.inl rfl)
    · exact .inr (.inr rfl)
def yOf (n : Nat) (x : Int) : Fin 16 := Fin.ofNat 16 ((n : Int) * (x % 16)).toNat
theorem quarter_iff {n : Nat} (hn : n = 1 ∨ n = 2 ∨ n = 4 ∨ n = 8) (x : Int) (k : Fin 16) :
    (∃ o ∈ offs x, ((n : Int) * (x + o).fmod 16).toNat % 16 = k.val) ↔ ((subOf n (offs x)).any fun z => k == yOf n x + z) = true := by
  have hk := k.isLt
  have hx : ∀ o : Int, (x + o).fmod 16 = ((x % 16) + o) % 16 := fun o => by
    rw [Int.fmod_eq_emod_of_nonneg _ (by decide)]
    omega
  have h0 := Int.emod_nonneg x (show (16 : Int) ≠ 0 by decide)
  have h1 := Int.emod_lt_of_pos x (show (0 : Int) < 16 by decide)
  obtain ⟨u, hu⟩ := Int.eq_ofNat_of_zero_le h0
  have hu' : (x % 16) = (u : Int) := hu
  have hu16 : u < 16 := by omega
  have tab : ∀ n : Nat, (n = 1 ∨ n = 2 ∨ n = 4 ∨ n = 8) → ∀ O : List Int, (O = [0] ∨ O = [0, 8] ∨ O = [0, 4, 8, 12]) → ∀ u : Fin 16, ∀ k : Fin 16,
      ((O.any fun o => (((n : Int) * (((u.val : Int) + o) % 16)).toNat % 16 == k.val)) = ((subOf n O).any fun z => k == Fin.ofNat 16 ((n : Int) * (u.val : Int)).toNat + z)) := by
    rintro n (rfl | rfl | rfl | rfl) O (rfl | rfl | rfl) <;> decide +kernel
  have t := tab n hn (offs x) (offs_kind x) ⟨u, hu16⟩ k
  unfold yOf
  rw [hu', ← t, List.any_eq_true]
  constructor
  · rintro ⟨o, ho, e⟩
    rw [hx, hu'] at e
    exact ⟨o, ho, beq_iff_eq.mpr e⟩
  · rintro ⟨o, ho, e⟩
    refine ⟨o, ho, ?_⟩
    rw [hx, hu']
    exact eq_of_beq e
theorem addHue_mem {hs : List Int} {v h : Int} : h ∈ addHue hs v ↔ h ∈ hs ∨ h = v := by
  unfold addHue
  split
  · rename_i hx
    rw [List.any_eq_true] at hx
    obtain ⟨x, hx, e⟩ := hx
    have e' : x = v := eq_of_beq e
    subst e'
    constructor
    · exact .inl
    · rintro (h | rfl)
      · exact h
      · exact hx
  · simp
theorem foldHue_mem (n : Int) (h : Int) : ∀ (l hs : List Int), h ∈ l.foldl (fun hs k => addHue hs ((n + k).fmod 16)) hs ↔ h ∈ hs ∨ ∃ o ∈ l, h = (n + o).fmod 16
  | [], hs => by simp
  | k :: l, hs => by
    rw [List.foldl_cons, foldHue_mem n h l, addHue_mem]
    simp [or_assoc]
theorem huesF_two {x y h : Int} : h ∈ huesF [x, y] ↔ (∃ o ∈ offs x, h = (x + o).fmod 16) ∨ ∃ o ∈ offs y, h = (y + o).fmod 16 := by
  unfold huesF
  rw [List.foldl_cons, List.foldl_cons, List.foldl_nil, foldHue_mem, foldHue_mem]
  simp
theorem huesF_first {x : Int} {r : List Int} : x.fmod 16 ∈ huesF (x :: r) := by
  have keep : ∀ (r hs : List Int) (h : Int), h ∈ hs → h ∈ r.foldl (fun hs x => (offs x).foldl (fun hs k => addHue hs ((x + k).fmod 16)) hs) hs := by
    intro r
    induction r with
    | nil => intro hs h hh; exact hh
    | cons a r ih => intro hs h hh; rw [List.foldl_cons]; exact ih _ _ ((foldHue_mem a h _ _).mpr (.inl hh))
  unfold huesF
  rw [List.foldl_cons]
  refine keep r _ _ ((foldHue_mem x _ _ _).mpr (.inr ⟨0, ?_, by simp⟩))
  rcases offs_kind x with e | e | e <;> rw [e] <;> decide
theorem ind_two {n : Nat} (hn : n = 1 ∨ n = 2 ∨ n = 4 ∨ n = 8) (x y : Int) (k : Fin 16) : ind n (huesF [x, y]) k = ((subOf n (offs x)).any (fun z => k == yOf n x + z) || (subOf n (offs y)).any (fun z => k == yOf n y + z)) := by
  refine bool_iff ?_
  rw [ind_iff, Bool.or_eq_true, ← quarter_iff hn, ← quarter_iff hn]
  constructor
  · rintro ⟨h, hm, e⟩
    rcases huesF_two.mp hm with ⟨o, ho, rfl⟩ | ⟨o, ho, rfl⟩
    · exact .inl ⟨o, ho, e⟩
    · exact .inr ⟨o, ho, e⟩
  · rintro (⟨o, ho, e⟩ | ⟨o, ho, e⟩)
    · exact ⟨_, huesF_two.mpr (.inl ⟨o, ho, rfl⟩), e⟩
    · exact ⟨_, huesF_two.mpr (.inr ⟨o, ho, rfl⟩), e⟩
theorem hit_of (a : Fin 16 → Bool) (K : List (Fin 16)) (y k : Fin 16) : hitK a K (k - y) = true ↔ ∃ j, (K.any fun z => j == y + z) = true ∧ a (k - j) = true := by
  have e : ∀ k y z : Fin 16, k - (y + z) = k - y - z := by decide +kernel
  rw [hitK_iff]
  constructor
  · rintro ⟨z, hz, h⟩
    exact ⟨y + z, List.any_eq_true.mpr ⟨z, hz, by simp⟩, by rw [e]; exact h⟩
  · rintro ⟨j, hj, h⟩
    obtain ⟨z, hz, ez⟩ := List.any_eq_true.mp hj
    have ez' : j = y + z := eq_of_beq ez
    subst ez'
    exact ⟨z, hz, by rw [← e]; exact h⟩
theorem kneser_ok {A : List Int} {x y : Int} {n : Nat} (hn : n = 1 ∨ n = 2 ∨ n = 4 ∨ n = 8) (hA : ∀ x ∈ A, 0 ≤ x ∧ x < 16) (hper : ¬ ∀ k, manyF n (setF A (huesF [x, y])) (k + 8) = manyF n (setF A (huesF [x, y])) k) :
    cnt (ind n A) + cnt (ind n (huesF [x, y])) ≤ cnt (manyF n (setF A (huesF [x, y]))) + 1 := by
  refine kneser16 (x := yOf n y) (y := yOf n x) (subOf_sub n (offs y)) (subOf_sub n (offs x)) (fun k => ind_two hn x y k) (fun k => ?_) hper
  rw [← ind_many]
  refine bool_iff ?_
  rw [ind_sum hA (huesF_all _), Bool.or_eq_true, hit_of, hit_of]
  constructor
  · rintro ⟨j, h1, h2⟩
    rw [ind_two hn, Bool.or_eq_true] at h1
    rcases h1 with h1 | h1
    · exact .inl ⟨j, h1, h2⟩
    · exact .inr ⟨j, h1, h2⟩
  · rintro (⟨j, h1, h2⟩ | ⟨j, h1, h2⟩)
    · exact ⟨j, by rw [ind_two hn, h1]; rfl, h2⟩
    · exact ⟨j, by rw [ind_two hn, h1, Bool.or_true], h2⟩
theorem ind16 (l : List Int) (k : Fin 16) (h : ind 16 l k = true) : (k == 0) = true := by
  obtain ⟨x, _, e⟩ := ind_iff.mp h
  have : k.val = 0 := by omega
  exact beq_iff_eq.mpr (Fin.ext this)
theorem kneser_16 {A B : List Int} {a b : Int} (ha : a ∈ A) (hb : b ∈ B) : cnt (ind 16 A) + cnt (ind 16 B) ≤ cnt (ind 16 (sumsI A B)) + 1 := by
  have e : cnt (fun k : Fin 16 => k == 0) = 1 := by decide +kernel
  have h1 : cnt (ind 16 A) ≤ 1 := e ▸ cnt_le (ind16 A)
  have h2 : cnt (ind 16 B) ≤ 1 := e ▸ cnt_le (ind16 B)
  have h3 : 1 ≤ cnt (ind 16 (sumsI A B)) := by
    rw [← e]
    refine cnt_le fun k hk => ?_
    have e' : k = 0 := eq_of_beq hk
    subst e'
    refine ind_iff.mpr ⟨(((a + b).toNat % 16 : Nat) : Int), List.mem_map_of_mem (sumsF_mem.mpr ⟨a, ha, b, hb, rfl⟩), ?_⟩
    show _ = 0
    omega
  omega
/-- the whole law of the counts -/
theorem law_counts {A : List Int} {x y : Int} {n : Nat} {a : Int} (ha : a ∈ A) (hA : ∀ x ∈ A, 0 ≤ x ∧ x < 16)
    (h : (n = 16 ∧ invF (setF A (huesF [x, y])) 1) ∨ (n = 8 ∧ invF (setF A (huesF [x, y])) 2 ∧ ¬ invF (setF A (huesF [x, y])) 1) ∨ (n = 4 ∧ invF (setF A (huesF [x, y])) 4 ∧ ¬ invF (setF A (huesF [x, y])) 2) ∨ (n = 2 ∧ invF (setF A (huesF [x, y])) 8 ∧ ¬ invF (setF A (huesF [x, y])) 4) ∨ (n = 1 ∧ ¬ invF (setF A (huesF [x, y])) 8)) :
    (kindsF (n : Int) (sumsI A (huesF [x, y]))).length * n = (sumsF A (huesF [x, y])).length ∧ (kindsF (n : Int) A).length + (kindsF (n : Int) (huesF [x, y])).length ≤ (kindsF (n : Int) (sumsI A (huesF [x, y]))).length + 1 := by
  have e : cnt (ind n (sumsI A (huesF [x, y]))) = cnt (manyF n (setF A (huesF [x, y]))) := cnt_congr (ind_many n A _)
  rw [kinds_cnt, kinds_cnt, kinds_cnt, sums_cnt]
  constructor
  · rw [e]
    refine third_ok ?_
    rcases h with ⟨h1, h2⟩ | ⟨h1, h2, _⟩ | ⟨h1, h2, _⟩ | ⟨h1, h2, _⟩ | ⟨h1, _⟩
    · exact .inl ⟨h1, h2⟩
    · exact .inr (.inl ⟨h1, h2⟩)
    · exact .inr (.inr (.inl ⟨h1, h2⟩))
    · exact .inr (.inr (.inr (.inl ⟨h1, h2⟩)))
    · exact .inr (.inr (.inr (.inr h1)))
  · rcases h with ⟨rfl, h2⟩ | ⟨rfl, h2, h3⟩ | ⟨rfl, h2, h3⟩ | ⟨rfl, h2, h3⟩ | ⟨rfl, h3⟩
    · exact kneser_16 ha huesF_first
    · rw [e]; exact kneser_ok (.inr (.inr (.inr rfl))) hA (not_per far8 h2 h3)
    · rw [e]; exact kneser_ok (.inr (.inr (.inl rfl))) hA (not_per far4 h2 h3)
    · rw [e]; exact kneser_ok (.inr (.inl rfl)) hA (not_per far2 h2 h3)
    · rw [e]; exact kneser_ok (.inl rfl) hA (not_per far1 (inv0 _) h3)
end Mine
namespace Mine
theorem turnN_comp {m r t : Nat} (hm : m < 65536) (h : r + t < 16) : turnN (turnN m r) t = turnN m (r + t) := by
  refine eq_bits (turnN_lt _ _) (turnN_lt _ _) fun k hk => ?_
  rw [turnN_bit (turnN_lt _ _) (by omega) hk, turnN_bit hm (by omega) (Nat.mod_lt _ (by decide)), turnN_bit hm h hk]
  congr 1; omega
theorem turnN_zero {m : Nat} (hm : m < 65536) : turnN m 0 = m := by
  refine eq_bits (turnN_lt _ _) hm fun k hk => ?_
  rw [turnN_bit hm (by decide) hk]
  congr 1; omega
theorem turnN_arith {m y : Nat} (hm : m < 65536) (hy : y ≤ 16) : turnN m y = (m * 2 ^ y + m / 2 ^ (16 - y)) % 65536 := by
  unfold turnN
  have h : m >>> (16 - y) < 2 ^ y := by
    rw [Nat.shiftRight_eq_div_pow, Nat.div_lt_iff_lt_mul (Nat.two_pow_pos _), ← Nat.pow_add, show y + (16 - y) = 16 by omega]
    exact hm
  rw [← Nat.shiftLeft_add_eq_or_of_lt h, Nat.shiftLeft_eq, Nat.shiftRight_eq_div_pow]
theorem list4 {a b c d a' b' c' d' : Nat} : ([a, b, c, d] : List Nat) = [a', b', c', d'] ↔ a = a' ∧ b = b' ∧ c = c' ∧ d = d' := by simp
theorem nib {x : Nat} (h : x < 65536) : ∃ a b c d : Nat, a < 16 ∧ b < 16 ∧ c < 16 ∧ d < 16 ∧ x = 4096 * a + 256 * b + 16 * c + d :=
  ⟨x / 4096, x / 256 % 16, x / 16 % 16, x % 16, by omega, by omega, by omega, by omega, by omega⟩
theorem dig {a b c d a' b' c' d' : Nat} (hb : b < 16) (hc : c < 16) (hd : d < 16) (hb' : b' < 16) (hc' : c' < 16) (hd' : d' < 16) : 4096 * a + 256 * b + 16 * c + d = 4096 * a' + 256 * b' + 16 * c' + d' ↔ a = a' ∧ b = b' ∧ c = c' ∧ d = d' := by
  constructor
  · intro h
    have h1 : a = (4096 * a + 256 * b + 16 * c + d) / 4096 := by omega
    have h2 : a' = (4096 * a' + 256 * b' + 16 * c' + d') / 4096 := by omega
    have e1 : a = a' := by rw [h1, h2, h]
    subst e1
    have h3 : b = (256 * b + 16 * c + d) / 256 := by omega
    have h4 : b' = (256 * b' + 16 * c' + d') / 256 := by omega
    have e2 : b = b' := by rw [h3, h4]; congr 1; omega
    subst e2
    omega
  · rintro ⟨rfl, rfl, rfl, rfl⟩; rfl
/-- the cut word is the whole word turned by four a letter -/
theorem word_cut {m q c : Nat} (hm : m < 65536) (hq : q < 65536) (hc : c ≤ 3) :
    (Txt.startswith (wordS m) (cutA (wordS q) c) && Txt.endswith (wordS m) (cutB (wordS q) c)) = decide (turnN q (4 * c) = m) := by
  refine bool_iff ?_
  rw [Bool.and_eq_true, decide_eq_true_iff, turnN_arith hq (by omega)]
  unfold Txt.startswith Txt.endswith Builtin.Str.subAt cutA cutB wordS
  obtain ⟨m3, m2, m1, m0, a3, a2, a1, a0, em⟩ := nib hm
  obtain ⟨q3, q2, q1, q0, b3, b2, b1, b0, eq⟩ := nib hq
  rw [show m / 4096 % 16 = m3 by omega, show m / 256 % 16 = m2 by omega, show m / 16 % 16 = m1 by omega, show m % 16 = m0 by omega,
    show q / 4096 % 16 = q3 by omega, show q / 256 % 16 = q2 by omega, show q / 16 % 16 = q1 by omega, show q % 16 = q0 by omega]
  rcases (show c = 0 ∨ c = 1 ∨ c = 2 ∨ c = 3 by omega) with rfl | rfl | rfl | rfl
  · have h : (q * 2 ^ (4 * 0) + q / 2 ^ (16 - 4 * 0)) % 65536 = 4096 * q3 + 256 * q2 + 16 * q1 + q0 := by
      show (q * 1 + q / 65536) % 65536 = _
      have : q / 65536 = 0 := by omega
      omega
    rw [h, em, dig (by assumption) (by assumption) (by assumption) (by assumption) (by assumption) (by assumption)]
    simp [Str.length]
    omega
  · have h : (q * 2 ^ (4 * 1) + q / 2 ^ (16 - 4 * 1)) % 65536 = 4096 * q2 + 256 * q1 + 16 * q0 + q3 := by
      show (q * 16 + q / 4096) % 65536 = _
      have : q / 4096 = q3 := by omega
      rw [this, eq]; omega
    rw [h, em, dig (by assumption) (by assumption) (by assumption) (by assumption) (by assumption) (by assumption)]
    simp [Str.length]
    omega
  · have h : (q * 2 ^ (4 * 2) + q / 2 ^ (16 - 4 * 2)) % 65536 = 4096 * q1 + 256 * q0 + 16 * q3 + q2 := by
      show (q * 256 + q / 256) % 65536 = _
      have : q / 256 = 16 * q3 + q2 := by omega
      rw [this, eq]; omega
    rw [h, em, dig (by assumption) (by assumption) (by assumption) (by assumption) (by assumption) (by assumption)]
    simp [Str.length]
    omega
  · have h : (q * 2 ^ (4 * 3) + q / 2 ^ (16 - 4 * 3)) % 65536 = 4096 * q0 + 256 * q3 + 16 * q2 + q1 := by
      show (q * 4096 + q / 16) % 65536 = _
      have : q / 16 = 256 * q3 + 16 * q2 + q1 := by omega
      rw [this, eq]; omega
    rw [h, em, dig (by assumption) (by assumption) (by assumption) (by assumption) (by assumption) (by assumption)]
    simp [Str.length]
    omega
theorem turn_ok {g : Int → Str} {m : Nat} (hm : m < 65536) (hg : ∀ k, g k = wordS (turnF16 (m : Int) k).toNat) {b : Nat} (hb : b < 16) : turnOk g (b : Int) = decide (turnN m b = m) := by
  unfold turnOk
  have e1 : (b : Int).fmod 4 = ((b % 4 : Nat) : Int) := by rw [Int.fmod_eq_emod_of_nonneg _ (by decide)]; omega
  have e2 : ((b : Int).fdiv 4).toNat = b / 4 := by rw [Int.fdiv_eq_ediv_of_nonneg _ (by decide)]; omega
  have e3 : (turnF16 (m : Int) 0).toNat = m := by
    have := turnF16_nat m 0 (by decide)
    rw [show (0 : Int) = ((0 : Nat) : Int) from rfl, this, Int.toNat_natCast, turnN_zero hm]
  rw [e1, e2, hg, hg, e3, turnF16_nat m (b % 4) (by omega), Int.toNat_natCast, word_cut hm (turnN_lt _ _) (by omega), turnN_comp hm (by omega), show b % 4 + 4 * (b / 4) = b by omega]
theorem ks16 : rangeKs 0 (16 - 0 : Int).toNat = (List.range 16).map (fun k => ((k : Nat) : Int)) := by decide
theorem fold_filter (p : Int → Prop) [DecidablePred p] : ∀ (l r : List Int), l.foldl (fun l k => if p k then l ++ [k] else l) r = r ++ l.filter (fun k => decide (p k))
  | [], r => by simp
  | a :: l, r => by
    rw [List.foldl_cons, fold_filter p l, List.filter_cons]
    by_cases h : p a
    · simp [h]
    · simp [h]
theorem turn_int {m b : Nat} (hb : b < 16) : (turnF16 (m : Int) (b : Int) = (m : Int)) ↔ turnN m b = m := by
  rw [turnF16_nat m b (by omega)]; omega
theorem law_turns {g : Int → Str} {mk : Int} (h0 : 0 ≤ mk) (h1 : mk < 65536) (hg : ∀ k, g k = wordS (turnF16 mk k).toNat) :
    (rangeKs 0 (16 - 0 : Int).toNat).foldl (fun l k => if turnF16 mk k = mk then l ++ [k] else l) [] = (rangeKs 0 (16 - 0 : Int).toNat).filter (turnOk g) := by
  obtain ⟨m, rfl⟩ := Int.eq_ofNat_of_zero_le h0
  have hm : m < 65536 := by omega
  rw [fold_filter (fun k => turnF16 (m : Int) k = (m : Int)), List.nil_append]
  refine List.filter_congr fun k hk => ?_
  rw [ks16] at hk
  obtain ⟨b, hb, rfl⟩ := List.mem_map.mp hk
  have hb := List.mem_range.mp hb
  rw [turn_ok hm hg hb]
  exact decide_eq_decide.mpr (turn_int hb)
theorem turn_inv {A B : List Int} (hAn : A.Nodup) (hA : ∀ x ∈ A, 0 ≤ x ∧ x < 16) (hB : ∀ x ∈ B, 0 ≤ x ∧ x < 16) (b : Fin 16) :
    turnN (maskN (plainN (A.map Int.toNat)) (B.map Int.toNat)) b.val = maskN (plainN (A.map Int.toNat)) (B.map Int.toNat) ↔ invF (setF A B) b := by
  have bit : ∀ k : Fin 16, (maskN (plainN (A.map Int.toNat)) (B.map Int.toNat)).testBit k.val = setF A B k := fun k => by
    refine bool_iff ?_
    rw [← mark_bit hAn hA hB k.isLt]
    unfold setF
    rw [decide_eq_true_iff]
  have hm := maskN_lt (plainN (A.map Int.toNat)) (B.map Int.toNat)
  generalize maskN (plainN (A.map Int.toNat)) (B.map Int.toNat) = m at bit hm
  constructor
  · intro h k
    have h1 := turnN_bit (k := (k + b).val) hm b.isLt (k + b).isLt
    rw [h, bit] at h1
    rw [h1, ← bit k]
    congr 1
    rw [Fin.val_add]
    have := k.isLt
    have := b.isLt
    omega
  · intro h
    refine eq_bits (turnN_lt _ _) hm fun k hk => ?_
    rw [turnN_bit hm b.isLt hk]
    have e : ((k + 16 - b.val) % 16) = ((⟨k, hk⟩ : Fin 16) - b).val := by
      rw [Fin.sub_def]
      show _ = (16 - b.val + k) % 16
      have := b.isLt
      congr 1; omega
    rw [e, bit, show m.testBit k = setF A B ⟨k, hk⟩ from bit ⟨k, hk⟩]
    have h1 := h (⟨k, hk⟩ - b)
    rw [a1] at h1
    exact h1.symm
/-- how many turns, and which -/
theorem law_number {A B : List Int} {g : Int → Str} {n : Nat} (hAn : A.Nodup) (hA : ∀ x ∈ A, 0 ≤ x ∧ x < 16) (hB : ∀ x ∈ B, 0 ≤ x ∧ x < 16) (hg : ∀ k, g k = wordS (turnF16 (markF (plainF A) B) k).toNat)
    (hn : n = ((rangeKs 0 (16 - 0 : Int).toNat).filter (turnOk g)).length) :
    (n = 16 ∧ invF (setF A B) 1) ∨ (n = 8 ∧ invF (setF A B) 2 ∧ ¬ invF (setF A B) 1) ∨ (n = 4 ∧ invF (setF A B) 4 ∧ ¬ invF (setF A B) 2) ∨ (n = 2 ∧ invF (setF A B) 8 ∧ ¬ invF (setF A B) 4) ∨ (n = 1 ∧ ¬ invF (setF A B) 8) := by
  rw [mark_nat hA hB] at hg
  have hm := maskN_lt (plainN (A.map Int.toNat)) (B.map Int.toNat)
  have hinv := turn_inv hAn hA hB
  generalize maskN (plainN (A.map Int.toNat)) (B.map Int.toNat) = m at hg hm hinv
  have e : n = cnt (fun b => decide (turnN m b.val = m)) := by
    rw [hn, ks16, List.filter_map, List.length_map]
    refine (congrArg List.length (List.filter_congr (q := fun b => decide (turnN m b = m)) fun b hb => ?_)).trans (cnt_range _ _ fun k hk => by rw [fin_val hk])
    exact turn_ok hm hg (List.mem_range.mp hb)
  have key := sub_count (I := fun b => decide (turnN m b.val = m)) (by rw [decide_eq_true_iff, hinv]; exact inv0 _) (fun b c h => by
    rw [decide_eq_true_iff, hinv] at h ⊢
    exact invF_mul h c)
  rw [← e] at key
  simp only [decide_eq_true_iff, decide_eq_false_iff_not, hinv] at key
  exact key
theorem law_last {A : List Int} {x y : Int} {g : Int → Str} {n : Nat} {a : Int} (ha : a ∈ A) (hAn : A.Nodup) (hA : ∀ x ∈ A, 0 ≤ x ∧ x < 16) (hg : ∀ k, g k = wordS (turnF16 (markF (plainF A) (huesF [x, y])) k).toNat)
    (hn : n = ((rangeKs 0 (16 - 0 : Int).toNat).filter (turnOk g)).length) :
    (kindsF (n : Int) (sumsI A (huesF [x, y]))).length * n = (sumsF A (huesF [x, y])).length ∧ (kindsF (n : Int) A).length + (kindsF (n : Int) (huesF [x, y])).length ≤ (kindsF (n : Int) (sumsI A (huesF [x, y]))).length + 1 :=
  law_counts ha hA (law_number hAn hA (huesF_all _) hg hn)
end Mine
namespace Mine
theorem words8 : True := by
  k_with_none
  k_with "st" => (repeat' ((fail_if_success (with_reducible show wpAny _ _ (pyIter _) _ _ _)); (fail_if_success (with_reducible show wpAny _ _ (compareOp CmpOp.NotEq (Value.ref _) (Value.ref _)) _ _ _)); (fail_if_success (with_reducible show InvEndN _ _ _ _ _ _ _)); (fail_if_success (with_reducible show KswEnd _ _ _ _ _ _ _ _ _ _ _ _)); (fail_if_success (with_reducible show wpAny _ _ (call (Value.builtin "list.append") _) _ _ _)); (fail_if_success (with_reducible show wpAny _ _ (call (Value.ref _) _) _ _ _)); (fail_if_success (with_reducible show wpAny _ _ (exec (Stmt.For _ _ _ _ _) _) _ _ _)); (fail_if_success (with_reducible show wpAny _ _ (exec (Stmt.While _ _ _ _) _) _ _ _)); first | (k_unfold; (try dsimp only)) | (k_end; wrow_close) | walk1 | (dsimp only; walk1) | (leave1; walk_say "STEP leave1"; try dsimp only) | fail "no step"))
  k_with "sx" => (repeat' ((fail_if_success (with_reducible show wpAny _ _ (pyIter _) _ _ _)); (fail_if_success (with_reducible show wpAny _ _ (compareOp CmpOp.NotEq (Value.ref _) (Value.ref _)) _ _ _)); (fail_if_success (with_reducible show wpAny _ _ (execs (_ :: _) _) _ _ _)); (fail_if_success (with_reducible show wpAny _ _ (call (Value.builtin "list.append") _) _ _ _)); (fail_if_success (with_reducible show wpAny _ _ (call (Value.ref _) _) _ _ _)); (fail_if_success (with_reducible show wpAny _ _ (exec (Stmt.For _ _ _ _ _) _) _ _ _)); (fail_if_success (with_reducible show wpAny _ _ (exec (Stmt.While _ _ _ _) _) _ _ _)); first | (k_unfold; (try dsimp only)) | (k_end; wrow_close) | walk1 | (dsimp only; walk1) | (leave1; walk_say "STEP leave1"; try dsimp only) | fail "no step"))
  k_with "sl" => (repeat' ((fail_if_success (with_reducible show wpAny _ _ (subscriptTail _ _ _ _) _ _ _)); (fail_if_success (with_reducible show wpAny _ _ (call (Value.builtin "len") _) _ _ _)); (fail_if_success (with_reducible show wpAny _ _ (pyIter _) _ _ _)); (fail_if_success (with_reducible show wpAny _ _ (compareOp CmpOp.NotEq (Value.ref _) (Value.ref _)) _ _ _)); (fail_if_success (with_reducible show wpAny _ _ (execs (_ :: _) _) _ _ _)); (fail_if_success (with_reducible show wpAny _ _ (call (Value.builtin "list.append") _) _ _ _)); (fail_if_success (with_reducible show wpAny _ _ (call (Value.ref _) _) _ _ _)); (fail_if_success (with_reducible show wpAny _ _ (exec (Stmt.For _ _ _ _ _) _) _ _ _)); (fail_if_success (with_reducible show wpAny _ _ (exec (Stmt.While _ _ _ _) _) _ _ _)); first | (k_unfold; (try dsimp only)) | (k_end; wrow_close) | walk1 | (dsimp only; walk1) | (leave1; walk_say "STEP leave1"; try dsimp only) | fail "no step"))
  k_with "sn" => (repeat' ((fail_if_success (with_reducible show wpAny _ _ (pyIter _) _ _ _)); (fail_if_success (with_reducible show wpAny _ _ (compareOp CmpOp.NotEq (Value.ref _) (Value.ref _)) _ _ _)); (fail_if_success (with_reducible show wpAny _ _ (execs _ _) _ _ _)); (fail_if_success (with_reducible show wpAny _ _ (call (Value.builtin "list.append") _) _ _ _)); (fail_if_success (with_reducible show wpAny _ _ (call (Value.ref _) _) _ _ _)); (fail_if_success (with_reducible show wpAny _ _ (exec (Stmt.For _ _ _ _ _) _) _ _ _)); (fail_if_success (with_reducible show wpAny _ _ (exec (Stmt.While _ _ _ _) _) _ _ _)); first | (k_unfold; (try dsimp only)) | (k_end; wrow_close) | walk1 | (dsimp only; walk1) | (leave1; walk_say "STEP leave1"; try dsimp only) | fail "no step"))
  k_with "one" => (((fail_if_success (with_reducible show wpAny _ _ (pyIter _) _ _ _)); (fail_if_success (with_reducible show wpAny _ _ (compareOp CmpOp.NotEq (Value.ref _) (Value.ref _)) _ _ _)); (fail_if_success (with_reducible show wpAny _ _ (call (Value.builtin "list.append") _) _ _ _)); (fail_if_success (with_reducible show wpAny _ _ (call (Value.ref _) _) _ _ _)); (fail_if_success (with_reducible show wpAny _ _ (exec (Stmt.For _ _ _ _ _) _) _ _ _)); (fail_if_success (with_reducible show wpAny _ _ (exec (Stmt.While _ _ _ _) _) _ _ _)); first | (k_unfold; (try dsimp only)) | (k_end; wrow_close) | walk1 | (dsimp only; walk1) | (leave1; walk_say "STEP leave1"; try dsimp only) | fail "no step"))
  k_with "se" => (repeat' ((fail_if_success (with_reducible show LCg.CompEnd _ _ _ _ _ _ _ _ _ _ _ _ _ _)); (fail_if_success (with_reducible show wpAny _ _ (subscriptTail _ _ _ _) _ _ _)); (fail_if_success (with_reducible show wpAny _ _ (call (Value.builtin "len") _) _ _ _)); (fail_if_success (with_reducible show LCg.CompSrc _ _ _ _ _ _ _ _ _ _ _ _ _ _)); (fail_if_success (with_reducible show LCt.CompSrcT _ _ _ _ _ _ _ _ _ _ _ _ _ _ _)); (fail_if_success (with_reducible show wpAny _ _ (pyIter _) _ _ _)); (fail_if_success (with_reducible show wpAny _ _ (compareOp CmpOp.NotEq (Value.ref _) (Value.ref _)) _ _ _)); (fail_if_success (with_reducible show wpAny _ _ (call (Value.builtin "list.append") _) _ _ _)); (fail_if_success (with_reducible show wpAny _ _ (call (Value.ref _) _) _ _ _)); (fail_if_success (with_reducible show wpAny _ _ (exec (Stmt.For _ _ _ _ _) _) _ _ _)); (fail_if_success (with_reducible show wpAny _ _ (exec (Stmt.While _ _ _ _) _) _ _ _)); first | (k_unfold; (try dsimp only)) | (k_end; wrow_close) | walk1 | (dsimp only; walk1) | (leave1; walk_say "STEP leave1"; try dsimp only) | fail "no step"))
  k_with "lc" => (repeat' ((fail_if_success (with_reducible show wpAny _ _ (eval (Expr.ListComp _ _ _ _) _) _ _ _)); (fail_if_success (with_reducible show wpAny _ _ (subscriptTail _ _ _ _) _ _ _)); (fail_if_success (with_reducible show wpAny _ _ (call (Value.builtin "len") _) _ _ _)); (fail_if_success (with_reducible show LCg.CompSrc _ _ _ _ _ _ _ _ _ _ _ _ _ _)); (fail_if_success (with_reducible show LCt.CompSrcT _ _ _ _ _ _ _ _ _ _ _ _ _ _ _)); (fail_if_success (with_reducible show wpAny _ _ (pyIter _) _ _ _)); (fail_if_success (with_reducible show wpAny _ _ (compareOp CmpOp.NotEq (Value.ref _) (Value.ref _)) _ _ _)); (fail_if_success (with_reducible show wpAny _ _ (call (Value.builtin "list.append") _) _ _ _)); (fail_if_success (with_reducible show wpAny _ _ (call (Value.ref _) _) _ _ _)); (fail_if_success (with_reducible show wpAny _ _ (exec (Stmt.For _ _ _ _ _) _) _ _ _)); (fail_if_success (with_reducible show wpAny _ _ (exec (Stmt.While _ _ _ _) _) _ _ _)); first | (k_unfold; (try dsimp only)) | (k_end; wrow_close) | walk1 | (dsimp only; walk1) | (leave1; walk_say "STEP leave1"; try dsimp only) | fail "no step"))
  k_with "sc" => (repeat' ((fail_if_success (with_reducible show wpAny _ _ (subscriptTail _ _ _ _) _ _ _)); (fail_if_success (with_reducible show wpAny _ _ (call (Value.builtin "len") _) _ _ _)); (fail_if_success (with_reducible show LCg.CompSrc _ _ _ _ _ _ _ _ _ _ _ _ _ _)); (fail_if_success (with_reducible show LCt.CompSrcT _ _ _ _ _ _ _ _ _ _ _ _ _ _ _)); (fail_if_success (with_reducible show wpAny _ _ (pyIter _) _ _ _)); (fail_if_success (with_reducible show wpAny _ _ (compareOp CmpOp.NotEq (Value.ref _) (Value.ref _)) _ _ _)); (fail_if_success (with_reducible show wpAny _ _ (call (Value.builtin "list.append") _) _ _ _)); (fail_if_success (with_reducible show wpAny _ _ (call (Value.ref _) _) _ _ _)); (fail_if_success (with_reducible show wpAny _ _ (exec (Stmt.For _ _ _ _ _) _) _ _ _)); (fail_if_success (with_reducible show wpAny _ _ (exec (Stmt.While _ _ _ _) _) _ _ _)); first | (k_unfold; (try dsimp only)) | (k_end; wrow_close) | walk1 | (dsimp only; walk1) | (leave1; walk_say "STEP leave1"; try dsimp only) | fail "no step"))
  k_with "for" => ((rename Fr _ _ _ _ => lF'); (with_reducible refine' For_invVF lF' ?k1 ?k2 ?_ ?k3 ?k4); (case k1 => exact rfl); (case k2 => exact rfl); (case k3 => intro _; rfl); (case k4 => passes_own))
  k_with "same" => (intro z h2 h3; (simp only [List.contains_cons, List.contains_nil, Bool.or_false, Bool.or_eq_false_iff, beq_eq_false_iff_ne, ne_eq] at h3); simp [h2, h3])
  k_with "tle" => (repeat' (first | assumption | exact Nat.le_refl _ | refine Nat.le_succ_of_le ?_))
  k_with "here" => (first | k_asm | exact rfl | ktr_room | ktr_units)
  k_with "tne" => (first | assumption | exact Nat.succ_ne_zero _ | exact Nat.ne_of_gt (by assumption))
  k_with "t1" => (first | assumption | exact Nat.succ_le_succ (Nat.zero_le _) | exact Nat.le_trans (Nat.succ_le_succ (Nat.zero_le _)) (by assumption))
  trivial
theorem hue_inf : ∀ i : Fin 16, Float64.isInf (Float64.ofInt ((i.val : Nat) : Int)) = false := by decide +kernel
theorem hue_trunc : ∀ i : Fin 16, toInt Float64.truncOf (Float64.ofInt ((i.val : Nat) : Int)) = ((i.val : Nat) : Int) := by decide +kernel
def IsTurn (v x y : Int) : Prop := turnF16 x y = v
section
variable {w : World} {mean : ExcName → Option Value} {mg mb : Str → Option Value} {dp un : Nat} {gd : Option (List Code)} {cn : Str} {cs : Scope} {a : Addr} {ccd : Value} {cl : List (Str × Addr)} {outer : List Env} {A₀ : Around} {base h₀ : Heap} {L : Addr} {m : Str → Option Value} {news : List (Addr × Obj)} {s : Shared} {Q E : Value → Shared → Prop}
theorem turned_is {x y : Int} {tx ty : Tok} (H : Here 5 w mean mg mb dp un cs outer A₀ base h₀ L m news s.heap) (hx : 0 ≤ x) (hx2 : x < 65536) (hy : 0 ≤ y) (hy2 : y ≤ 16)
  (hret : ∀ v t h' tk', IsTurn v x y → Fr h₀ L h' m → News h₀ L h' news → Q (.int v t) { s with heap := h', toks := tk' }) :
  wpAny (model PySem.Challenge.rw_sn0021_01.row.prog w) (ktrTop dp un gd cn cs L a ccd cl outer) (call (.ref 63) [.int x tx, .int y ty]) Q E s :=
  turned_ok H hx hx2 hy hy2 fun t h' tk' F N => hret _ t h' tk' rfl F N
end
theorem good_end {cl : Str → Option Addr} {mean : ExcName → Option Value} {ns : List Int} {s₁ : Shared} {h : Heap} {L : Addr} {m : Str → Option Value} {tk : Nat} (F : Fr s₁.heap L h m) (hg : s₁.gens = #[]) :
    GoodW PySem.Challenge.rw_sn0021_01.row.claim cl mean [ofPy (PyData.list (List.map PyData.int ns))] s₁ (Except.ok (Flow.ret (Value.bool true))) { heap := h, gens := s₁.gens, drawn := s₁.drawn, toks := tk, os := s₁.os } := by
  refine goodW_bool (by assumption) (by assumption) (raisesW_false ?_) ?_
  · wrow_none_raised
  · wrow_post
local macro_rules | `(tactic| walk_at "binaryOp Pow int int") => `(tactic| (rename _ ∈ _ => hk; with_reducible refine pow_mem hk (by assumption) ?_))

theorem lawHolds : PySem.Challenge.rw_sn0021_01.Holds := hd1 (by
  k_go0
  all_goals try k_fold
  rename IntsAre _ _ => hI
  rename Obj => wc
  rename Top _ _ _ _ _ _ => TT
  rename Frag.In _ _ => KX
  rename List Int => ns
  rename List Value => vs
  obtain ⟨us, hus⟩ : ∃ us, us = vs.take 5 := ⟨_, rfl⟩
  have hpick : kms_pick vs.toArray.toList none (some 5) = us := by rw [hus]; exact pick_take vs
  have hI5 : IntsAre us (ns.take 5) := hus ▸ IntsAre_take 5 hI
  have hl5 : us.length ≤ 5 := by rw [hus, List.length_take]; omega
  clear hus
  walk1
  k_extra "sl"
  refine' kms_slice_lit (by k_asm) (by k_asm) (by kmk_list) (by kmk_part) (by kmk_part) hpick ?_ (by with_unfolding_all rfl) (by kmk_pure) (by kmk_size)
  intro D1 h1 F1 N1 l1
  k_lt l1
  (try k_sweep)
  dsimp only
  k_extra "sl"
  refine' kms_slice_lit (by k_asm) (by k_asm) (by kmk_list) (by kmk_part) (by kmk_part) hpick ?_ (by with_unfolding_all rfl) (by kmk_pure) (by kmk_size)
  intro D2 h2 F2 N2 l2
  k_lt l2
  (try k_sweep)
  dsimp only
  k_extra "sl"
  refine len_list (News.isList N2 (.head _)) (by rw [List.size_toArray]; omega) ?_
  rw [List.size_toArray]
  dsimp only
  k_extra "sl"
  refine kba_turn (value' := PySem.Expr.Name (Str.ofString "x") ⟨0, 0, 0, 0⟩) (fun _ => rfl) ?_
  refine' kms_slice_lit (by k_asm) (by k_asm) (by kmk_list) (by kmk_part) (by kmk_part) (pick_drop _ us.length (by show us.length ≤ 5; exact hl5)) ?_ (by with_unfolding_all rfl) (by kmk_pure) (by kmk_size)
  intro D3 h3 F3 N3 l3
  k_lt l3
  (try k_sweep)
  dsimp only
  k_extra "sl"
  rename Fr _ _ _ _ => fA
  rename News _ _ _ _ => nA
  refine add_lists_ints fA nA (News.isList nA (.tail _ (.tail _ (.tail _ (.head _))))) (News.isList nA (.head _)) hI5 (IntsAre_drop (ns := [16, 17, 18, 16, 17]) us.length (by exact (.cons 16 _ (.cons 17 _ (.cons 18 _ (.cons 16 _ (.cons 17 _ .nil))))))) ?_ ?_
  rotate_left
  · rw [List.length_drop, List.length_take, sizeLine_eq]
    show min 5 _ + (5 - us.length) ≤ _
    omega
  intro h4 F4 N4 hI9
  obtain ⟨x1, x2, x3, x4, x5, y1, y2, y3, y4, y5, ex, ey⟩ := draws_five hI5 hI9
  rw [ey] at N4

  clear hI9 ey fA nA
  have qa0 := Int.fmod_nonneg_of_pos x1 (show (0 : Int) < 4 by decide)
  have qa1 := Int.fmod_lt_of_pos x1 (show (0 : Int) < 4 by decide)
  have qb0 := Int.fmod_nonneg_of_pos x2 (show (0 : Int) < 4 by decide)
  have qb1 := Int.fmod_lt_of_pos x2 (show (0 : Int) < 4 by decide)
  dsimp only
  k_extra "st"
  refine' hues_ok (vs := [.int x1 y1, .int x2 y2, .int x3 y3]) (ns := [x1, x2, x3]) (nn := 0) ⟨by k_asm, by k_asm, by k_asm, by k_asm, by k_asm, by first | exact rfl | assumption, by ktr_room, by ktr_units⟩ (.head _) (.cons _ _ (.cons _ _ (.cons _ _ .nil))) (Nat.le_of_ble_eq_true rfl) ?_
  intro D5 us1 cc1 h5 tk5 hI1 F5 N5 l5
  k_lt l5
  (try k_sweep)
  dsimp only
  k_extra "st"
  refine' hues_ok (vs := [.int x4 y4, .int x5 y5]) (ns := [x4, x5]) (nn := 0) ⟨by k_asm, by k_asm, by k_asm, by k_asm, by k_asm, by first | exact rfl | assumption, by ktr_room, by ktr_units⟩ (.head _) (.cons _ _ (.cons _ _ .nil)) (Nat.le_of_ble_eq_true rfl) ?_
  intro D6 us2 cc2 h6 tk6 hI2 F6 N6 l6
  k_lt l6
  (try k_sweep)
  dsimp only
  k_extra "st"
  obtain ⟨i, hi4, ei⟩ : ∃ i : Nat, i < 4 ∧ x1.fmod 4 = (i : Int) := ⟨(x1.fmod 4).toNat, by omega, by omega⟩
  obtain ⟨j, hj4, ej⟩ : ∃ j : Nat, j < 4 ∧ x2.fmod 4 = (j : Int) := ⟨(x2.fmod 4).toNat, by omega, by omega⟩
  rename Fr _ _ _ _ => fA
  rename News _ _ _ _ => nA
  rename Shared => s₁
  rw [shF_of ei, shF_of ej] at fA nA
  have nB := pick4 nA 0 3 5 12 rfl rfl rfl rfl
  clear nA
  rename_i S hS1 lS hS2
  have hS6 : D6 < S := lS.2.2.1
  have hS5 : D5 < S := lS.2.2.2.2.1
  have hSc : s₁.heap.objs.size + 1 < S := lS.2.2.2.2.2.2.2.2.2.2.2
  obtain ⟨A, hA⟩ : ∃ A, A = huesF [x1, x2, x3] := ⟨_, rfl⟩
  obtain ⟨B, hB⟩ : ∃ B, B = huesF [x4, x5] := ⟨_, rfl⟩
  rw [← hA] at hI1
  rw [← hB] at hI2
  have hA1 : ∀ x ∈ A, 0 ≤ x ∧ x < 16 := hA ▸ huesF_all _
  have hB1 : ∀ x ∈ B, 0 ≤ x ∧ x < 16 := hB ▸ huesF_all _
  have hA2 : A.length ≤ 12 := hA ▸ huesF_len _
  have hB2 : B.length ≤ 8 := hB ▸ huesF_len _
  have hc6 : s₁.heap.objs.size + 1 < D6 := l6.2.2.2.2.2.2.2.2
  have hc5 : s₁.heap.objs.size + 1 < D5 := l5.2.2.2.2.2.2
  clear lS l6 l5 l3 l2 l1
  change Fr s₁.heap s₁.heap.objs.size _ _ at fA
  change News s₁.heap s₁.heap.objs.size _ _ at nB
  refine forT ?_ (by intro _; rfl)
  k_extra "st"
  rename Fr _ _ _ _ => fE
  rename News _ _ _ _ => nE
  refine iterS (items := us1) (nn := cc1) (σ := List Value × List Nat × Nat) (fun c => (S, listOf c.1.toArray c.2.2) :: (D6, listOf us2.toArray cc2) :: (D5, listOf us1.toArray cc1) :: [_]) [Str.ofString "two", Str.ofString "r", Str.ofString "g", Str.ofString "b", Str.ofString "hue", Str.ofString "pale", Str.ofString "bright"] (fun i t c => Hues t c.1 c.2.1 ∧ c.2.1 = sumsF (A.take i) B) ([], [], 0) rfl rfl rfl (by passes_own) (fun _ => .tail _ (.tail _ (.head _))) (fun _ => rfl) (fun i t t' c ht h => ⟨h.1.mono ht, h.2⟩) fE nE ⟨.nil, rfl⟩ ?_ ?_
  · rintro i0 v t h I o ⟨us, ks, cc⟩ u hv ⟨hH, hP⟩ hlt kFr kNews
    clear fE nE
    dsimp only at kNews hH hP hlt
    change Fr s₁.heap s₁.heap.objs.size _ _ at kFr
    change News s₁.heap s₁.heap.objs.size _ _ at kNews
    have hin : i0 < A.length := by
      have := hI1.length
      obtain ⟨h9, _⟩ := List.getElem?_eq_some_iff.mp hv
      omega
    obtain ⟨tv, e⟩ := hI1.get i0 A[i0] (by simp [hin])
    obtain rfl : v = .int A[i0] tv := Option.some.inj (hv.symm.trans e)
    have ha := hA1 _ (List.getElem_mem hin)
    have hsnoc : sumsF (A.take (i0 + 1)) B = sumsOf A[i0] B ks := by
      rw [hP]
      unfold sumsF
      rw [List.take_add_one, List.getElem?_eq_getElem hin, List.foldl_append]
      rfl
    generalize A[i0] = a at hsnoc ha kFr
    clear hv e
    (try k_fold)
    --BEGIN1
    k_extra "st"
    refine forT ?_ (by intro _; rfl)
    k_extra "st"
    rename Fr _ _ _ _ => fE
    rename News _ _ _ _ => nE
    refine iterS (items := us2) (nn := cc2) (σ := List Value × List Nat × Nat) (fun c => (S, listOf c.1.toArray c.2.2) :: (D6, listOf us2.toArray cc2) :: (D5, listOf us1.toArray cc1) :: [_, (I, o)]) [Str.ofString "r", Str.ofString "g", Str.ofString "b", Str.ofString "hue", Str.ofString "pale", Str.ofString "bright"] (fun i t c => Hues t c.1 c.2.1 ∧ c.2.1 = sumsOf a (B.take i) ks) (us, ks, cc) rfl rfl rfl (by passes_own) (fun _ => .tail _ (.head _)) (fun _ => rfl) (fun i t t' c ht h => ⟨h.1.mono ht, h.2⟩) fE nE ⟨hH, rfl⟩ ?_ ?_
    · rintro j0 v t2 h2 I2 o2 ⟨us3, ks3, cc3⟩ u2 hv ⟨hH3, hP3⟩ hlt2 kFr kNews
      clear fE nE hH
      have kMark := kstMark
      dsimp only at kNews hH3 hP3 hlt2
      change Fr s₁.heap s₁.heap.objs.size _ _ at kFr
      change News s₁.heap s₁.heap.objs.size _ _ at kNews
      have hjn : j0 < B.length := by
        have := hI2.length
        obtain ⟨h9, _⟩ := List.getElem?_eq_some_iff.mp hv
        omega
      obtain ⟨tw, e⟩ := hI2.get j0 B[j0] (by simp [hjn])
      obtain rfl : v = .int B[j0] tw := Option.some.inj (hv.symm.trans e)
      have hb := hB1 _ (List.getElem_mem hjn)
      have hsnoc2 : sumsOf a (B.take (j0 + 1)) ks = addN ks3 ((a + B[j0]).toNat % 16) := by
        rw [hP3]
        unfold sumsOf
        rw [List.take_add_one, List.getElem?_eq_getElem hjn, List.foldl_append]
        rfl
      generalize B[j0] = b at hsnoc2 hb kFr
      clear hv e
      obtain ⟨k, hkq, hk9⟩ : ∃ k : Nat, a + b = (k : Int) ∧ k ≤ 240 := ⟨(a + b).toNat, by omega, by omega⟩
      rw [hkq, Int.toNat_natCast] at hsnoc2
      (try k_fold)
      k_extra "st"
      rw [qF_of hkq]
      refine wpAny_mark (n := t2 + 1) (by k_extra "tle") ?_
      refine' hsv_tk ⟨by k_asm, by k_asm, by k_asm, by k_asm, by k_asm, by first | exact rfl | assumption, by ktr_room, by ktr_units⟩ (by k_extra "tne") (by k_extra "tne") (by k_extra "tne") (by k_extra "t1") (hsvOk_fit (turn_at hk9).1) ?_
      obtain ⟨ok2, es1, es2, es3⟩ := sum_at hi4 hj4 hk9
      generalize hsvF (qF k) (shF i) (shF j) = tri at ok2 es1 es2 es3 ⊢
      obtain ⟨r, g, bl⟩ := tri
      intro D9 t3 t4 t5 h9 tk9 F9 N9 l9 hn3 hn4 hn5 htk
      replace htk : t2 + 1 ≤ tk9 := htk
      dsimp only at N9 es1 es2 es3 ok2
      (try simp only [List.cons_append, List.nil_append] at N9 l9)
      k_lt l9
      (try k_fold)
      k_extra "sx"
      refine wp_tok (n := t2 + 1) (by k_extra "tle") ?_
      intro T2 hT2
      have hT2' : t2 ≤ T2 := Nat.le_of_succ_le hT2
      k_extra "st"
      refine wpAny_mark (n := t2) (by k_extra "tle") ?_
      refine' hsv2_tk ⟨by k_asm, by k_asm, by k_asm, by k_asm, by k_asm, by first | exact rfl | assumption, by ktr_room, by ktr_units⟩ (by k_extra "tne") (by k_extra "tne") (by k_extra "tne") (by k_extra "t1") ok2 ?_
      intro D8 t6 t7 t8 h8 tk8 F8 N8 l8 hn6 hn7 hn8 htk8
      replace htk8 : t2 ≤ tk8 := htk8
      rw [es1, es2] at N8
      (try k_fold)
      k_extra "sx"
      refine wp_tok (n := tk8) (by k_extra "tle") ?_
      intro T3 hT3
      have htT : t2 ≤ T3 := Nat.le_trans htk8 hT3
      refine wpAny_mark (n := T3) (Nat.le_refl _) ?_
      k_extra "st"
      rename Fr _ _ _ _ => fC
      rename News _ _ _ _ => nC
      refine ne_pair nC (.tail _ (.head _)) (.head _) (noneBooked (Frag.In.keeps KX fC.keep) (TT.nolimit.keeps fC.keep)) (shF_nan hi4) (shF_nan hj4) (by k_extra "tne") (by k_extra "tne") (by k_extra "tne") (by k_extra "tne") (by first | ktr_units | exact Nat.le_of_ble_eq_true rfl) ?_
      k_extra "sn"
      refine wp_tok (n := T3) (by k_extra "tle") ?_
      intro T4 hT4
      have h24 : t2 ≤ T4 := Nat.le_trans htT hT4
      k_extra "st"
      rw [es3]
      refine notin_hues nC (.tail _ (.tail _ (.tail _ (.tail _ (.head _))))) hH3 (noneBooked (Frag.In.keeps KX fC.keep) (TT.nolimit.keeps fC.keep)) (Nat.succ_ne_zero _) (by k_extra "tle") (Nat.mod_lt _ (by decide)) ?_
      k_extra "st"
      · rename News _ _ _ _ => nF
        intro hTk
        dsimp only [PostT]
        refine endS ⟨us3, ks3, cc3⟩ (by assumption) nF (by intro p hp; exact .tail _ (.tail _ (.tail _ (.tail _ (pre5 hp))))) (by intro p hp; exact .tail _ (.tail _ (.tail _ (.tail _ (last6 hp))))) ?_ ⟨hH3.mono (Nat.le_trans htT hTk), ?_⟩
        · k_extra "same"
        · rw [hsnoc2]
          exact (addN_in (by assumption)).symm
      · have hne : ∀ p ∈ [(D6, listOf us2.toArray cc2), (D5, listOf us1.toArray cc1), (s₁.heap.objs.size + 1, wc), (I, o), (I2, o2)], p.1 ≠ S := by
          intro p hp
          rcases List.mem_cons.mp hp with rfl | hp
          · exact Nat.ne_of_lt hS6
          rcases List.mem_cons.mp hp with rfl | hp
          · exact Nat.ne_of_lt hS5
          rcases List.mem_cons.mp hp with rfl | hp
          · exact Nat.ne_of_lt hSc
          rcases List.mem_cons.mp hp with rfl | hp
          · exact Nat.ne_of_gt (hlt _ (.head _))
          rw [List.mem_singleton.mp hp]
          exact Nat.ne_of_gt (hlt2 _ (.head _))
        have hS9 : S < D9 := l9.1
        have hS8 : S < D8 := l8 _ (.tail _ (.head _))
        rename_i Da _ la Db _ lb _ hnew _
        refine append_K fC nC (Upd.tail (Nat.ne_of_gt lb.2.2.2.1) (Upd.tail (Nat.ne_of_gt la.2.2.1) (Upd.tail (Nat.ne_of_gt hS8) (Upd.tail (Nat.ne_of_gt hS9) (Upd.head hne))))) ?_ ?_
        · intro h' F' N'
          clear nC fC
          rw [es3] at N'
          simp only [List.push_toArray] at N'
          k_extra "sn"
          refine wp_tok (n := tk + 1 + 1) (by k_extra "tle") ?_
          intro T5 hT5
          k_extra "st"
          rename News _ _ _ _ => nF
          intro hTk
          dsimp only [PostT]
          refine endS ⟨us3 ++ [Value.float (Float64.ofInt ((k % 16 : Nat) : Int)) (tk + 1)], ks3 ++ [k % 16], cc3 + 1⟩ (by assumption) nF (by intro p hp; exact .tail _ (.tail _ (.tail _ (.tail _ (pre5 hp))))) (by intro p hp; exact .tail _ (.tail _ (.tail _ (.tail _ (last6 hp))))) ?_ ⟨(hH3.mono (Nat.le_trans htT hTk)).snoc (Nat.mod_lt _ (by decide)) (Nat.succ_ne_zero _) (Nat.lt_of_lt_of_le (Nat.lt_succ_self _) hT5), ?_⟩
          · k_extra "same"
          · rw [hsnoc2]
            exact (addN_new (by assumption)).symm
        · have e1 := hH3.length
          have e2 := sumsOf_len a (B.take j0) ks
          rw [← hP3, List.length_take] at e2
          have e3 := sumsF_len (A.take i0) B
          rw [← hP, List.length_take] at e3
          have e4 : min i0 A.length * B.length ≤ 12 * 8 := Nat.mul_le_mul (by omega) hB2
          rw [sizeLine_eq, List.size_toArray]
          omega
    · rintro t9 h9 ⟨us9, ks9, cc9⟩ u9 ⟨hH9, hP9⟩ kFr kNews
      clear fE nE
      dsimp only at kNews hH9 hP9
      change Fr s₁.heap s₁.heap.objs.size _ _ at kFr
      change News s₁.heap s₁.heap.objs.size _ _ at kNews
      rw [hI2.length, List.take_length] at hP9
      k_extra "st"
      rename News _ _ _ _ => nF
      dsimp only [PostT]
      refine endS ⟨us9, ks9, cc9⟩ (by assumption) nF (by intro p hp; exact pre4 hp) (by intro p hp; exact last5 hp) ?_ ⟨hH9, ?_⟩
      · k_extra "same"
      · rw [hsnoc]
        exact hP9
    --END1
  · rintro t9 h9 ⟨us9, ks9, cc9⟩ u9 ⟨hH9, hP9⟩ kFr kNews
    clear fE nE
    dsimp only at kNews hH9 hP9
    change Fr s₁.heap s₁.heap.objs.size _ _ at kFr
    change News s₁.heap s₁.heap.objs.size _ _ at kNews
    rw [hI1.length, List.take_length] at hP9
    dsimp only
    k_extra "st"
    rename Fr _ _ _ _ => fA
    rename News _ _ _ _ => nA
    rename _ = Data.cell _ => hcell
    replace nA := cb_drop (news := [_, _, _, _]) nA (fun p hp => .tail _ hp)
    refine' storeX_C fA nA rfl (UpdF.tail (Nat.ne_of_gt hSc) (UpdF.tail (Nat.ne_of_gt hc6) (UpdF.tail (Nat.ne_of_gt hc5) (UpdF.head (fun p hp => nomatch hp))))) hcell ?_ rfl rfl
    intro h' o' F' N' d'
    clear fA nA
    dsimp only
    k_extra "st"
    have hAn : A.Nodup := hA ▸ huesF_nodup _
    have hAf : x1.fmod 16 ∈ A := hA ▸ huesF_first
    have hp : ∃ p, p = plainF A ∧ 0 ≤ p ∧ p < 65536 := ⟨_, rfl, plainF_lt hAn hA1⟩
    obtain ⟨p, hp1, hp2, hp3⟩ := hp
    rename Fr _ _ _ _ => fA
    rename News _ _ _ _ => nA
    change Fr _ _ _ (fun y => if y = Str.ofString "plain" then some (Value.int (plainF A) _) else _) at fA
    rw [← hp1] at fA
    refine forT ?_ (by intro _; rfl)
    k_extra "st"
    rename Fr _ _ _ _ => fE
    rename News _ _ _ _ => nE
    refine iterS (items := us2) (nn := cc2) (σ := Obj × Int × Tok) (fun c => (S, listOf us9.toArray cc9) :: (D6, listOf us2.toArray cc2) :: (D5, listOf us1.toArray cc1) :: [(s₁.heap.objs.size + 1, c.1)]) [] (fun i t c => c.1.data = Data.cell (some (Value.int c.2.1 c.2.2)) ∧ c.2.1 = markF p (B.take i)) (o', 0, _) rfl rfl rfl (by passes_own) (fun _ => .tail _ (.head _)) (fun _ => rfl) (fun i t t' c ht h => h) fE nE ⟨d', rfl⟩ ?_ ?_
    · rintro j0 v t h I o ⟨co, mk, mt⟩ u hv ⟨hC, hM⟩ hlt kFr kNews
      clear fE nE
      have kMark := kstMark
      dsimp only at kNews hC hM hlt
      change Fr s₁.heap s₁.heap.objs.size _ _ at kFr
      change News s₁.heap s₁.heap.objs.size _ _ at kNews
      have hjn : j0 < B.length := by
        have := hI2.length
        obtain ⟨h9, _⟩ := List.getElem?_eq_some_iff.mp hv
        omega
      obtain ⟨tw, e⟩ := hI2.get j0 B[j0] (by simp [hjn])
      obtain rfl : v = .int B[j0] tw := Option.some.inj (hv.symm.trans e)
      have hb := hB1 _ (List.getElem_mem hjn)
      have hsnoc2 : markF p (B.take (j0 + 1)) = Builtin.bitOr mk (turnF16 p B[j0]) := by
        rw [hM]
        unfold markF
        rw [List.take_add_one, List.getElem?_eq_getElem hjn, List.foldl_append]
        rfl
      generalize B[j0] = b at hsnoc2 hb kFr
      clear hv e
      (try k_fold)
      --BEGIN3
      k_extra "st"
      refine' turned_ok ⟨by k_asm, by k_asm, by k_asm, by k_asm, by k_asm, by first | exact rfl | assumption, by ktr_room, by ktr_units⟩ hp2 hp3 hb.1 (by omega) ?_
      intro t8 h8 tk8 F8 N8
      (try k_fold)
      k_extra "st"
      rename Fr _ _ _ _ => fC
      rename News _ _ _ _ => nC
      refine' storeX_C fC nC rfl (UpdF.tail (Nat.ne_of_gt hSc) (UpdF.tail (Nat.ne_of_gt hc6) (UpdF.tail (Nat.ne_of_gt hc5) (UpdF.head (fun p hp => by rw [List.mem_singleton.mp hp]; exact Nat.ne_of_gt (hlt _ (.tail _ (.tail _ (.tail _ (.head _))))))))))  hC ?_ rfl rfl
      intro h' o' F' N' d'
      clear fC nC
      dsimp only
      k_extra "st"
      rename News _ _ _ _ => nF
      dsimp only [PostT]
      refine endS ⟨o', Builtin.bitOr mk (turnF16 p b), _⟩ (by assumption) nF (by intro p hp; exact pre4 hp) (by intro p hp; exact last5 hp) ?_ ⟨d', hsnoc2.symm⟩
      k_extra "same"
      --END3
    · rintro t9 h9 ⟨co, mk, mt⟩ u9 ⟨hC, hM⟩ kFr kNews
      clear fE nE
      dsimp only at kNews hC hM
      change Fr s₁.heap s₁.heap.objs.size _ _ at kFr
      change News s₁.heap s₁.heap.objs.size _ _ at kNews
      rw [hI2.length, List.take_length] at hM
      k_extra "st"
      refine sorted_hues kFr kNews (.head _) hH9 (by
        have := sums_len (A := A) (B := B)
        rw [hP9]
        omega) ?_
      intro h' D4 vs' ks' e' F' N' l4 hHs hps hss
      clear kFr kNews
      k_lt l4
      dsimp only
      k_extra "st"
      rename CarriedAll _ _ => hCa
      rename Heap.IsList _ _ _ => hCl
      rename Fr _ _ _ _ => kFr
      rename News _ _ _ _ => kNews
      refine ne_sorted kNews (.head _) hCl hHs (ints_carried hCa) (by rw [hM, hp1]; exact law_sorted hAn hA1 hB1 (hP9 ▸ hps) hss) (by first | ktr_units | exact Nat.le_of_ble_eq_true rfl) ?_
      rename NewPlain _ _ _ _ => hNP
      clear hCa hCl hNP
      replace kNews := cb_drop (news := [_, _, _, _]) kNews (fun p hp => .tail _ hp)
      have hmk : 0 ≤ mk ∧ mk < 65536 := by rw [hM, hp1]; exact markF_lt _ _
      obtain ⟨g, hg⟩ : ∃ g : Int → Str, ∀ k, g k = wordS (turnF16 mk k).toNat := ⟨_, fun _ => rfl⟩
      have hg4 : ∀ k, (g k).length = 4 := fun k => by rw [hg]; rfl
      k_extra "sc"
      refine LCg.CompSrc.range (by rfl) (by k_asm) (by k_asm) (by assumption) (by first | decide | rfl) (by first | exact rangeSize_nat _ _ | rfl) (by exact Nat.le_of_ble_eq_true rfl) ?_
      intro g'
      refine' kct_range g (fun k' t' I' oI' C' oC' D' m' ys' h' tk' E' hlo' hhi' hC' hx' F' N' off' ne' => ?_) ?_
      · (try (simp only [LCg.Off3, and_true] at off'))
        intro hMark'
        --BEGIN4
        k_extra "st"
        have hk4 : k' < 4 := hhi'
        refine' turned_ok ⟨by k_asm, by k_asm, by k_asm, by k_asm, by k_asm, by first | exact rfl | assumption, by ktr_room, by ktr_units⟩ hmk.1 hmk.2 hlo' (by omega) ?_
        intro t8 h8 tk8 F8 N8
        have ht := turnF16_lt mk k'
        change Fr _ _ _ _ at F8
        (try k_fold)
        k_extra "st"
        refine' word_ok ⟨by k_asm, by k_asm, by k_asm, by k_asm, by k_asm, by first | exact rfl | assumption, by ktr_room, by ktr_units⟩ ht.1 ht.2 ?_
        intro t7 h7 tk7 F7 N7
        (try k_fold)
        k_extra "st"
        exact kct_el (hg k') rfl rfl
        --END4
      · k_extra "st"
        rename CarriedAll _ _ => hW
        obtain ⟨t0, t1, t2, t3, rfl⟩ := four_words hW
        clear hW
        rename _ < _ ∧ _ < _ ∧ _ < _ ∧ _ < _ ∧ _ < _ => lT
        k_extra "for"
        k_extra "st"
        rename Fr _ _ _ _ => fE
        rename News _ _ _ _ => nE
        rename IsRange _ _ _ _ _ _ _ _ => hR
        with_unfolding_all refine' kst_range (σ := List Value × List Int × Nat) (fun c => (_, listOf c.1.toArray c.2.2) :: (_, LCg.lst _) :: (S, listOf us9.toArray cc9) :: (D6, listOf us2.toArray cc2) :: (D5, listOf us1.toArray cc1) :: [(s₁.heap.objs.size + 1, co)]) (fun _ => []) (fun c => IntsAre c.1 c.2.1) [Str.ofString "word", Str.ofString "cut"] (fun pre c => c.2.1 = pre.filter (turnOk g)) ([], [], 0) (by rfl) hR (by decide) (by rfl) fE nE ?kf ?kk ?kp ?_ ?_
        case kf => exact IntsAre.nil
        case kk => exact List.forall_mem_nil _
        case kp => rfl
        · intro c pre b t u h tk own hb hlen hoff hfacts hP kFr kNews
          obtain ⟨us, bs, cc⟩ := c
          have kMark := kstMark
          dsimp only [kstB] at kFr
          dsimp only at kNews hfacts hP
          (try simp only [List.cons_append] at kNews)
          clear fE nE
          change Fr s₁.heap s₁.heap.objs.size _ _ at kFr
          change News s₁.heap s₁.heap.objs.size _ _ at kNews
          have hlen' : pre.length < 16 := hlen
          have hb0 : 0 ≤ b ∧ b < 16 := by omega
          have q0 := Int.fmod_nonneg_of_pos b (show (0 : Int) < 4 by decide)
          have q1 := Int.fmod_lt_of_pos b (show (0 : Int) < 4 by decide)
          (try k_fold)
          --BEGIN2
          k_extra "sc"
          rename News _ _ _ _ => nE
          obtain ⟨tw, hx⟩ := words_at (g := g) t0 t1 t2 t3 q0 q1
          refine item_list (News.isList nE (.tail _ (.head _))) q0 (by omega) hx (by with_unfolding_all rfl) ?_
          clear hx
          have hx4 := hg4 (b.fmod 4)
          have hy4 := hg4 0
          k_extra "sc"
          obtain ⟨n, hn, hn3⟩ : ∃ n : Nat, b.fdiv 4 = (n : Int) ∧ n ≤ 3 := ⟨(b.fdiv 4).toNat, by rw [Int.fdiv_eq_ediv_of_nonneg _ (by decide)]; omega, by rw [Int.fdiv_eq_ediv_of_nonneg _ (by decide)]; omega⟩
          rename Fr _ _ _ _ => fA
          rename News _ _ _ _ => nA
          rw [hn] at fA
          have nB := cb_drop (news := [_, _, _, _, _, _] ++ own) nA (fun p hp => .tail _ hp)
          clear nA
          k_extra "one"
          (try dsimp only)
          k_extra "sc"
          k_extra "one"
          (try dsimp only)
          k_extra "sc"
          (try dsimp only)
          rename News _ _ _ _ => nC
          obtain ⟨tz, hz⟩ := words_at (g := g) (k := 0) t0 t1 t2 t3 (by decide) (by decide)
          refine item_list (News.isList nC (.tail _ (.head _))) (by decide) (by decide) hz (by with_unfolding_all rfl) ?_
          clear hz
          rw [hn]
          (try dsimp only)
          k_extra "st"
          obtain ⟨w1, w2, w3⟩ := want_ok (hg (b.fmod 4)) hn3
          refine' ell_ok ⟨by k_asm, by k_asm, by k_asm, by k_asm, by k_asm, by first | exact rfl | assumption, by ktr_room, by ktr_units⟩ w1 w2 (by omega) (by omega) (cutA_len hx4 hn3).1 (by rw [(cutA_len hx4 hn3).2, hy4]) ?_
          intro h5 tk5 F5 N5
          have e5 : (Txt.startswith (g 0) (cutA (g (b.fmod 4)) n) && Txt.endswith (g 0) (cutB (g (b.fmod 4)) n)) = turnOk g b := by unfold turnOk; rw [hn]; rfl
          rw [e5]
          clear nC w1 w2 w3
          (try simp only [List.cons_append, List.nil_append] at N5)
          k_extra "st"
          · rename News _ _ _ _ => nE
            rename Fr _ _ _ _ => fE
            refine append_K fE nE (Upd.head (by
              intro p hp
              rcases List.mem_cons.mp hp with rfl | hp
              · exact Nat.ne_of_lt lT.1
              rcases List.mem_cons.mp hp with rfl | hp
              · exact Nat.ne_of_lt lT.2.1
              rcases List.mem_cons.mp hp with rfl | hp
              · exact Nat.ne_of_lt lT.2.2.1
              rcases List.mem_cons.mp hp with rfl | hp
              · exact Nat.ne_of_lt lT.2.2.2.1
              rcases List.mem_cons.mp hp with rfl | hp
              · exact Nat.ne_of_lt lT.2.2.2.2
              exact hoff p hp _ (.head _))) ?_ ?_
            · intro h' F' N'
              clear nE fE
              k_extra "st"
              rename News _ _ _ _ => nE
              simp only [List.push_toArray] at nE
              refine kst_end ⟨us ++ [Value.int b t], bs ++ [b], cc + 1⟩ (by assumption) nE (by kst_in) (by intro p hp; kst_mem) rfl (hfacts.append (.cons _ _ .nil)) (List.forall_mem_nil _) (by kst_same) ?_
              rw [List.filter_append, ← hP]
              rename turnOk g b = true => hto
              simp only [List.filter_cons, List.filter_nil, hto, if_true]
            · have e1 := hfacts.length
              have e2 : bs.length ≤ pre.length := by rw [hP]; exact List.length_filter_le _ _
              rw [sizeLine_eq, List.size_toArray]
              omega
          · rename News _ _ _ _ => nE
            refine kst_end ⟨us, bs, cc⟩ (by assumption) nE (by kst_in) (by intro p hp; kst_mem) rfl hfacts (List.forall_mem_nil _) (by kst_same) ?_
            rw [List.filter_append, ← hP]
            rename turnOk g b = false => hto
            simp only [List.filter_cons, List.filter_nil, hto, Bool.false_eq_true, if_false, List.append_nil]
          --END2
        · intro c u h tk hfacts hP kFr kNews
          obtain ⟨us, bs, cc⟩ := c
          dsimp only [kstB] at kFr
          dsimp only at kNews hfacts hP
          clear fE nE
          change Fr s₁.heap s₁.heap.objs.size _ _ at kFr
          change News s₁.heap s₁.heap.objs.size _ _ at kNews
          k_extra "lc"
          k_dflt (refine LCt.ListComp_T (F₀ := by k_asm) (by with_unfolding_all rfl) (by decide) (by rfl) (by decide) (by rfl) ?_)
          k_dflt lct_toSrc
          rotate_right 1
          · exact (fun l k => if turnF16 mk k = mk then l ++ [k] else l)
          · rename (0 : Int) ≤ _ => hlo'
            rename _ < (0 : Int) + _ => hhi'
            have hk16 : _ < (16 : Int) := hhi'
            --BEGIN5
            k_extra "st"
            refine' turned_is ⟨by k_asm, by k_asm, by k_asm, by k_asm, by k_asm, by first | exact rfl | assumption, by ktr_room, by ktr_units⟩ hmk.1 hmk.2 hlo' (by omega) ?_
            intro tv t8 h8 tk8 hv F8 N8
            change Fr _ _ _ _ at F8
            (try k_fold)
            clear hg hg4 hH9 hP9 hP
            k_extra "se"
            · rename News _ _ _ _ => nE
              refine LCg.CompEnd.intro (by assumption) nE _ (fun p hp => hp) (by simp only [LCg.Off3, and_true]; assumption) trivial ?_
              exact kci_el (if_pos (hv ▸ by assumption)) rfl rfl
            · rename News _ _ _ _ => nE
              refine LCg.CompEnd.intro (by assumption) nE _ (fun p hp => hp) (by simp only [LCg.Off3, and_true]; assumption) trivial ?_
              exact kci_no (if_neg (hv ▸ by assumption)) rfl
            --END5
          · k_extra "sc"
            rename IntsAre _ (List.foldl _ _ _) => hY
            rename News _ _ _ _ => nA
            refine ne_ints nA (.tail _ (.head _)) (News.isList nA (.head _)) hfacts hY (by rw [hP]; exact law_turns hmk.1 hmk.2 hg) (by first | ktr_units | exact Nat.le_of_ble_eq_true rfl) ?_
            clear hY
            replace nA := cb_drop (news := [_, _, _, _, _]) nA (fun p hp => by
              rcases List.mem_cons.mp hp with rfl | hp
              · exact .tail _ (.head _)
              · exact .tail _ (.tail _ (.tail _ hp)))
            have hbl : bs.length ≤ 16 := by
              rw [hP]
              exact Nat.le_trans (List.length_filter_le _ _) (by simp [rangeKs])
            k_extra "sc"
            rename News _ _ _ _ => nB
            refine len_list (News.isList nB (.head _)) (by rw [List.size_toArray, hfacts.length]; omega) ?_
            rw [List.size_toArray, hfacts.length]
            obtain ⟨n, hn⟩ : ∃ n, n = bs.length := ⟨_, rfl⟩
            rw [← hn] at hbl ⊢
            k_extra "lc"
            k_dflt (refine LCg.ListComp_U (F₀ := by k_asm) (by rfl) (by decide) (by rfl) (by decide) (by rfl) ?_)
            k_extra "sc"
            refine LCg.CompSrc.ledger (by rfl) (by k_asm) (by k_asm) (by k_mem) (by
              have := sums_len (A := A) (B := B)
              rw [List.size_toArray, hH9.length, hP9, sizeLine_eq]
              omega) ?_
            intro g'
            refine hue_rest hH9 (fun k9 t' I' oI' C' oC' D' m' ys' h' tk' E' hk9 hC' hx' F' N' off' ne' => ?_) (fun ys hys => ?_)
            · (try (simp only [LCg.Off3, and_true] at off'))
              --BEGIN6
              obtain ⟨fx, hfx⟩ : ∃ fx, fx = Float64.ofInt ((k9 : Nat) : Int) := ⟨_, rfl⟩
              rw [← hfx] at hx'
              have hf1 : Float64.isNaN fx = false := by rw [hfx]; exact hue_nan ⟨k9, hk9⟩
              have hf2 : Float64.isInf fx = false := by rw [hfx]; exact hue_inf ⟨k9, hk9⟩
              have hf3 : toInt Float64.truncOf fx = (k9 : Int) := by rw [hfx]; exact hue_trunc ⟨k9, hk9⟩
              k_extra "se"
              rename News _ _ _ _ => nE
              refine LCg.CompEnd.intro (by assumption) nE _ (fun p hp => hp) (by simp only [LCg.Off3, and_true]; assumption) (Or.inr ⟨_, .tail _ (.head _), rfl, _, rfl⟩) ⟨rfl, tk', ?_⟩
              exact congrArg (fun v => Value.int v tk') hf3
              --END6
            · k_extra "st"
              refine' kinds_ok (ns := sumsI A B) (n := ((n : Nat) : Int)) ⟨by k_asm, by k_asm, by k_asm, by k_asm, by k_asm, by first | exact rfl | assumption, by ktr_room, by ktr_units⟩ (.head _) (by unfold sumsI; rw [← hP9]; exact hys) (by unfold sumsI; rw [List.length_map]; have := sums_len (A := A) (B := B); omega) (by omega) (by omega) (by
                intro h hm
                obtain ⟨q, hq, rfl⟩ := List.mem_map.mp hm
                have := sumsF_lt hq
                omega) ?_
              intro t8 h8 tk8 F8 N8
              have hlaw := law_last (x := x4) (y := x5) hAf hAn hA1 (by rw [← hB, ← hp1, ← hM]; exact hg) (hn.trans (congrArg List.length hP))
              rw [← hB] at hlaw
              obtain ⟨th, hth⟩ : ∃ th, th = (kindsF ((n : Nat) : Int) (sumsI A B)).length := ⟨_, rfl⟩
              rw [← hth] at hlaw
              replace N8 := cb_drop (news := [_, _, _, _]) N8 (fun p hp => .tail _ (.tail _ hp))
              rw [← hth]
              (try k_fold)
              k_extra "sc"
              rename News _ _ _ _ => nB
              have e9 : us9.toArray.size = th * n := by rw [List.size_toArray, hH9.length, hP9]; exact hlaw.1.symm
              refine len_list (News.isList nB (.head _)) (by rw [e9, hlaw.1]; have := sums_len (A := A) (B := B); omega) ?_
              rw [e9, Int.natCast_mul]
              generalize ((th : Nat) : Int) * ((n : Nat) : Int) = pr
              clear e9
              k_extra "one"
              k_extra "one"
              rw [bne_self_eq_false, if_neg Bool.false_ne_true]
              k_extra "sc"
              refine' kinds_ok (ns := A) (n := ((n : Nat) : Int)) ⟨by k_asm, by k_asm, by k_asm, by k_asm, by k_asm, by first | exact rfl | assumption, by ktr_room, by ktr_units⟩ (.tail _ (.tail _ (.head _))) hI1 (by omega) (by omega) (by omega) hA1 ?_
              intro t7 h7 tk7 F7 N7
              (try k_fold)
              k_extra "sc"
              refine' kinds_ok (ns := B) (n := ((n : Nat) : Int)) ⟨by k_asm, by k_asm, by k_asm, by k_asm, by k_asm, by first | exact rfl | assumption, by ktr_room, by ktr_units⟩ (.tail _ (.head _)) hI2 (by omega) (by omega) (by omega) hB1 ?_
              intro t6 h6 tk6 F6 N6
              have hfin : ((kindsF ((n : Nat) : Int) A).length : Int) + ((kindsF ((n : Nat) : Int) B).length : Int) - 1 ≤ (th : Int) := by have := hlaw.2; omega
              (try k_fold)
              k_extra "one"
              k_extra "one"
              k_extra "one"
              k_extra "one"
              k_extra "one"
              rw [decide_eq_true hfin]
              exact good_end F6 (by assumption)
          · intro l k
            show (if turnF16 mk k = mk then l ++ [k] else l).length ≤ l.length + 1
            split
            · rw [List.length_append]; exact Nat.le_refl _
            · exact Nat.le_succ _
)
end Mine
theorem PySem.Challenge.cw_sn0021_01_holds : PySem.Challenge.rw_sn0021_01.Holds := by
  exact Mine.lawHolds

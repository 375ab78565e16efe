import PyProof.Rows.All
import Wide.All
import OpenK.AllK
import Wide.FinOn
import PySem.Challenge.RW_sn0021_02
open PySem PySem.W PyProof.Rows
set_option Elab.async false
set_option maxRecDepth 100000
set_option maxHeartbeats 40000000
set_option rowWalk.seconds 0
open_top hd2 for PySem.Challenge.rw_sn0021_02
open PySem.Flt PySem.Calls
theorem Mine2.offNow : True := by
  w_top off
  trivial
namespace Mine2
section
variable {α : Type} {a x y z : α} {k l m A R T : List α}
theorem sub_nil : ∀ p ∈ ([] : List α), p ∈ l := fun _ h => nomatch h
theorem sub_cons (h : a ∈ m) (t : ∀ p ∈ l, p ∈ m) : ∀ p ∈ a :: l, p ∈ m := List.forall_mem_cons.mpr ⟨h, t⟩
theorem sub_app (h : ∀ p ∈ k, p ∈ m) (t : ∀ p ∈ l, p ∈ m) : ∀ p ∈ k ++ l, p ∈ m := List.forall_mem_append.mpr ⟨h, t⟩
theorem in_r (h : a ∈ l) : a ∈ k ++ l := List.mem_append_right k h
theorem in_l (h : a ∈ k) : a ∈ k ++ l := List.mem_append_left l h
theorem sub_move0 (h : ∀ p ∈ T, p ∈ R) : ∀ p ∈ A ++ T, p ∈ A ++ R := fun p hp => (List.mem_append.mp hp).elim in_l fun q => in_r (h p q)
theorem sub_move1 (h : ∀ p ∈ T, p ∈ x :: R) : ∀ p ∈ A ++ T, p ∈ x :: (A ++ R) := fun p hp => (List.mem_append.mp hp).elim (fun q => .tail _ (in_l q)) fun q => by
  rcases List.mem_cons.mp (h p q) with rfl | q
  · exact .head _
  · exact .tail _ (in_r q)
theorem sub_move2 (h : ∀ p ∈ T, p ∈ x :: y :: R) : ∀ p ∈ A ++ T, p ∈ x :: y :: (A ++ R) := fun p hp => (List.mem_append.mp hp).elim (fun q => .tail _ (.tail _ (in_l q))) fun q => by
  rcases List.mem_cons.mp (h p q) with rfl | q
  · exact .head _
  rcases List.mem_cons.mp q with rfl | q
  · exact .tail _ (.head _)
  · exact .tail _ (.tail _ (in_r q))
theorem sub_move3 (h : ∀ p ∈ T, p ∈ x :: y :: z :: R) : ∀ p ∈ A ++ T, p ∈ x :: y :: z :: (A ++ R) := fun p hp => (List.mem_append.mp hp).elim (fun q => .tail _ (.tail _ (.tail _ (in_l q)))) fun q => by
  rcases List.mem_cons.mp (h p q) with rfl | q
  · exact .head _
  rcases List.mem_cons.mp q with rfl | q
  · exact .tail _ (.head _)
  rcases List.mem_cons.mp q with rfl | q
  · exact .tail _ (.tail _ (.head _))
  · exact .tail _ (.tail _ (.tail _ (in_r q)))
theorem sub_keep (h : ∀ p ∈ l, p ∈ m) : ∀ p ∈ a :: l, p ∈ a :: m := fun p hp => by
  rcases List.mem_cons.mp hp with rfl | q
  · exact .head _
  · exact .tail _ (h p q)
theorem sub_skip (h : ∀ p ∈ l, p ∈ m) : ∀ p ∈ l, p ∈ a :: m := fun p hp => .tail _ (h p hp)
end
end Mine2
namespace Mine2
theorem fill1 : (∀ w : World, ∀ h, (hd2.heap_39 w.params).In h → (PySem.Challenge.rw_sn0021_02.name = PySem.Challenge.rw_sn0021_02.name)) := by
  k_fill
  intros; rfl

section
variable {prog : Program} {w : World} {A : Around} {E : Value → Shared → Prop} {s : Shared} {Q : Value → Shared → Prop}
noncomputable def fMax (x y z : UInt64) : UInt64 := if Float64.cmp x y == some .lt then (if Float64.cmp y z == some .lt then z else y) else (if Float64.cmp x z == some .lt then z else x)
noncomputable def fMin (x y z : UInt64) : UInt64 := if Float64.cmp y x == some .lt then (if Float64.cmp z y == some .lt then z else y) else (if Float64.cmp z x == some .lt then z else x)

theorem max3_num {a b c : Value} (hh : A.handled = none) (ha : NumV a) (hb : NumV b) (hc : NumV c)
    (h : ∀ h' tk, (∀ c o, s.heap.get? c = some o → h'.get? c = some o) → Q (if ltV a b then (if ltV b c then c else b) else (if ltV a c then c else a)) { s with heap := h', toks := tk }) :
    wpAny (model prog w) A (call (.builtin "max") [a, b, c]) Q E s := by
  have hT : (s.heap.push { cls := .type "tuple", data := .seq #[a, b, c] }).IsTuple s.heap.objs.size #[a, b, c] := ⟨_, Heap.get?_push_size _ rfl, rfl, 0, rfl⟩
  refine call_max_three (wpAny_pyIter_tuple hT ?_)
  have hsz : (s.heap.push { cls := .type "tuple", data := .seq #[a, b, c] }).objs.size = s.heap.objs.size + 1 := Heap.size_push ..
  refine ⟨_, [_, s.heap.objs.size], [_], _, _, _, _, rfl, Walks.tuple (A := A.in1) hh _ s.heap.objs.size (by rw [hsz]; exact Nat.ne_of_lt (Nat.lt_succ_self _)) #[a, b, c],
    ⟨⟨_, Heap.get?_push_size _ rfl, rfl, rfl⟩, hT.push _⟩, fun c hc => ?_, by simp, cmpOf_gt #[a, b, c] (by simp [ha, hb, hc]), fun v h' tk hP hk => ?_⟩
  · show c < ((s.heap.push _).push _).objs.size
    rw [Heap.size_push, hsz]
    rcases List.mem_cons.mp hc with rfl | hc
    · rw [hsz]; exact Nat.lt_succ_self _
    · rcases List.mem_cons.mp hc with rfl | hc
      · exact Nat.lt_succ_of_lt (Nat.lt_succ_self _)
      · cases hc
  · have hold : ∀ c o, s.heap.get? c = some o → h'.get? c = some o := fun c o e => by
      refine hk c o (fun hm => ?_) (Heap.get?_push_of_some _ (Heap.get?_push_of_some _ e))
      rcases List.mem_cons.mp hm with e1 | hm
      · have := Heap.lt_size e; rw [e1, hsz] at this; exact Nat.lt_irrefl _ (Nat.lt_of_succ_lt this)
      · cases hm
    have := h h' tk hold
    have hv : v = if ltV a b then (if ltV b c then c else b) else (if ltV a c then c else a) := by
      cases h1 : ltV a b <;> cases h2 : ltV b c <;> cases h3 : ltV a c <;> simp [argBest, h1, h2, h3] at hP <;> simp [hP]
    rw [hv]; exact this
theorem min3_num {a b c : Value} (hh : A.handled = none) (ha : NumV a) (hb : NumV b) (hc : NumV c)
    (h : ∀ h' tk, (∀ c o, s.heap.get? c = some o → h'.get? c = some o) → Q (if ltV b a then (if ltV c b then c else b) else (if ltV c a then c else a)) { s with heap := h', toks := tk }) :
    wpAny (model prog w) A (call (.builtin "min") [a, b, c]) Q E s := by
  have hT : (s.heap.push { cls := .type "tuple", data := .seq #[a, b, c] }).IsTuple s.heap.objs.size #[a, b, c] := ⟨_, Heap.get?_push_size _ rfl, rfl, 0, rfl⟩
  refine call_min_three (wpAny_pyIter_tuple hT ?_)
  have hsz : (s.heap.push { cls := .type "tuple", data := .seq #[a, b, c] }).objs.size = s.heap.objs.size + 1 := Heap.size_push ..
  refine ⟨_, [_, s.heap.objs.size], [_], _, _, _, _, rfl, Walks.tuple (A := A.in1) hh _ s.heap.objs.size (by rw [hsz]; exact Nat.ne_of_lt (Nat.lt_succ_self _)) #[a, b, c],
    ⟨⟨_, Heap.get?_push_size _ rfl, rfl, rfl⟩, hT.push _⟩, fun c hc => ?_, by simp, cmpOf_lt #[a, b, c] (by simp [ha, hb, hc]), fun v h' tk hP hk => ?_⟩
  · show c < ((s.heap.push _).push _).objs.size
    rw [Heap.size_push, hsz]
    rcases List.mem_cons.mp hc with rfl | hc
    · rw [hsz]; exact Nat.lt_succ_self _
    · rcases List.mem_cons.mp hc with rfl | hc
      · exact Nat.lt_succ_of_lt (Nat.lt_succ_self _)
      · cases hc
  · have hold : ∀ c o, s.heap.get? c = some o → h'.get? c = some o := fun c o e => by
      refine hk c o (fun hm => ?_) (Heap.get?_push_of_some _ (Heap.get?_push_of_some _ e))
      rcases List.mem_cons.mp hm with e1 | hm
      · have := Heap.lt_size e; rw [e1, hsz] at this; exact Nat.lt_irrefl _ (Nat.lt_of_succ_lt this)
      · cases hm
    have := h h' tk hold
    have hv : v = if ltV b a then (if ltV c b then c else b) else (if ltV c a then c else a) := by
      cases h1 : ltV b a <;> cases h2 : ltV c b <;> cases h3 : ltV c a <;> simp [argBest, h1, h2, h3] at hP <;> simp [hP]
    rw [hv]; exact this
theorem max3_f {x y z : UInt64} {t u v : Tok} {h₀ : Heap} {L : Addr} {m : Str → Option Value} {news : List (Addr × Obj)}
    (hh : A.handled = none) (F : Fr h₀ L s.heap m) (N : News h₀ L s.heap news)
    (h : ∀ h' tk v, Fr h₀ L h' m → News h₀ L h' news → Q (.float (fMax x y z) v) { s with heap := h', toks := tk }) :
    wpAny (model prog w) A (call (.builtin "max") [.float x t, .float y u, .float z v]) Q E s :=
  max3_num hh (.float x t) (.float y u) (.float z v) fun h' tk kp => by
    have := h h' tk
    simp only [fMax] at this
    by_cases h1 : (Float64.cmp x y == some .lt) = true
    · have g1 : ltV (.float x t) (.float y u) = true := h1
      rw [if_pos h1] at this; rw [if_pos g1]
      by_cases h2 : (Float64.cmp y z == some .lt) = true
      · have g2 : ltV (.float y u) (.float z v) = true := h2
        rw [if_pos h2] at this; rw [if_pos g2]; exact this _ (F.grownK kp) (N.grown kp)
      · have g2 : ltV (.float y u) (.float z v) = false := Bool.eq_false_iff.mpr h2
        rw [if_neg h2] at this; rw [if_neg (by rw [g2]; exact Bool.false_ne_true)]; exact this _ (F.grownK kp) (N.grown kp)
    · have g1 : ltV (.float x t) (.float y u) = false := Bool.eq_false_iff.mpr h1
      rw [if_neg h1] at this; rw [if_neg (by rw [g1]; exact Bool.false_ne_true)]
      by_cases h2 : (Float64.cmp x z == some .lt) = true
      · have g2 : ltV (.float x t) (.float z v) = true := h2
        rw [if_pos h2] at this; rw [if_pos g2]; exact this _ (F.grownK kp) (N.grown kp)
      · have g2 : ltV (.float x t) (.float z v) = false := Bool.eq_false_iff.mpr h2
        rw [if_neg h2] at this; rw [if_neg (by rw [g2]; exact Bool.false_ne_true)]; exact this _ (F.grownK kp) (N.grown kp)
theorem min3_f {x y z : UInt64} {t u v : Tok} {h₀ : Heap} {L : Addr} {m : Str → Option Value} {news : List (Addr × Obj)}
    (hh : A.handled = none) (F : Fr h₀ L s.heap m) (N : News h₀ L s.heap news)
    (h : ∀ h' tk v, Fr h₀ L h' m → News h₀ L h' news → Q (.float (fMin x y z) v) { s with heap := h', toks := tk }) :
    wpAny (model prog w) A (call (.builtin "min") [.float x t, .float y u, .float z v]) Q E s :=
  min3_num hh (.float x t) (.float y u) (.float z v) fun h' tk kp => by
    have := h h' tk
    simp only [fMin] at this
    by_cases h1 : (Float64.cmp y x == some .lt) = true
    · have g1 : ltV (.float y u) (.float x t) = true := h1
      rw [if_pos h1] at this; rw [if_pos g1]
      by_cases h2 : (Float64.cmp z y == some .lt) = true
      · have g2 : ltV (.float z v) (.float y u) = true := h2
        rw [if_pos h2] at this; rw [if_pos g2]; exact this _ (F.grownK kp) (N.grown kp)
      · have g2 : ltV (.float z v) (.float y u) = false := Bool.eq_false_iff.mpr h2
        rw [if_neg h2] at this; rw [if_neg (by rw [g2]; exact Bool.false_ne_true)]; exact this _ (F.grownK kp) (N.grown kp)
    · have g1 : ltV (.float y u) (.float x t) = false := Bool.eq_false_iff.mpr h1
      rw [if_neg h1] at this; rw [if_neg (by rw [g1]; exact Bool.false_ne_true)]
      by_cases h2 : (Float64.cmp z x == some .lt) = true
      · have g2 : ltV (.float z v) (.float x t) = true := h2
        rw [if_pos h2] at this; rw [if_pos g2]; exact this _ (F.grownK kp) (N.grown kp)
      · have g2 : ltV (.float z v) (.float x t) = false := Bool.eq_false_iff.mpr h2
        rw [if_neg h2] at this; rw [if_neg (by rw [g2]; exact Bool.false_ne_true)]; exact this _ (F.grownK kp) (N.grown kp)
end
local macro_rules | `(tactic| walk_at "call builtin:max") => `(tactic| (k_here; (with_reducible show wpAny _ _ (call _ [Value.float _ _, Value.float _ _, Value.float _ _]) _ _ _); (rename News _ _ _ _ => N'); (rename Fr _ _ _ _ => F'); refine max3_f rfl F' N' ?_; clear N'; intro _ _ _ _ _))
local macro_rules | `(tactic| walk_at "call builtin:min") => `(tactic| (k_here; (with_reducible show wpAny _ _ (call _ [Value.float _ _, Value.float _ _, Value.float _ _]) _ _ _); (rename News _ _ _ _ => N'); (rename Fr _ _ _ _ => F'); refine min3_f rfl F' N' ?_; clear N'; intro _ _ _ _ _))


abbrev tup3 (r : UInt64) (t1 : Tok) (g : UInt64) (t2 : Tok) (b : UInt64) (t3 : Tok) : Obj := { cls := .type "tuple", data := .seq #[.float r t1, .float g t2, .float b t3] }

noncomputable def hsvI (x : UInt64) : Int := Flt.toInt Float64.truncOf (Float64.mul x 4618441417868443648)
noncomputable def hsvOk (x y : UInt64) : Bool := (Float64.cmp y 0 == some .eq) || (!Float64.isNaN (Float64.mul x 4618441417868443648) && (!Float64.isInf (Float64.mul x 4618441417868443648) && decide ((hsvI x).natAbs < 2 ^ 1024 - 2 ^ 970)))
theorem hsvOk_at {x y : UInt64} (ok : hsvOk x y = true) (h : (Float64.cmp y 0 == some .eq) = false) : Float64.isNaN (Float64.mul x 4618441417868443648) = false ∧ Float64.isInf (Float64.mul x 4618441417868443648) = false ∧ (hsvI x).natAbs < 2 ^ 1024 - 2 ^ 970 := by
  unfold hsvOk at ok
  rw [h, Bool.false_or, Bool.and_eq_true, Bool.and_eq_true, Bool.not_eq_true', Bool.not_eq_true'] at ok
  exact ⟨ok.1, ok.2.1, of_decide_eq_true ok.2.2⟩
noncomputable def hsvF (x y z : UInt64) : UInt64 × UInt64 × UInt64 :=
  if (Float64.cmp y 0 == some .eq) = true then (z, z, z) else
  if (hsvI x).fmod 6 = 0 then (z, Float64.mul z (Float64.sub 4607182418800017408 (Float64.mul y (Float64.sub 4607182418800017408 (Float64.sub (Float64.mul x 4618441417868443648) (Float64.ofInt (hsvI x)))))), Float64.mul z (Float64.sub 4607182418800017408 y)) else
  if (hsvI x).fmod 6 = 1 then (Float64.mul z (Float64.sub 4607182418800017408 (Float64.mul y (Float64.sub (Float64.mul x 4618441417868443648) (Float64.ofInt (hsvI x))))), z, Float64.mul z (Float64.sub 4607182418800017408 y)) else
  if (hsvI x).fmod 6 = 2 then (Float64.mul z (Float64.sub 4607182418800017408 y), z, Float64.mul z (Float64.sub 4607182418800017408 (Float64.mul y (Float64.sub 4607182418800017408 (Float64.sub (Float64.mul x 4618441417868443648) (Float64.ofInt (hsvI x))))))) else
  if (hsvI x).fmod 6 = 3 then (Float64.mul z (Float64.sub 4607182418800017408 y), Float64.mul z (Float64.sub 4607182418800017408 (Float64.mul y (Float64.sub (Float64.mul x 4618441417868443648) (Float64.ofInt (hsvI x))))), z) else
  if (hsvI x).fmod 6 = 4 then (Float64.mul z (Float64.sub 4607182418800017408 (Float64.mul y (Float64.sub 4607182418800017408 (Float64.sub (Float64.mul x 4618441417868443648) (Float64.ofInt (hsvI x)))))), Float64.mul z (Float64.sub 4607182418800017408 y), z) else
  (z, Float64.mul z (Float64.sub 4607182418800017408 y), Float64.mul z (Float64.sub 4607182418800017408 (Float64.mul y (Float64.sub (Float64.mul x 4618441417868443648) (Float64.ofInt (hsvI x))))))

theorem hsvF_s {x y z : UInt64} (h : (Float64.cmp y 0 == some .eq) = true) : hsvF x y z = (z, z, z) := by
  unfold hsvF; rw [if_pos h]
section
variable {x y z : UInt64} (h : (Float64.cmp y 0 == some .eq) = false)
include h
theorem hsvF_0 (h0 : (hsvI x).fmod 6 = 0) : hsvF x y z = (z, Float64.mul z (Float64.sub 4607182418800017408 (Float64.mul y (Float64.sub 4607182418800017408 (Float64.sub (Float64.mul x 4618441417868443648) (Float64.ofInt (hsvI x)))))), Float64.mul z (Float64.sub 4607182418800017408 y)) := by
  unfold hsvF; rw [if_neg (by rw [h]; exact Bool.false_ne_true), if_pos h0]
theorem hsvF_1 (h1 : (hsvI x).fmod 6 = 1) : hsvF x y z = (Float64.mul z (Float64.sub 4607182418800017408 (Float64.mul y (Float64.sub (Float64.mul x 4618441417868443648) (Float64.ofInt (hsvI x))))), z, Float64.mul z (Float64.sub 4607182418800017408 y)) := by
  unfold hsvF; rw [if_neg (by rw [h]; exact Bool.false_ne_true), if_neg (by rw [h1]; decide), if_pos h1]
theorem hsvF_2 (h1 : (hsvI x).fmod 6 = 2) : hsvF x y z = (Float64.mul z (Float64.sub 4607182418800017408 y), z, Float64.mul z (Float64.sub 4607182418800017408 (Float64.mul y (Float64.sub 4607182418800017408 (Float64.sub (Float64.mul x 4618441417868443648) (Float64.ofInt (hsvI x))))))) := by
  unfold hsvF; rw [if_neg (by rw [h]; exact Bool.false_ne_true), if_neg (by rw [h1]; decide), if_neg (by rw [h1]; decide), if_pos h1]
theorem hsvF_3 (h1 : (hsvI x).fmod 6 = 3) : hsvF x y z = (Float64.mul z (Float64.sub 4607182418800017408 y), Float64.mul z (Float64.sub 4607182418800017408 (Float64.mul y (Float64.sub (Float64.mul x 4618441417868443648) (Float64.ofInt (hsvI x))))), z) := by
  unfold hsvF; rw [if_neg (by rw [h]; exact Bool.false_ne_true), if_neg (by rw [h1]; decide), if_neg (by rw [h1]; decide), if_neg (by rw [h1]; decide), if_pos h1]
theorem hsvF_4 (h1 : (hsvI x).fmod 6 = 4) : hsvF x y z = (Float64.mul z (Float64.sub 4607182418800017408 (Float64.mul y (Float64.sub 4607182418800017408 (Float64.sub (Float64.mul x 4618441417868443648) (Float64.ofInt (hsvI x)))))), Float64.mul z (Float64.sub 4607182418800017408 y), z) := by
  unfold hsvF; rw [if_neg (by rw [h]; exact Bool.false_ne_true), if_neg (by rw [h1]; decide), if_neg (by rw [h1]; decide), if_neg (by rw [h1]; decide), if_neg (by rw [h1]; decide), if_pos h1]
theorem hsvF_5 (h1 : (hsvI x).fmod 6 = 5) : hsvF x y z = (z, Float64.mul z (Float64.sub 4607182418800017408 y), Float64.mul z (Float64.sub 4607182418800017408 (Float64.mul y (Float64.sub (Float64.mul x 4618441417868443648) (Float64.ofInt (hsvI x)))))) := by
  unfold hsvF; rw [if_neg (by rw [h]; exact Bool.false_ne_true), if_neg (by rw [h1]; decide), if_neg (by rw [h1]; decide), if_neg (by rw [h1]; decide), if_neg (by rw [h1]; decide), if_neg (by rw [h1]; decide)]
end
theorem hsvI_no {i : Int} (h0 : i.fmod 6 ≠ 0) (h1 : i.fmod 6 ≠ 1) (h2 : i.fmod 6 ≠ 2) (h3 : i.fmod 6 ≠ 3) (h4 : i.fmod 6 ≠ 4) (h5 : i.fmod 6 ≠ 5) : False := by
  have a := Int.fmod_nonneg_of_pos i (show (0 : Int) < 6 by decide)
  have b := Int.fmod_lt_of_pos i (show (0 : Int) < 6 by decide)
  generalize i.fmod 6 = k at *
  omega

noncomputable def eqMM (x y z : UInt64) : Bool := Float64.cmp (fMin x y z) (fMax x y z) == some .eq
noncomputable def rangeF (x y z : UInt64) : UInt64 := Float64.sub (fMax x y z) (fMin x y z)
/-- a part of the range: (maxc - v) / rangec -/
noncomputable def partF (x y z v : UInt64) : UInt64 := Float64.div (Float64.sub (fMax x y z) v) (rangeF x y z)
noncomputable def hueF (x y z : UInt64) : UInt64 :=
  if eqMM x y z = true then 0 else
  if (Float64.cmp x (fMax x y z) == some .eq) = true then (Float64.divmod (Float64.div (Float64.sub (partF x y z z) (partF x y z y)) 4618441417868443648) 4607182418800017408).2 else
  if (Float64.cmp y (fMax x y z) == some .eq) = true then (Float64.divmod (Float64.div (Float64.sub (Float64.add 4611686018427387904 (partF x y z x)) (partF x y z z)) 4618441417868443648) 4607182418800017408).2 else
  (Float64.divmod (Float64.div (Float64.sub (Float64.add 4616189618054758400 (partF x y z y)) (partF x y z x)) 4618441417868443648) 4607182418800017408).2
noncomputable def satF (x y z : UInt64) : UInt64 := if eqMM x y z = true then 0 else Float64.div (rangeF x y z) (fMax x y z)
noncomputable def hsv2Ok (x y z : UInt64) : Bool := eqMM x y z || (!Float64.isZero (fMax x y z) && !Float64.isZero (rangeF x y z))
noncomputable def lowF (x y z : UInt64) : Bool := Float64.cmp (Float64.div (Float64.add (fMax x y z) (fMin x y z)) 4611686018427387904) 4602678819172646912 == some .lt || Float64.cmp (Float64.div (Float64.add (fMax x y z) (fMin x y z)) 4611686018427387904) 4602678819172646912 == some .eq
noncomputable def hlsOk (x y z : UInt64) : Bool := eqMM x y z || (!Float64.isZero (rangeF x y z) && (if lowF x y z then !Float64.isZero (Float64.add (fMax x y z) (fMin x y z)) else !Float64.isZero (Float64.sub (Float64.sub 4611686018427387904 (fMax x y z)) (fMin x y z))))
section
variable {x y z : UInt64}
theorem hueF_s (h : eqMM x y z = true) : hueF x y z = 0 := by unfold hueF; rw [if_pos h]
theorem satF_s (h : eqMM x y z = true) : satF x y z = 0 := by unfold satF; rw [if_pos h]
theorem satF_n (h : eqMM x y z = false) : satF x y z = Float64.div (rangeF x y z) (fMax x y z) := by unfold satF; rw [if_neg (by rw [h]; exact Bool.false_ne_true)]
theorem hueF_r (h : eqMM x y z = false) (h1 : (Float64.cmp x (fMax x y z) == some .eq) = true) : hueF x y z = (Float64.divmod (Float64.div (Float64.sub (partF x y z z) (partF x y z y)) 4618441417868443648) 4607182418800017408).2 := by
  unfold hueF; rw [if_neg (by rw [h]; exact Bool.false_ne_true), if_pos h1]
theorem hueF_g (h : eqMM x y z = false) (h1 : (Float64.cmp x (fMax x y z) == some .eq) = false) (h2 : (Float64.cmp y (fMax x y z) == some .eq) = true) : hueF x y z = (Float64.divmod (Float64.div (Float64.sub (Float64.add 4611686018427387904 (partF x y z x)) (partF x y z z)) 4618441417868443648) 4607182418800017408).2 := by
  unfold hueF; rw [if_neg (by rw [h]; exact Bool.false_ne_true), if_neg (by rw [h1]; exact Bool.false_ne_true), if_pos h2]
theorem hueF_b (h : eqMM x y z = false) (h1 : (Float64.cmp x (fMax x y z) == some .eq) = false) (h2 : (Float64.cmp y (fMax x y z) == some .eq) = false) : hueF x y z = (Float64.divmod (Float64.div (Float64.sub (Float64.add 4616189618054758400 (partF x y z y)) (partF x y z x)) 4618441417868443648) 4607182418800017408).2 := by
  unfold hueF; rw [if_neg (by rw [h]; exact Bool.false_ne_true), if_neg (by rw [h1]; exact Bool.false_ne_true), if_neg (by rw [h2]; exact Bool.false_ne_true)]
theorem hsv2Ok_at (ok : hsv2Ok x y z = true) (h : eqMM x y z = false) : Float64.isZero (fMax x y z) = false ∧ Float64.isZero (rangeF x y z) = false := by
  unfold hsv2Ok at ok
  rw [h, Bool.false_or, Bool.and_eq_true, Bool.not_eq_true', Bool.not_eq_true'] at ok
  exact ok
theorem hlsOk_r (ok : hlsOk x y z = true) (h : eqMM x y z = false) : Float64.isZero (rangeF x y z) = false := by
  unfold hlsOk at ok
  rw [h, Bool.false_or, Bool.and_eq_true, Bool.not_eq_true'] at ok
  exact ok.1
theorem hlsOk_l (ok : hlsOk x y z = true) (h : eqMM x y z = false) (l : lowF x y z = true) : Float64.isZero (Float64.add (fMax x y z) (fMin x y z)) = false := by
  unfold hlsOk at ok
  rw [h, Bool.false_or, Bool.and_eq_true, l, if_pos rfl, Bool.not_eq_true', Bool.not_eq_true'] at ok
  exact ok.2
theorem hlsOk_h (ok : hlsOk x y z = true) (h : eqMM x y z = false) (l : lowF x y z = false) : Float64.isZero (Float64.sub (Float64.sub 4611686018427387904 (fMax x y z)) (fMin x y z)) = false := by
  unfold hlsOk at ok
  rw [h, Bool.false_or, Bool.and_eq_true, l, if_neg Bool.false_ne_true, Bool.not_eq_true', Bool.not_eq_true'] at ok
  exact ok.2
end
theorem tf {b : Bool} {P : Prop} (h : b = false) (h' : b = true) : P := absurd (h.symm.trans h') Bool.false_ne_true

/-- where a call stands: the frame, the ledger, the written part, the top -/
structure Here (n : Nat) (w : World) (mean : ExcName → Option Value) (mg mb : Str → Option Value) (dp un : Nat) (cs : Scope) (outer : List Env) (A₀ : Around) (base h₀ : Heap) (L : Addr) (m : Str → Option Value) (news : List (Addr × Obj)) (h : Heap) : Prop where
  B : Below A₀ base outer h₀
  F : Fr h₀ L h m
  X : (hd2.heap_39 w.params).In h₀
  N : News h₀ L h news
  T : Top hd2.view_39 (looseW hd2.view_39 []) mean mg mb h₀
  hk : cs.kind = .function
  hd : dp + n < recursionLimit
  hu : un + 10 * n < cLine
abbrev prog1 := PySem.Challenge.rw_sn0021_02.row.prog
section
variable {w : World} {mean : ExcName → Option Value} {mg mb : Str → Option Value} {dp un : Nat} {gd : Option (List Code)} {cn : Str} {cs : Scope} {a : Addr} {ccd : Value} {cl : List (Str × Addr)} {outer : List Env} {A₀ : Around} {base h₀ : Heap} {L : Addr} {m : Str → Option Value} {news : List (Addr × Obj)} {s : Shared} {Q E : Value → Shared → Prop}
theorem hsv_ok {x y z : UInt64} {tx ty tz : Tok} (H : Here 5 w mean mg mb dp un cs outer A₀ base h₀ L m news s.heap) (ok : hsvOk x y = true)
  (hret : ∀ D t1 t2 t3 h' tk', Fr h₀ L h' m → News h₀ L h' ((D, tup3 (hsvF x y z).1 t1 (hsvF x y z).2.1 t2 (hsvF x y z).2.2 t3) :: news) → (∀ p ∈ news, p.1 < D) → Q (.ref D) { s with heap := h', toks := tk' }) :
  wpAny (model PySem.Challenge.rw_sn0021_02.row.prog w) (ktrTop dp un gd cn cs L a ccd cl outer) (call (.ref 35) [.float x tx, .float y ty, .float z tz]) Q E s := by
  obtain ⟨B, F, X, N, T, hk, hd, hu⟩ := H
  refine wpAny_call ?_
  k_dflt cell_enter
  k_steps
  all_goals first
    | (rw [hsvF_s (by assumption)] at hret; exact hret _ _ _ _ _ _ (by assumption) (by assumption) (by assumption))
    | (rw [hsvF_0 (by assumption) (by assumption)] at hret; exact hret _ _ _ _ _ _ (by assumption) (by assumption) (by assumption))
    | (rw [hsvF_1 (by assumption) (by assumption)] at hret; exact hret _ _ _ _ _ _ (by assumption) (by assumption) (by assumption))
    | (rw [hsvF_2 (by assumption) (by assumption)] at hret; exact hret _ _ _ _ _ _ (by assumption) (by assumption) (by assumption))
    | (rw [hsvF_3 (by assumption) (by assumption)] at hret; exact hret _ _ _ _ _ _ (by assumption) (by assumption) (by assumption))
    | (rw [hsvF_4 (by assumption) (by assumption)] at hret; exact hret _ _ _ _ _ _ (by assumption) (by assumption) (by assumption))
    | (rw [hsvF_5 (by assumption) (by assumption)] at hret; exact hret _ _ _ _ _ _ (by assumption) (by assumption) (by assumption))
    | exact tf (hsvOk_at ok (by assumption)).1 (by assumption)
    | exact tf (hsvOk_at ok (by assumption)).2.1 (by assumption)
    | exact absurd (hsvOk_at ok (by assumption)).2.2 (Nat.not_lt.mpr (by assumption))
    | exact (hsvI_no (by assumption) (by assumption) (by assumption) (by assumption) (by assumption) (by assumption)).elim
theorem hsv2_ok {x y z : UInt64} {tx ty tz : Tok} (H : Here 5 w mean mg mb dp un cs outer A₀ base h₀ L m news s.heap) (ok : hsv2Ok x y z = true)
  (hret : ∀ D t1 t2 t3 h' tk', Fr h₀ L h' m → News h₀ L h' ((D, tup3 (hueF x y z) t1 (satF x y z) t2 (fMax x y z) t3) :: news) → (∀ p ∈ news, p.1 < D) → Q (.ref D) { s with heap := h', toks := tk' }) :
  wpAny (model PySem.Challenge.rw_sn0021_02.row.prog w) (ktrTop dp un gd cn cs L a ccd cl outer) (call (.ref 28) [.float x tx, .float y ty, .float z tz]) Q E s := by
  obtain ⟨B, F, X, N, T, hk, hd, hu⟩ := H
  refine wpAny_call ?_
  k_dflt cell_enter
  k_steps
  all_goals first
    | (rw [hueF_s (by assumption), satF_s (by assumption)] at hret; exact hret _ _ _ _ _ _ (by assumption) (by assumption) (by assumption))
    | (rw [hueF_r (by assumption) (by assumption), satF_n (by assumption)] at hret; exact hret _ _ _ _ _ _ (by assumption) (by assumption) (by assumption))
    | (rw [hueF_g (by assumption) (by assumption) (by assumption), satF_n (by assumption)] at hret; exact hret _ _ _ _ _ _ (by assumption) (by assumption) (by assumption))
    | (rw [hueF_b (by assumption) (by assumption) (by assumption), satF_n (by assumption)] at hret; exact hret _ _ _ _ _ _ (by assumption) (by assumption) (by assumption))
    | exact tf (hsv2Ok_at ok (by assumption)).1 (by assumption)
    | exact tf (hsv2Ok_at ok (by assumption)).2 (by assumption)
theorem hls_ok {x y z : UInt64} {tx ty tz : Tok} (H : Here 5 w mean mg mb dp un cs outer A₀ base h₀ L m news s.heap) (ok : hlsOk x y z = true)
  (hret : ∀ D t1 g t2 b t3 h' tk', Fr h₀ L h' m → News h₀ L h' ((D, tup3 (hueF x y z) t1 g t2 b t3) :: news) → (∀ p ∈ news, p.1 < D) → Q (.ref D) { s with heap := h', toks := tk' }) :
  wpAny (model PySem.Challenge.rw_sn0021_02.row.prog w) (ktrTop dp un gd cn cs L a ccd cl outer) (call (.ref 21) [.float x tx, .float y ty, .float z tz]) Q E s := by
  obtain ⟨B, F, X, N, T, hk, hd, hu⟩ := H
  refine wpAny_call ?_
  k_dflt cell_enter
  k_steps
  all_goals first
    | (rw [hueF_s (by assumption)] at hret; exact hret _ _ _ _ _ _ _ _ (by assumption) (by assumption) (by assumption))
    | (rw [hueF_r (by assumption) (by assumption)] at hret; exact hret _ _ _ _ _ _ _ _ (by assumption) (by assumption) (by assumption))
    | (rw [hueF_g (by assumption) (by assumption) (by assumption)] at hret; exact hret _ _ _ _ _ _ _ _ (by assumption) (by assumption) (by assumption))
    | (rw [hueF_b (by assumption) (by assumption) (by assumption)] at hret; exact hret _ _ _ _ _ _ _ _ (by assumption) (by assumption) (by assumption))
    | exact tf (hlsOk_r ok (by assumption)) (by assumption)
    | exact tf (hlsOk_l ok (by assumption) (by assumption)) (by assumption)
    | exact tf (hlsOk_h ok (by assumption) (by assumption)) (by assumption)
end
end Mine2
namespace Mine2
noncomputable def apOf (n : Nat) (acc : List UInt8) : List UInt8 := if n = 0 then acc else apOf (n / 16) (UInt8.ofNat (65 + n % 16) :: acc)
theorem apOf_zero (acc : List UInt8) : apOf 0 acc = acc := by rw [apOf]; rfl
theorem apOf_pos {n : Nat} (h : n ≠ 0) (acc : List UInt8) : apOf n acc = apOf (n / 16) (UInt8.ofNat (65 + n % 16) :: acc) := by rw [apOf, if_neg h]
theorem apOf_ge : ∀ (k n : Nat) (acc : List UInt8), n < k → acc.length ≤ (apOf n acc).length := by
  intro k
  induction k with
  | zero => intro n acc h; omega
  | succ k ih =>
    intro n acc h
    by_cases h0 : n = 0
    · rw [h0, apOf_zero]; exact Nat.le_refl _
    · rw [apOf_pos h0]
      have := ih (n / 16) (UInt8.ofNat (65 + n % 16) :: acc) (by omega)
      rw [List.length_cons] at this
      omega
theorem apOf_le (n : Nat) (h : n < 1048576) : (apOf n []).length ≤ 5 := by
  by_cases h0 : n = 0
  · rw [h0, apOf_zero]; decide
  rw [apOf_pos h0]
  by_cases h1 : n / 16 = 0
  · rw [h1, apOf_zero]; simp
  rw [apOf_pos h1]
  by_cases h2 : n / 16 / 16 = 0
  · rw [h2, apOf_zero]; simp
  rw [apOf_pos h2]
  by_cases h3 : n / 16 / 16 / 16 = 0
  · rw [h3, apOf_zero]; simp
  rw [apOf_pos h3]
  by_cases h4 : n / 16 / 16 / 16 / 16 = 0
  · rw [h4, apOf_zero]; simp
  rw [apOf_pos h4]
  rw [show n / 16 / 16 / 16 / 16 / 16 = 0 by omega, apOf_zero]; simp
theorem ap_pick : ∀ j : Fin 16, KBy.picked #[65, 66, 67, 68, 69, 70, 71, 72, 73, 74, 75, 76, 77, 78, 79, 80] (some (j.val : Int)) (some ((j.val : Int) + 1)) = #[UInt8.ofNat (65 + j.val)] := by decide +kernel
theorem ap_step {n : Int} {v : Array UInt8} (h0 : 0 ≤ n) (h : n ≠ 0) : apOf (n.fdiv 16).toNat (KBy.picked #[65, 66, 67, 68, 69, 70, 71, 72, 73, 74, 75, 76, 77, 78, 79, 80] (some (n.fmod 16)) (some (n.fmod 16 + 1)) ++ v).toList = apOf n.toNat v.toList := by
  obtain ⟨k, rfl⟩ := Int.eq_ofNat_of_zero_le h0
  have e1 : (k : Int).fdiv 16 = ((k / 16 : Nat) : Int) := by rw [Int.fdiv_eq_ediv_of_nonneg _ (by decide)]; omega
  have e2 : (k : Int).fmod 16 = ((k % 16 : Nat) : Int) := by rw [Int.fmod_eq_emod_of_nonneg _ (by decide)]; omega
  have p := ap_pick ⟨k % 16, Nat.mod_lt _ (by decide)⟩
  dsimp only at p
  rw [e1, e2, p, Int.toNat_natCast, Int.toNat_natCast, apOf_pos (n := k) (by intro e; exact h (by rw [e]; rfl))]
  rw [Array.toList_append]; rfl

section
variable {w : World} {mean : ExcName → Option Value} {mg mb : Str → Option Value} {dp un : Nat} {gd : Option (List Code)} {cn : Str} {cs : Scope} {a : Addr} {ccd : Value} {cl : List (Str × Addr)} {outer : List Env} {A₀ : Around} {base h₀ : Heap} {L : Addr} {m : Str → Option Value} {news : List (Addr × Obj)} {s : Shared} {Q E : Value → Shared → Prop}
theorem int2ap_ok {x : Int} {tx : Tok} (H : Here 5 w mean mg mb dp un cs outer A₀ base h₀ L m news s.heap) (hx : 0 ≤ x) (hx2 : x < 1048576)
  (hret : ∀ b t h' tk', b.toList = apOf x.toNat [] → Fr h₀ L h' m → News h₀ L h' news → Q (.bytes b t) { s with heap := h', toks := tk' }) :
  wpAny (model PySem.Challenge.rw_sn0021_02.row.prog w) (ktrTop dp un gd cn cs L a ccd cl outer) (call (.ref 49) [.int x tx]) Q E s := by
  obtain ⟨B, F, X, N, T, hk, hd, hu⟩ := H
  refine wpAny_call ?_
  k_dflt cell_enter
  repeat' ((fail_if_success (with_reducible show wpAny _ _ (exec (Stmt.While _ _ _ _) _) _ _ _)); first | (k_unfold; (try dsimp only)) | (k_end; wrow_close) | walk1 | (dsimp only; walk1) | (leave1; walk_say "STEP leave1"; try dsimp only) | fail "no step")
  simp only [if_neg (show ¬ x < 0 by omega)] at *
  rename Fr _ _ _ _ => lF'
  rename News _ _ _ _ => lN'
  with_unfolding_all refine' ksw_while (σ := Int × Tok × Array UInt8 × Tok) (fun _ => news) (fun c => [(Str.ofString "num", Value.int c.1 c.2.1), (Str.ofString "val", Value.bytes c.2.2.1 c.2.2.2)]) (fun _ => True) [Str.ofString "mod"] (fun c => 0 ≤ c.1 ∧ c.1 < 1048576 ∧ apOf c.1.toNat c.2.2.1.toList = apOf x.toNat []) (fun c => c.1.toNat) (x, _, #[], _) lF' lN' ?kf ?kk ?kp ?_
  case kf => exact True.intro
  case kk => kst_all
  case kp => exact ⟨hx, hx2, rfl⟩
  clear lF' lN'
  intro c kU kH kTk kFacts kInv kFr kNews
  obtain ⟨n, tn, v, tv⟩ := c
  dsimp only [kstB] at kFr
  dsimp only at kNews kFacts kInv
  obtain ⟨i1, i2, i3⟩ := kInv
  have hl : v.size ≤ 5 := by
    have e1 := apOf_ge _ n.toNat v.toList (Nat.lt_succ_self _)
    rw [i3] at e1
    have e2 := apOf_le x.toNat (by omega)
    have e3 : v.toList.length = v.size := Array.length_toList
    omega
  (try k_fold)
  k_with "subscriptTail" => ((with_reducible show wpAny _ _ (subscriptTail _ (Expr.Slice _ _ none _) (Value.bytes _ _) (Value.ref _)) _ _ _); (with_reducible rename Fr _ _ _ _ => F'); (with_reducible rename News _ _ _ _ => N'); (refine KBc.slice_K (s := ⟨_, _, _, _, _⟩) F' N' rfl (by constructor) (by constructor) (by decide) ?_); intro _ _ _ _ _ kbcK)
  k_with "binaryOp Add bytes bytes" => (refine KBy.add_bytes (Nat.le_trans (Nat.add_le_add (KBc.size_picked_le _ _ _) hl) (by decide)) ?_; intro _ _)
  k_steps
  · rename News _ _ _ _ => nE'
    refine ksw_end ⟨_, _, _, _⟩ (by assumption) nE' (by kst_in) True.intro (by kst_all) (by ksw_same) ⟨?_, ?_, ?_⟩ ?_
    · show 0 ≤ n.fdiv 16
      exact Int.fdiv_nonneg i1 (by decide)
    · show n.fdiv 16 < 1048576
      rw [Int.fdiv_eq_ediv_of_nonneg _ (by decide)]; omega
    · exact (ap_step i1 (by assumption)).trans i3
    · show (n.fdiv 16).toNat < n.toNat
      rw [Int.fdiv_eq_ediv_of_nonneg _ (by decide)]; omega
  · rename n = 0 => h0
    rw [h0] at i3
    exact hret _ _ _ _ ((apOf_zero _).symm.trans i3) (by assumption) (by assumption)
end
end Mine2
namespace Mine2
theorem kc_more {cm : Str → Option Value} {n₁ : Str} {c₁ : Addr} {cs : List (Str × Addr)} {cells : List (Addr × Obj)} (x : CellsAre cm ((n₁, c₁) :: cs) cells) : ∃ o₁ r, cells = (c₁, o₁) :: r ∧ o₁.data = .cell (cm n₁) ∧ CellsAre cm cs r := by
  cases x with | cons h r => exact ⟨_, _, rfl, h, r⟩
theorem kc_last {cm : Str → Option Value} {cells : List (Addr × Obj)} (x : CellsAre cm [] cells) : cells = [] := by
  cases x; rfl
noncomputable def cornX (h : UInt64) : UInt64 := Float64.add (Float64.mul h (Float64.ofInt 6)) 4602678819172646912
noncomputable def cornF (h : UInt64) : Int := (toInt Float64.truncOf (cornX h)).fmod 6
section
variable {w : World} {mean : ExcName → Option Value} {mg mb : Str → Option Value} {dp un : Nat} {gd : Option (List Code)} {cn : Str} {cs : Scope} {a : Addr} {ccd : Value} {cl : List (Str × Addr)} {outer : List Env} {A₀ : Around} {base h₀ : Heap} {L : Addr} {m : Str → Option Value} {news : List (Addr × Obj)} {s : Shared} {Q E : Value → Shared → Prop}
theorem corner_ok {l : Addr} {x y z : UInt64} {tx ty tz : Tok} (H : Here 5 w mean mg mb dp un cs outer A₀ base h₀ L m news s.heap) (hl : (l, ({ cls := .type "tuple", data := .seq #[Value.float x tx, Value.float y ty, Value.float z tz] } : Obj)) ∈ news) (hf1 : Float64.isNaN (cornX x) = false) (hf2 : Float64.isInf (cornX x) = false)
  (hret : ∀ t h' tk', Fr h₀ L h' m → News h₀ L h' news → Q (.int (cornF x) t) { s with heap := h', toks := tk' }) :
  wpAny (model PySem.Challenge.rw_sn0021_02.row.prog w) (ktrTop dp un gd cn cs L a ccd cl outer) (call (.ref 56) [.ref l]) Q E s := by
  obtain ⟨B, F, X, N, T, hk, hd, hu⟩ := H
  unfold cornX at hf1 hf2
  refine wpAny_call ?_
  k_dflt cell_enter
  k_steps
  exact hret _ _ _ (by assumption) (by assumption)
end
end Mine2
namespace Mine2
/-- the end of a turn of a for whose target is the cell c -/
inductive EndC (c : Addr) (h₀ : Heap) (L : Addr) (J : Tok → (Str → Option Value) → List (Addr × Obj) → Prop) (own : List (Addr × Obj)) (s₁ s₂ : Shared) : Prop
  | mk (h' : Heap) (tk : Tok) (m' : Str → Option Value) (nw : List (Addr × Obj)) (oc : Obj) (v : Option Value) (e : s₂ = { s₁ with heap := h', toks := tk }) (F : Fr h₀ L h' m') (N : News h₀ L h' (((c, oc) :: nw) ++ own)) (d : oc.data = Data.cell v) (j : J tk m' nw)
noncomputable def PostC (c : Addr) (h₀ : Heap) (L : Addr) (J : Tok → (Str → Option Value) → List (Addr × Obj) → Prop) (own : List (Addr × Obj)) (s₁ : Shared) (Q : Flow → Shared → Prop) : Flow → Shared → Prop
  | .ret v, s₂ => Q (.ret v) s₂
  | .brk, s₂ => Q .next s₂
  | .next, s₂ => EndC c h₀ L J own s₁ s₂
  | .cont, s₂ => EndC c h₀ L J own s₁ s₂
inductive IterCInv (s : Shared) (h₀ : Heap) (L l c : Addr) (n : Nat) (J : Nat → Tok → (Str → Option Value) → List (Addr × Obj) → Prop) (k : Nat) (s' : Shared) : Prop
  | mk (h : Heap) (tk : Tok) (m : Str → Option Value) (nw : List (Addr × Obj)) (oc : Obj) (v : Option Value) (i : Nat) (o : Obj) (e : s' = { s with heap := h, toks := tk }) (it : h.IsListIter s.heap.objs.size l i) (g : h.get? s.heap.objs.size = some o) (F : Fr h₀ L h m) (N : News h₀ L h ((c, oc) :: nw)) (d : oc.data = Data.cell v) (j : J i tk m nw) (hi : i ≤ n) (hk : k = n + 1 - i)
inductive IterRInv (s : Shared) (h₀ : Heap) (L c : Addr) (a₀ : Int) (n : Nat) (J : Nat → Tok → (Str → Option Value) → List (Addr × Obj) → Prop) (k : Nat) (s' : Shared) : Prop
  | mk (h : Heap) (tk : Tok) (m : Str → Option Value) (nw : List (Addr × Obj)) (oc : Obj) (v : Option Value) (i : Nat) (o : Obj) (e : s' = { s with heap := h, toks := tk }) (it : IsRangeIter h s.heap.objs.size (a₀ + (i : Nat) * 1) ((n : Int) - (i : Nat)) 1) (g : h.get? s.heap.objs.size = some o) (F : Fr h₀ L h m) (N : News h₀ L h ((c, oc) :: nw)) (d : oc.data = Data.cell v) (j : J i tk m nw) (hi : i ≤ n) (hk : k = n + 1 - i)
section
variable {prog : Program} {w : World} {A : Around} {E : Value → Shared → Prop} {s : Shared} {cn : Str} {cs : Scope} {L a : Addr} {ccd : Value} {cl : List (Str × Addr)} {h₀ : Heap} {x : Str} {px : Pos} {body : List Stmt} {Q : Flow → Shared → Prop}
/-- a for over a list of the ledger whose target is a cell -/
theorem iterC {l c : Addr} {items : List Value} {nn : Nat} {m₀ : Str → Option Value} {news : List (Addr × Obj)} {oc₀ : Obj} {v₀ : Option Value} (J : Nat → Tok → (Str → Option Value) → List (Addr × Obj) → Prop)
    (hh : A.handled = none) (hc : cl.lookup x = some c) (hk : cs.kind = .function) (hx : (envX cn cs L a ccd cl).kindOf x = some .cell)
    (F : Fr h₀ L s.heap m₀) (N : News h₀ L s.heap ((c, oc₀) :: news)) (hd₀ : oc₀.data = Data.cell v₀) (hj : J 0 s.toks m₀ news)
    (mono : ∀ i t t' m nw, t ≤ t' → J i t m nw → J i t' m nw) (hold : ∀ i t m nw, J i t m nw → (l, listOf items.toArray nn) ∈ nw ∧ ∀ p ∈ nw, p.1 ≠ s.heap.objs.size ∧ p.1 ≠ c)
    (turn : ∀ i v t h o oc m nw, items[i]? = some v → J i t m nw → oc.data = Data.cell (some v) → c < s.heap.objs.size → Fr h₀ L h m → News h₀ L h (((c, oc) :: nw) ++ [(s.heap.objs.size, o)]) →
      wpAny (model prog w) A (execs body (envX cn cs L a ccd cl)) (PostC c h₀ L (J (i + 1)) [(s.heap.objs.size, o)] { s with heap := h, toks := t } Q) E { s with heap := h, toks := t })
    (done : ∀ t h m nw oc v, J items.length t m nw → oc.data = Data.cell v → Fr h₀ L h m → News h₀ L h ((c, oc) :: nw) → Q .next { s with heap := h, toks := t })
    (hE : PassesOwn (model prog w) A (envX cn cs L a ccd cl) E) :
    wpAny (model prog w) A (pyIter (.ref l)) (fun it s₂ => codeAny (model prog w) A (.forLoop (.Name x px) it body [] (envX cn cs L a ccd cl)) (fun r s' => match r with | .ok f => Q f s' | .error e => cameBackBy (model prog w) A (envX cn cs L a ccd cl) E e s') s₂) E s := by
  have hls : s.heap.IsList l items.toArray := News.isList N (.tail _ (hold 0 _ _ _ hj).1)
  obtain ⟨ol, hol, _⟩ := id hls
  have hlI : l < s.heap.objs.size := Heap.lt_size hol
  have hLI : L < s.heap.objs.size := F.ns.lt
  have hcI : c < s.heap.objs.size := Heap.lt_size (N _ (.head _)).1
  have hfI : h₀.get? s.heap.objs.size = none := next_is_new F
  have W := Walks.list (prog := prog) (w := w) hh s.heap.objs.size l (Nat.ne_of_lt hlI) items.toArray
  rw [List.size_toArray] at W
  refine wpAny_pyIter_list hls ?_
  refine codeAny_forLoop (IterCInv s h₀ L l c items.length J) ?_ (items.length + 1)
    ⟨_, _, m₀, news, oc₀, v₀, 0, _, rfl, ⟨_, Heap.get?_push_size _ rfl, rfl, rfl⟩, Heap.get?_push_size _ rfl, F.push _, fun p hp => ⟨Heap.get?_push_of_some _ (N p hp).1, (N p hp).2⟩, hd₀, hj, Nat.zero_le _, rfl⟩
  rintro k s' ⟨h, tk, m, nw, oc, vc, i, o, rfl, hit, ho, Fh, Nh, hd, hJ, hi, rfl⟩
  obtain ⟨hmem, hadr⟩ := hold _ _ _ _ hJ
  have hlt : ∀ p ∈ (c, oc) :: nw, p.1 ≠ s.heap.objs.size := fun p hp => by
    rcases List.mem_cons.mp hp with rfl | hp
    · exact Nat.ne_of_lt hcI
    · exact (hadr p hp).1
  have hnc : ∀ p ∈ nw, p.1 ≠ c := fun p hp => (hadr p hp).2
  have hlh : h.IsList l items.toArray := News.isList Nh (.tail _ hmem)
  have up : ∀ h₁ : Heap, (∀ b ob, b ∉ [s.heap.objs.size] → h.get? b = some ob → h₁.get? b = some ob) → Fr h₀ L h₁ m ∧ News h₀ L h₁ ((c, oc) :: nw) := fun h₁ hk₁ => by
    have away : ∀ b, b ≠ s.heap.objs.size → b ∉ [s.heap.objs.size] := fun b hb hm => hb (List.mem_singleton.mp hm)
    refine ⟨⟨Fh.ns.at' fun ob e => hk₁ _ ob (away _ (Nat.ne_of_lt hLI)) e, fun b ob e => hk₁ b ob (fun hm => ?_) (Fh.keep b ob e), Fh.above⟩, fun p hp => ⟨hk₁ _ _ (away _ (hlt p hp)) (Nh p hp).1, (Nh p hp).2⟩⟩
    rw [List.mem_singleton.mp hm, hfI] at e
    cases e
  by_cases hci : i < items.length
  · refine wpAny_with_toks (n := tk) (Nat.le_refl _) (W.item i _ _ _ hci ⟨hit, hlh⟩ fun v h₁ tk₁ hv hst hk₁ htk => ?_)
    obtain ⟨F₁, N₁⟩ := up h₁ hk₁
    have hneL : s.heap.objs.size ≠ L := Nat.ne_of_gt hLI
    obtain ⟨o₁, ho₁, hcl⟩ := id hst.1
    have N₂ : News h₀ L h₁ ((c, oc) :: (nw ++ [(s.heap.objs.size, o₁)])) := fun p hp => by
      rcases List.mem_cons.mp hp with rfl | hp
      · exact N₁ _ (.head _)
      rcases List.mem_append.mp hp with hp | hp
      · exact N₁ p (.tail _ hp)
      · rw [List.mem_singleton.mp hp]; exact ⟨ho₁, hneL, hfI⟩
    refine wpAny_assign_Name (storeX_C F₁ N₂ hc (UpdF.head fun p hp => ?_) hd (fun h₂ o' F₂ N₃ d' => ?_) hk hx)
    · rcases List.mem_append.mp hp with hp | hp
      · exact hnc p hp
      · rw [List.mem_singleton.mp hp]; exact Nat.ne_of_gt hcI
    refine wpAny_mono (wpAny_passesOwn hE (turn i v _ h₂ o₁ o' m nw (by simpa using hv) (mono _ _ _ _ _ htk hJ) d' hcI F₂ N₃)) (fun f s₃ q => ?_) fun _ _ y => y
    have fin : EndC c h₀ L (J (i + 1)) [(s.heap.objs.size, o₁)] { s with heap := h₂, toks := tk₁ } s₃ → ∃ k', k' < items.length + 1 - i ∧ IterCInv s h₀ L l c items.length J k' s₃ := by
      rintro ⟨h₄, t₄, m₄, nw₄, oc₄, v₄, rfl, F₄, N₄, d₄, J₄⟩
      have hI := (N₄ (s.heap.objs.size, o₁) (List.mem_append_right _ (List.mem_singleton.mpr rfl))).1
      exact ⟨items.length + 1 - (i + 1), by omega, h₄, t₄, m₄, nw₄, oc₄, v₄, i + 1, o₁, rfl, ⟨_, hI, hcl⟩, hI, F₄, fun p hp => N₄ p (List.mem_append_left _ hp), d₄, J₄, hci, rfl⟩
    cases f with
    | ret r => exact q
    | brk => exact q
    | next => exact fin q
    | cont => exact fin q
  · have hin : i = items.length := by omega
    subst hin
    refine wpAny_with_toks (n := tk) (Nat.le_refl _) (W.done _ _ _ ⟨hit, hlh⟩ fun h₁ tk₁ hk₁ htk => wpAny_execs_nil ?_)
    obtain ⟨F₁, N₁⟩ := up h₁ hk₁
    exact done tk₁ h₁ m nw oc vc (mono _ _ _ _ _ htk hJ) hd F₁ N₁
/-- a for over a range whose target is a cell -/
theorem iterCR {r c : Addr} {a₀ b₀ : Int} {t₀ u₀ w₀ : Tok} {n : Nat} {m₀ : Str → Option Value} {news : List (Addr × Obj)} {oc₀ : Obj} {v₀ : Option Value} (J : Nat → Tok → (Str → Option Value) → List (Addr × Obj) → Prop)
    (hh : A.handled = none) (hr : IsRange s.heap r a₀ b₀ 1 t₀ u₀ w₀) (hsmall : Builtin.Range.small a₀ b₀ 1 = true) (hn : Builtin.Range.rangeSize a₀ b₀ 1 = (n : Int)) (hc : cl.lookup x = some c) (hk : cs.kind = .function) (hx : (envX cn cs L a ccd cl).kindOf x = some .cell)
    (F : Fr h₀ L s.heap m₀) (N : News h₀ L s.heap ((c, oc₀) :: news)) (hd₀ : oc₀.data = Data.cell v₀) (hj : J 0 s.toks m₀ news)
    (mono : ∀ i t t' m nw, t ≤ t' → J i t m nw → J i t' m nw) (hold : ∀ i t m nw, J i t m nw → ∀ p ∈ nw, p.1 ≠ s.heap.objs.size ∧ p.1 ≠ c)
    (turn : ∀ (i : Nat) u t h o oc m nw, i < n → J i t m nw → oc.data = Data.cell (some (.int (a₀ + (i : Int)) u)) → c < s.heap.objs.size → Fr h₀ L h m → News h₀ L h (((c, oc) :: nw) ++ [(s.heap.objs.size, o)]) →
      wpAny (model prog w) A (execs body (envX cn cs L a ccd cl)) (PostC c h₀ L (J (i + 1)) [(s.heap.objs.size, o)] { s with heap := h, toks := t } Q) E { s with heap := h, toks := t })
    (done : ∀ t h m nw oc v, J n t m nw → oc.data = Data.cell v → Fr h₀ L h m → News h₀ L h ((c, oc) :: nw) → Q .next { s with heap := h, toks := t })
    (hE : PassesOwn (model prog w) A (envX cn cs L a ccd cl) E) :
    wpAny (model prog w) A (pyIter (.ref r)) (fun it s₂ => codeAny (model prog w) A (.forLoop (.Name x px) it body [] (envX cn cs L a ccd cl)) (fun r s' => match r with | .ok f => Q f s' | .error e => cameBackBy (model prog w) A (envX cn cs L a ccd cl) E e s') s₂) E s := by
  have hLI : L < s.heap.objs.size := F.ns.lt
  have hcI : c < s.heap.objs.size := Heap.lt_size (N _ (.head _)).1
  have hfI : h₀.get? s.heap.objs.size = none := next_is_new F
  have W : Walks prog w A s.heap.objs.size [s.heap.objs.size] [s.heap.objs.size] n (fun i v => i < n ∧ ∃ t, v = .int (a₀ + i * 1) t)
      (fun i h => IsRangeIter h s.heap.objs.size (a₀ + (i : Nat) * 1) ((n : Int) - (i : Nat)) 1) := (Walks.range hh _ a₀ 1 n).bound
  refine wpAny_pyIter_range hr hsmall ?_
  refine codeAny_forLoop (IterRInv s h₀ L c a₀ n J) ?_ (n + 1)
    ⟨_, _, m₀, news, oc₀, v₀, 0, _, rfl, (by show IsRangeIter _ _ _ _ _; rw [hn]; simpa using Heap.get?_push_size _ rfl), Heap.get?_push_size _ rfl, F.push _, fun p hp => ⟨Heap.get?_push_of_some _ (N p hp).1, (N p hp).2⟩, hd₀, hj, Nat.zero_le _, rfl⟩
  rintro k s' ⟨h, tk, m, nw, oc, vc, i, o, rfl, hit, ho, Fh, Nh, hd, hJ, hi, rfl⟩
  have hadr := hold _ _ _ _ hJ
  have hlt : ∀ p ∈ (c, oc) :: nw, p.1 ≠ s.heap.objs.size := fun p hp => by
    rcases List.mem_cons.mp hp with rfl | hp
    · exact Nat.ne_of_lt hcI
    · exact (hadr p hp).1
  have hnc : ∀ p ∈ nw, p.1 ≠ c := fun p hp => (hadr p hp).2
  have up : ∀ h₁ : Heap, (∀ b ob, b ∉ [s.heap.objs.size] → h.get? b = some ob → h₁.get? b = some ob) → Fr h₀ L h₁ m ∧ News h₀ L h₁ ((c, oc) :: nw) := fun h₁ hk₁ => by
    have away : ∀ b, b ≠ s.heap.objs.size → b ∉ [s.heap.objs.size] := fun b hb hm => hb (List.mem_singleton.mp hm)
    refine ⟨⟨Fh.ns.at' fun ob e => hk₁ _ ob (away _ (Nat.ne_of_lt hLI)) e, fun b ob e => hk₁ b ob (fun hm => ?_) (Fh.keep b ob e), Fh.above⟩, fun p hp => ⟨hk₁ _ _ (away _ (hlt p hp)) (Nh p hp).1, (Nh p hp).2⟩⟩
    rw [List.mem_singleton.mp hm, hfI] at e
    cases e
  by_cases hci : i < n
  · refine wpAny_with_toks (n := tk) (Nat.le_refl _) (W.item i _ _ _ hci hit fun v h₁ tk₁ hv hst hk₁ htk => ?_)
    obtain ⟨F₁, N₁⟩ := up h₁ hk₁
    have hneL : s.heap.objs.size ≠ L := Nat.ne_of_gt hLI
    obtain ⟨o₁, ho₁⟩ : ∃ o₁, h₁.get? s.heap.objs.size = some o₁ := ⟨_, hst⟩
    obtain ⟨hin', u, rfl⟩ := hv
    have N₂ : News h₀ L h₁ ((c, oc) :: (nw ++ [(s.heap.objs.size, o₁)])) := fun p hp => by
      rcases List.mem_cons.mp hp with rfl | hp
      · exact N₁ _ (.head _)
      rcases List.mem_append.mp hp with hp | hp
      · exact N₁ p (.tail _ hp)
      · rw [List.mem_singleton.mp hp]; exact ⟨ho₁, hneL, hfI⟩
    refine wpAny_assign_Name (storeX_C F₁ N₂ hc (UpdF.head fun p hp => ?_) hd (fun h₂ o' F₂ N₃ d' => ?_) hk hx)
    · rcases List.mem_append.mp hp with hp | hp
      · exact hnc p hp
      · rw [List.mem_singleton.mp hp]; exact Nat.ne_of_gt hcI
    refine wpAny_mono (wpAny_passesOwn hE (turn i u _ h₂ o₁ o' m nw hci (mono _ _ _ _ _ htk hJ) (by rw [d', Int.mul_one]) hcI F₂ N₃)) (fun f s₃ q => ?_) fun _ _ y => y
    have fin : EndC c h₀ L (J (i + 1)) [(s.heap.objs.size, o₁)] { s with heap := h₂, toks := tk₁ } s₃ → ∃ k', k' < n + 1 - i ∧ IterRInv s h₀ L c a₀ n J k' s₃ := by
      rintro ⟨h₄, t₄, m₄, nw₄, oc₄, v₄, rfl, F₄, N₄, d₄, J₄⟩
      have hI := (N₄ (s.heap.objs.size, o₁) (List.mem_append_right _ (List.mem_singleton.mpr rfl))).1
      exact ⟨n + 1 - (i + 1), by omega, h₄, t₄, m₄, nw₄, oc₄, v₄, i + 1, o₁, rfl, (hI.trans (ho₁.symm.trans hst)), hI, F₄, fun p hp => N₄ p (List.mem_append_left _ hp), d₄, J₄, hci, rfl⟩
    cases f with
    | ret r => exact q
    | brk => exact q
    | next => exact fin q
    | cont => exact fin q
  · have hin : i = n := by omega
    subst hin
    refine wpAny_with_toks (n := tk) (Nat.le_refl _) (W.done _ _ _ hit fun h₁ tk₁ hk₁ htk => wpAny_execs_nil ?_)
    obtain ⟨F₁, N₁⟩ := up h₁ hk₁
    exact done tk₁ h₁ m nw oc vc (mono _ _ _ _ _ htk hJ) hd F₁ N₁
end
section
variable {prog : Program} {w : World} {A : Around} {E : Value → Shared → Prop} {s : Shared} {env : Env} {x : Str} {body : List Stmt} {Q : Flow → Shared → Prop}
theorem forT {px pos : Pos} {iter : Expr}
    (h : wpAny (model prog w) A (eval iter env) (fun xv s₁ => wpAny (model prog w) A (pyIter xv) (fun it s₂ => codeAny (model prog w) A (.forLoop (.Name x px) it body [] env) (fun r s' => match r with | .ok f => Q f s' | .error e => cameBackBy (model prog w) A env E e s') s₂) E s₁) E s)
    (hs : ∀ x, foldedSetIterable iter env x = pure x) : wpAny (model prog w) A (exec (.For (.Name x px) iter body [] pos) env) Q E s := wpAny_For h hs
end
end Mine2
namespace Mine2
local macro_rules | `(tactic| kcf_m) => `(tactic| first | assumption | exact List.Mem.head _ | (refine in_r ?_; kcf_m) | (refine List.Mem.tail _ ?_; kcf_m) | (refine in_l ?_; kcf_m))
local macro_rules | `(tactic| kcf_all) => `(tactic| first | exact sub_nil | exact fun _ hp => hp | (refine sub_move0 ?_; kcf_all) | (refine sub_move1 ?_; kcf_all) | (refine sub_move2 ?_; kcf_all) | (refine sub_move3 ?_; kcf_all) | (refine sub_keep ?_; kcf_all) | (refine sub_cons ?_ ?_; (focus kcf_m); kcf_all) | (refine sub_app ?_ ?_; (focus kcf_all); kcf_all) | (intro p hp; kcf_m))
theorem words5n : True := by
  k_with_none
  k_with "st" => (repeat' ((fail_if_success (with_reducible show wpAny _ _ (pyIter _) _ _ _)); (fail_if_success (with_reducible show InvEndN _ _ _ _ _ _ _)); (fail_if_success (with_reducible show KswEnd _ _ _ _ _ _ _ _ _ _ _ _)); (fail_if_success (with_reducible show wpAny _ _ (call (Value.builtin "list.append") _) _ _ _)); (fail_if_success (with_reducible show wpAny _ _ (call (Value.ref _) _) _ _ _)); (fail_if_success (with_reducible show wpAny _ _ (exec (Stmt.For _ _ _ _ _) _) _ _ _)); (fail_if_success (with_reducible show wpAny _ _ (exec (Stmt.While _ _ _ _) _) _ _ _)); first | (k_unfold; (try dsimp only)) | (k_end; wrow_close) | walk1 | (dsimp only; walk1) | (leave1; walk_say "STEP leave1"; try dsimp only) | fail "no step"))
  k_with "sx" => (repeat' ((fail_if_success (with_reducible show wpAny _ _ (pyIter _) _ _ _)); (fail_if_success (with_reducible show wpAny _ _ (execs (_ :: _) _) _ _ _)); (fail_if_success (with_reducible show wpAny _ _ (call (Value.builtin "list.append") _) _ _ _)); (fail_if_success (with_reducible show wpAny _ _ (call (Value.ref _) _) _ _ _)); (fail_if_success (with_reducible show wpAny _ _ (exec (Stmt.For _ _ _ _ _) _) _ _ _)); (fail_if_success (with_reducible show wpAny _ _ (exec (Stmt.While _ _ _ _) _) _ _ _)); first | (k_unfold; (try dsimp only)) | (k_end; wrow_close) | walk1 | (dsimp only; walk1) | (leave1; walk_say "STEP leave1"; try dsimp only) | fail "no step"))
  k_with "lc" => (repeat' ((fail_if_success (with_reducible show wpAny _ _ (eval (Expr.ListComp _ _ _ _) _) _ _ _)); (fail_if_success (with_reducible show wpAny _ _ (subscriptTail _ _ _ _) _ _ _)); (fail_if_success (with_reducible show wpAny _ _ (exec (Stmt.Assign [_] (Expr.ListComp _ _ _ _) _) _) _ _ _)); (fail_if_success (with_reducible show LCg.CompEnd _ _ _ _ _ _ _ _ _ _ _ _ _ _)); (fail_if_success (with_reducible show LCt.CompSrcT _ _ _ _ _ _ _ _ _ _ _ _ _ _ _)); (fail_if_success (with_reducible show wpAny _ _ (pyIter _) _ _ _)); (fail_if_success (with_reducible show wpAny _ _ (call (Value.builtin "list.append") _) _ _ _)); (fail_if_success (with_reducible show wpAny _ _ (call (Value.ref _) _) _ _ _)); (fail_if_success (with_reducible show wpAny _ _ (exec (Stmt.For _ _ _ _ _) _) _ _ _)); (fail_if_success (with_reducible show wpAny _ _ (exec (Stmt.While _ _ _ _) _) _ _ _)); first | (k_unfold; (try dsimp only)) | (k_end; wrow_close) | walk1 | (dsimp only; walk1) | (leave1; walk_say "STEP leave1"; try dsimp only) | fail "no step"))
  k_with "lt" => (repeat' ((fail_if_success (with_reducible show wpAny _ _ (eval (Expr.ListComp _ _ _ _) _) _ _ _)); (fail_if_success (with_reducible show wpAny _ _ (exec (Stmt.Assign [_] (Expr.ListComp _ _ _ _) _) _) _ _ _)); (fail_if_success (with_reducible show LCg.CompEnd _ _ _ _ _ _ _ _ _ _ _ _ _ _)); (fail_if_success (with_reducible show LCt.CompSrcT _ _ _ _ _ _ _ _ _ _ _ _ _ _ _)); (fail_if_success (with_reducible show wpAny _ _ (pyIter _) _ _ _)); (fail_if_success (with_reducible show wpAny _ _ (call (Value.builtin "list.append") _) _ _ _)); (fail_if_success (with_reducible show wpAny _ _ (call (Value.ref _) _) _ _ _)); (fail_if_success (with_reducible show wpAny _ _ (exec (Stmt.For _ _ _ _ _) _) _ _ _)); (fail_if_success (with_reducible show wpAny _ _ (exec (Stmt.While _ _ _ _) _) _ _ _)); first | (k_unfold; (try dsimp only)) | (k_end; wrow_close) | walk1 | (dsimp only; walk1) | (leave1; walk_say "STEP leave1"; try dsimp only) | fail "no step"))
  k_with "for" => ((rename Fr _ _ _ _ => lF'); (with_reducible refine' For_invVF lF' ?k1 ?k2 ?_ ?k3 ?k4); (case k1 => exact rfl); (case k2 => exact rfl); (case k3 => intro _; rfl); (case k4 => passes_own))
  k_with "same" => (intro z h2 h3; (simp only [List.contains_cons, List.contains_nil, Bool.or_false, Bool.or_eq_false_iff, beq_eq_false_iff_ne, ne_eq] at h3); simp [h2, h3])
  k_with "tle" => (repeat' (first | assumption | exact Nat.le_refl _ | refine Nat.le_succ_of_le ?_))
  k_with "here" => (first | k_asm | exact rfl | ktr_room | ktr_units)
  trivial
section
variable {w : World} {mean : ExcName → Option Value} {mg mb : Str → Option Value} {dp un : Nat} {gd : Option (List Code)} {cn : Str} {cs : Scope} {a : Addr} {ccd : Value} {cl : List (Str × Addr)} {outer : List Env} {A₀ : Around} {base h₀ : Heap} {L : Addr} {m : Str → Option Value} {news : List (Addr × Obj)} {s : Shared} {Q E : Value → Shared → Prop}
/-- the rows, as they lie: references and the lists behind them -/
inductive RowsAre : List Value → List (Addr × Obj) → List (List Int) → Prop
  | nil : RowsAre [] [] []
  | snoc {us : List Value} {os : List (Addr × Obj)} {rs : List (List Int)} {D : Addr} {vs : List Value} {r : List Int} {n : Nat} : RowsAre us os rs → IntsAre vs r → RowsAre (us ++ [.ref D]) (os ++ [(D, listOf vs.toArray n)]) (rs ++ [r])
noncomputable def rowsTab : List (List Int) := [[1, 23, 45], [1, 24, 35], [1, 25, 34], [2, 13, 45], [2, 14, 35], [2, 15, 34], [3, 12, 45], [3, 14, 25], [3, 15, 24], [4, 12, 35], [4, 13, 25], [4, 15, 23], [5, 12, 34], [5, 13, 24], [5, 14, 23]]
theorem RowsAre_len {us : List Value} {os : List (Addr × Obj)} {rs : List (List Int)} (h : RowsAre us os rs) : us.length = rs.length := by
  induction h with
  | nil => rfl
  | snoc _ _ ih => rw [List.length_append, List.length_append, ih]; rfl
theorem head_ints {h₀ h : Heap} {L D : Addr} {vs : List Value} {ns : List Int} {r : List (Addr × Obj)} (N : News h₀ L h ((D, listOf vs.toArray 0) :: r)) (hi : IntsAre vs ns) : ∃ vs, IntsAre vs ns ∧ News h₀ L h ((D, listOf vs.toArray 0) :: r) := ⟨vs, hi, N⟩
theorem mform1 {m : Str → Option Value} {x : Str} {a : Value} (h1 : m x = some a) : m = fun z => if z = x then some a else m z := by
  funext z
  split
  · rename_i e; rw [e, h1]
  · rfl
theorem mform2 {m : Str → Option Value} {x y : Str} {a b : Value} (h1 : m x = some a) (h2 : m y = some b) : m = fun z => if z = x then some a else if z = y then some b else m z := by
  funext z
  split
  · rename_i e; rw [e, h1]
  · split
    · rename_i e; rw [e, h2]
    · rfl
theorem ints2 {vs : List Value} {a b : Int} (h : IntsAre vs [a, b]) : ∃ t1 t2, vs = [Value.int a t1, Value.int b t2] := by
  cases h with | cons _ t1 h => cases h with | cons _ t2 h => cases h; exact ⟨_, _, rfl⟩
theorem ints4 {vs : List Value} {a b c d : Int} (h : IntsAre vs [a, b, c, d]) : ∃ t1 t2 t3 t4, vs = [Value.int a t1, Value.int b t2, Value.int c t3, Value.int d t4] := by
  cases h with | cons _ t1 h => cases h with | cons _ t2 h => cases h with | cons _ t3 h => cases h with | cons _ t4 h => cases h; exact ⟨_, _, _, _, rfl⟩
theorem ints3 {vs : List Value} {a b c : Int} (h : IntsAre vs [a, b, c]) : ∃ t1 t2 t3, vs = [Value.int a t1, Value.int b t2, Value.int c t3] := by
  cases h with | cons _ t1 h => cases h with | cons _ t2 h => cases h with | cons _ t3 h => cases h; exact ⟨_, _, _, rfl⟩
noncomputable def leftOf (i : Nat) : List Int := List.foldl (fun l k => if k ≠ 1 + (i : Int) then l ++ [k] else l) [] (rangeKs 1 (6 - 1 : Int).toNat)
noncomputable def restOf (b : Int) (xs : List Int) : List Int := List.foldl (fun l k => if k ≠ b then l ++ [k] else l) [] xs
theorem row_tab : ∀ (i : Fin 5) (j : Fin 3), restOf ((leftOf i.val).getD (j.val + 1) 0) ((leftOf i.val).drop 1) = [(restOf ((leftOf i.val).getD (j.val + 1) 0) ((leftOf i.val).drop 1)).getD 0 0, (restOf ((leftOf i.val).getD (j.val + 1) 0) ((leftOf i.val).drop 1)).getD 1 0] ∧
    rowsTab.take (3 * i.val + (j.val + 1)) = rowsTab.take (3 * i.val + j.val) ++ [[1 + (i.val : Int), 10 * (leftOf i.val).getD 0 0 + (leftOf i.val).getD (j.val + 1) 0, 10 * (restOf ((leftOf i.val).getD (j.val + 1) 0) ((leftOf i.val).drop 1)).getD 0 0 + (restOf ((leftOf i.val).getD (j.val + 1) 0) ((leftOf i.val).drop 1)).getD 1 0]] := by decide +kernel
theorem row_next {i j : Nat} {a0 a1 a2 a3 b : Int} {rest : List Int} (hi : i < 5) (hl : [a0, a1, a2, a3] = List.foldl (fun l k => if k ≠ 1 + (i : Int) then l ++ [k] else l) [] (rangeKs 1 (6 - 1 : Int).toNat)) (hb : [a1, a2, a3][j]? = some b) (hr : rest = List.foldl (fun l k => if k ≠ b then l ++ [k] else l) [] [a1, a2, a3]) :
    ∃ r0 r1, rest = [r0, r1] ∧ rowsTab.take (3 * i + (j + 1)) = rowsTab.take (3 * i + j) ++ [[1 + (i : Int), 10 * a0 + b, 10 * r0 + r1]] := by
  have hj : j < 3 := (List.getElem?_eq_some_iff.mp hb).1
  have T := row_tab ⟨i, hi⟩ ⟨j, hj⟩
  have hl : leftOf i = [a0, a1, a2, a3] := hl.symm
  have e : [a0, a1, a2, a3].getD (j + 1) 0 = b := by
    show ([a1, a2, a3][j]?).getD 0 = b
    rw [hb]; rfl
  dsimp only at T
  rw [hl, e] at T
  exact ⟨_, _, hr.trans T.1, T.2⟩
inductive RowsJ (D : Addr) (L' : Nat) (news : List (Addr × Obj)) (I : Nat) (i : Nat) (m : Str → Option Value) (nw : List (Addr × Obj)) : Prop
  | mk (o2 : Obj) (v2 : Option Value) (us : List Value) (os : List (Addr × Obj)) (cc : Nat) (e : nw = (D, listOf us.toArray cc) :: (L' + 1 + 1, o2) :: (os ++ news)) (d : o2.data = Data.cell v2) (r : RowsAre us os (rowsTab.take (3 * i))) (hm : m (Str.ofString "rows") = some (.ref D)) (ho : ∀ p ∈ os, I < p.1)
inductive RowsJ2 (Ds : Addr) (xs : List Value) (Dl : Addr) (ys : List Value) (L' : Nat) (oc : Obj) (D : Addr) (os news : List (Addr × Obj)) (i I j : Nat) (m : Str → Option Value) (nw : List (Addr × Obj)) : Prop
  | mk (us2 : List Value) (osn : List (Addr × Obj)) (cc2 : Nat) (e : nw = (Ds, listOf xs.toArray 0) :: (Dl, LCg.lst ys) :: (L' + 1, oc) :: (D, listOf us2.toArray cc2) :: (os ++ osn ++ news)) (r : RowsAre us2 (os ++ osn) (rowsTab.take (3 * i + j))) (hm : m (Str.ofString "rows") = some (.ref D)) (hl : m (Str.ofString "left") = some (.ref Dl)) (ho : ∀ p ∈ osn, I < p.1)
theorem rows_ok (H : Here 9 w mean mg mb dp un cs outer A₀ base h₀ L m news s.heap)
  (hret : ∀ D us os cc h' tk' L1, RowsAre us os rowsTab → Fr h₀ L h' m → News h₀ L h' ((D, listOf us.toArray cc) :: (os ++ news)) → (∀ p ∈ news, p.1 < L1) → L1 < D → (∀ p ∈ os, D < p.1) → Q (.ref D) { s with heap := h', toks := tk' }) :
  wpAny (model PySem.Challenge.rw_sn0021_02.row.prog w) (ktrTop dp un gd cn cs L a ccd cl outer) (call (.ref 61) []) Q E s := by
  obtain ⟨B, F, X, N, T, hk, hd, hu⟩ := H
  refine wpAny_call ?_
  k_dflt (refine' code_defC ?k1 ?k2 ?k3 ?k4 ?k5 ?kA ?kF ?kK ?k6 ?k7 ?k8 ?k9 ?kB ?c5 ?_ ?c2 ?c3 ?c4; (case kA => exact rfl); (case kF => exact rfl); (case kK => assumption); (case k1 => k_asm); (case k2 => k_asm); (case k3 => k_asm); (case k4 => k_asm); (case k5 => k_asm); (case k6 => k_is); (case k7 => k_is); (case k8 => ktr_room); (case k9 => exact BindsTo.of_eq rfl); (case kB => exact rfl); (case c5 => decide); (case c2 => exact rfl); (case c3 => exact rfl); (case c4 => exact rfl); k_whole)
  intro g' L' h' tk' cells' FG' F' N' Y' B' X' T' l'
  repeat (have X1 := Y'; clear Y'; obtain ⟨_, _, he, _, Y'⟩ := kc_more X1; subst he; clear X1)
  have he := kc_last Y'; subst he
  clear Y'
  (try dsimp only)
  (try k_lift B')
  (try k_fold)
  k_extra "st"
  rename_i w1 hw1 w0 hw0 D hA lD hB fA nA
  refine forT ?_ (by intro _; rfl)
  k_extra "st"
  rename Fr _ _ _ _ => fE
  rename News _ _ _ _ => nE
  rename IsRange _ _ _ _ _ _ _ _ => hR
  rename Heap => hC
  have nF := cb_drop (news := (L' + 1, w0) :: (D, listOf #[] 0) :: [(L' + 1 + 1, w1)] ++ news) nE (fun p hp => by
    simp only [List.cons_append, List.nil_append, List.mem_cons] at hp ⊢
    rcases hp with hp | hp | hp | hp
    · exact .inr (.inr (.inl hp))
    · exact .inl hp
    · exact .inr (.inl hp)
    · exact .inr (.inr (.inr hp)))
  have ltD : D < hC.objs.size := Heap.lt_size (nF (D, listOf #[] 0) (.tail _ (.head _))).1
  have ltO : L' + 1 + 1 < hC.objs.size := Heap.lt_size (nF (L' + 1 + 1, w1) (.tail _ (.tail _ (.head _)))).1
  refine iterCR (n := 5) (c := L' + 1) (fun i _ m nw => RowsJ D L' news hC.objs.size i m nw) rfl hR (by decide) (by rfl) rfl rfl rfl fE nF hw0 ?_ ?_ ?_ ?_ ?_ (by passes_own)
  · exact ⟨w1, _, [], [], 0, rfl, hw1, .nil, rfl, fun p hp => nomatch hp⟩
  · intro i t t' m nw _ h; exact h
  · rintro i t m nw ⟨o2, v2, us, os, cc, rfl, _, _, _, hos⟩ p hp
    have lt : ∀ q ∈ (L' + 1, w0) :: (D, listOf #[] 0) :: [(L' + 1 + 1, w1)] ++ news, q.1 < hC.objs.size := fun q hq => Heap.lt_size (nF q hq).1
    have lc : L' + 1 < hC.objs.size := lt (L' + 1, w0) (.head _)
    have lDc : L' + 1 < D := lD (L' + 1, w0) (.tail _ (.head _))
    rcases List.mem_cons.mp hp with rfl | hp
    · exact ⟨Nat.ne_of_lt ltD, Nat.ne_of_gt lDc⟩
    rcases List.mem_cons.mp hp with rfl | hp
    · exact ⟨Nat.ne_of_lt ltO, Nat.ne_of_gt (Nat.lt_succ_self _)⟩
    rcases List.mem_append.mp hp with hp | hp
    · exact ⟨Nat.ne_of_gt (hos p hp), Nat.ne_of_gt (Nat.lt_trans lc (hos p hp))⟩
    · exact ⟨Nat.ne_of_lt (lt p (.tail _ (.tail _ (.tail _ hp)))), Nat.ne_of_lt (Nat.lt_succ_of_lt (l' p hp))⟩
  · rintro i u t h o oc m2 nw hi ⟨o2, v2, us, os, cc, rfl, hd2', hrows, hm, hos⟩ hoc hcI fT nT
    clear fE nE nF
    simp only [List.cons_append] at nT
    k_extra "lc"
    k_dflt (refine LCt.Assign_ListComp_T (F₀ := by k_asm) (by rfl) (by with_unfolding_all rfl) (by with_unfolding_all rfl) (by decide) (by rfl) (by decide) (by rfl) (by rfl) (by rfl) ?_)
    k_extra "lc"
    refine LCt.CompSrcT.range (by rfl) (by k_asm) (by k_asm) (by assumption) (by first | decide | rfl) (by first | exact rangeSize_nat _ _ | rfl) (by exact Nat.le_of_ble_eq_true rfl) ?_
    intro g2
    refine' kci_range (fun l k => if k ≠ 1 + (i : Int) then l ++ [k] else l) (fun k' t' I' oI' C' oC' D' m' ys' l2' h' tk' E' hlo' hhi' hI' hC' hx' F' N' off' ne' => ?_) ?_ ?_
    · intro hMark'
      k_extra "lc"
      all_goals (rename News _ _ _ _ => nE2; refine LCg.CompEnd.intro (by assumption) nE2 _ (fun p hp => hp) off' trivial ?_)
      · exact kci_el (if_pos (by assumption)) rfl rfl
      · exact kci_no (if_neg (fun h => h (by assumption))) rfl
    · k_extra "lc"
      obtain ⟨left, hleft⟩ : ∃ left, left = List.foldl (fun l k => if k ≠ 1 + (i : Int) then l ++ [k] else l) [] (rangeKs 1 (6 - 1 : Int).toNat) := ⟨_, rfl⟩
      rename IntsAre _ (List.foldl _ _ _) => hY
      rw [← hleft] at hY
      have h4 : left.length = 4 := by
        rw [hleft]
        rcases (show i = 0 ∨ i = 1 ∨ i = 2 ∨ i = 3 ∨ i = 4 by omega) with rfl | rfl | rfl | rfl | rfl <;> rfl
      refine forT ?_ (by intro _; rfl)
      k_extra "st"
      rename_i Dl hl_ tkl oDl Ds ws hS fS nS hIw hCw hLw lDs
      obtain ⟨a0, a1, a2, a3, rfl⟩ : ∃ a0 a1 a2 a3, left = [a0, a1, a2, a3] := by
        rcases left with _ | ⟨a0, _ | ⟨a1, _ | ⟨a2, _ | ⟨a3, _ | ⟨_, _⟩⟩⟩⟩⟩ <;> first | (simp at h4; done) | exact ⟨_, _, _, _, rfl⟩
      clear hCw hLw h4
      simp only [List.drop_succ_cons, List.drop_zero] at hIw
      obtain ⟨t1, t2, t3, rfl⟩ := ints3 hIw
      try simp only [List.cons_append, List.nil_append] at nS
      have hDS : D < hS.objs.size := Heap.lt_size (nS (D, listOf us.toArray cc) (.tail _ (.tail _ (.tail _ (.head _))))).1
      have nI := cb_drop (news := (L' + 1 + 1, o2) :: (Ds, listOf [Value.int a1 t1, Value.int a2 t2, Value.int a3 t3].toArray 0) :: (Dl, LCg.lst ys) :: (L' + 1, oc) :: (D, listOf us.toArray cc) :: (os ++ [] ++ (news ++ [(hC.objs.size, o)]))) nS (by kcf_all)
      refine iterC (nn := 0) (c := L' + 1 + 1) (l := Ds) (items := [Value.int a1 t1, Value.int a2 t2, Value.int a3 t3]) (fun j _ m nw => RowsJ2 Ds [Value.int a1 t1, Value.int a2 t2, Value.int a3 t3] Dl ys L' oc D os (news ++ [(hC.objs.size, o)]) i hS.objs.size j m nw) rfl (by rfl) rfl rfl fS nI hd2' ?_ ?_ ?_ ?_ ?_ (by passes_own)
      · exact ⟨us, [], cc, rfl, by simpa using hrows, (if_neg (by decide)).trans hm, if_pos rfl, fun p hp => nomatch hp⟩
      · intro i t t' m nw _ h; exact h
      · rintro j t m nw ⟨us2, osn, cc2, rfl, hrows2, hm2, hl2, hosn⟩
        refine ⟨.head _, fun p hp => ?_⟩
        have lt : ∀ q ∈ (Ds, listOf [Value.int a1 t1, Value.int a2 t2, Value.int a3 t3].toArray 0) :: (Dl, LCg.lst ys) :: (L' + 1, oc) :: (D, listOf us.toArray cc) :: (L' + 1 + 1, o2) :: (os ++ news ++ [(hC.objs.size, o)]), q.1 < hS.objs.size := fun q hq => Heap.lt_size (nS q hq).1
        have ltO2 : L' + 1 + 1 < hS.objs.size := lt _ (.tail _ (.tail _ (.tail _ (.tail _ (.head _)))))
        simp only [List.mem_cons, List.mem_append, List.append_assoc, List.not_mem_nil, or_false] at hp
        rcases hp with rfl | rfl | rfl | rfl | hp | hp | hp | rfl
        · exact ⟨Nat.ne_of_lt (lt _ (.head _)), Nat.ne_of_gt lDs.2.2.2.1⟩
        · exact ⟨Nat.ne_of_lt (lt _ (.tail _ (.head _))), Ne.symm oDl.2.2.1⟩
        · exact ⟨Nat.ne_of_lt (lt _ (.tail _ (.tail _ (.head _)))), Nat.ne_of_lt (Nat.lt_succ_self _)⟩
        · exact ⟨Nat.ne_of_lt (lt (D, listOf us.toArray cc) (.tail _ (.tail _ (.tail _ (.head _))))), Nat.ne_of_gt (lD (L' + 1 + 1, w1) (.head _))⟩
        · exact ⟨Nat.ne_of_lt (lt p (.tail _ (.tail _ (.tail _ (.tail _ (.tail _ (List.mem_append_left _ (List.mem_append_left _ hp)))))))), Nat.ne_of_gt (Nat.lt_trans ltO (hos p hp))⟩
        · exact ⟨Nat.ne_of_gt (hosn p hp), Nat.ne_of_gt (Nat.lt_trans ltO2 (hosn p hp))⟩
        · exact ⟨Nat.ne_of_lt (lt p (.tail _ (.tail _ (.tail _ (.tail _ (.tail _ (List.mem_append_left _ (List.mem_append_right _ hp)))))))), Nat.ne_of_lt (Nat.lt_of_lt_of_le (l' p hp) (by omega))⟩
        · exact ⟨Nat.ne_of_lt (lt _ (.tail _ (.tail _ (.tail _ (.tail _ (.tail _ (List.mem_append_right _ (.head _)))))))), Nat.ne_of_gt ltO⟩
      · rintro j v t h o' oc' m3 nw hj ⟨us2, osn, cc2, rfl, hrows2, hm2, hl2, hosn⟩ hoc' hcI' fT' nT'
        clear fS nI
        simp only [List.cons_append] at nT'
        obtain ⟨b, u, rfl, hb⟩ : ∃ b u, v = .int b u ∧ [a1, a2, a3][j]? = some b := by
          rcases j with _ | _ | _ | j
          · cases hj; exact ⟨_, _, rfl, rfl⟩
          · cases hj; exact ⟨_, _, rfl, rfl⟩
          · cases hj; exact ⟨_, _, rfl, rfl⟩
          · simp at hj
        clear hj
        rw [mform2 hm2 hl2] at fT'
        k_extra "lc"
        k_dflt (refine LCt.Assign_ListComp_T (F₀ := by k_asm) (by rfl) (by with_unfolding_all rfl) (by with_unfolding_all rfl) (by decide) (by rfl) (by decide) (by rfl) (by rfl) (by rfl) ?_)
        k_extra "lt"
        rename_i Dt wt hT _ nT3 hIt _ _ ltT
        simp only [List.drop_succ_cons, List.drop_zero] at hIt
        obtain ⟨t4, t5, t6, rfl⟩ := ints3 hIt
        refine LCt.CompSrcT.ledger (by rfl) (by k_asm) (by k_asm) (by k_mem) (by exact Nat.le_of_ble_eq_true rfl) ?_
        intro g3
        refine' kci_list (fun l k => if k ≠ b then l ++ [k] else l) (by assumption) (fun k' t' I' oI' C' oC' D' m' ys' l2' h' tk' E' hk' hI' hC' hx' F' N' off' ne' => ?_) ?_ ?_
        · intro hMark'
          k_extra "lc"
          all_goals (rename News _ _ _ _ => nE2; refine LCg.CompEnd.intro (by assumption) nE2 _ (fun p hp => hp) off' (.inr ⟨_, .head _, rfl, _, rfl⟩) ?_)
          · exact kci_el (if_pos (by assumption)) rfl rfl
          · exact kci_no (if_neg (fun h => h (by assumption))) rfl
        · k_extra "lc"
          rename_i hR2 _ _ Dr hr tkr Fr2 Nr oR
          obtain ⟨rest, hrest⟩ : ∃ rest, rest = List.foldl (fun l k => if k ≠ b then l ++ [k] else l) [] [a1, a2, a3] := ⟨_, rfl⟩
          rw [← hrest] at hR2
          obtain ⟨r0, r1, rfl, hnext⟩ := row_next hi hleft hb hrest
          obtain ⟨t7, t8, rfl⟩ := ints2 hR2
          obtain ⟨s0, s1, s2, s3, rfl⟩ := ints4 hY
          k_extra "lt"
          rename_i Dn hn fN nN lN
          obtain ⟨vsN, hvsN, nN2⟩ : ∃ vsN, IntsAre vsN [1 + (i : Int), 10 * a0 + b, 10 * r0 + r1] ∧ News g' L' hn ((D, listOf us2.toArray cc2) :: (L' + 1 + 1, oc') :: (Ds, listOf [Value.int a1 t1, Value.int a2 t2, Value.int a3 t3].toArray 0) :: (Dl, LCg.lst [Value.int a0 s0, Value.int a1 s1, Value.int a2 s2, Value.int a3 s3]) :: (L' + 1, oc) :: (Dn, listOf vsN.toArray 0) :: (os ++ osn ++ (news ++ [(hC.objs.size, o)]) ++ [(hS.objs.size, o')])) := by
            obtain ⟨vsN, hvsN, nN3⟩ := head_ints (ns := [1 + (i : Int), 10 * a0 + b, 10 * r0 + r1]) nN (.cons _ _ (.cons _ _ (.cons _ _ .nil)))
            refine ⟨vsN, hvsN, cb_drop nN3 (fun p hp => ?_)⟩
            simp only [List.mem_cons] at hp ⊢
            rcases hp with hp | hp | hp | hp | hp | hp | hp
            · exact .inr (.inr (.inr (.inr (.inr (.inr (.inr (.inl hp)))))))
            · exact .inr (.inr (.inr (.inl hp)))
            · exact .inr (.inr (.inr (.inr (.inl hp))))
            · exact .inr (.inr (.inr (.inr (.inr (.inl hp)))))
            · exact .inr (.inr (.inr (.inr (.inr (.inr (.inl hp))))))
            · exact .inl hp
            · exact .inr (.inr (.inr (.inr (.inr (.inr (.inr (.inr hp)))))))
          have hne : ∀ p ∈ (L' + 1 + 1, oc') :: (Ds, listOf [Value.int a1 t1, Value.int a2 t2, Value.int a3 t3].toArray 0) :: (Dl, LCg.lst [Value.int a0 s0, Value.int a1 s1, Value.int a2 s2, Value.int a3 s3]) :: (L' + 1, oc) :: (Dn, listOf vsN.toArray 0) :: (os ++ osn ++ (news ++ [(hC.objs.size, o)]) ++ [(hS.objs.size, o')]), p.1 ≠ D := by
            intro p hp
            simp only [List.mem_cons, List.mem_append, List.append_assoc, List.not_mem_nil, or_false] at hp
            rcases hp with rfl | rfl | rfl | rfl | rfl | hp | hp | hp | rfl | rfl
            · exact Nat.ne_of_lt (lD (L' + 1 + 1, w1) (.head _))
            · exact Nat.ne_of_gt lDs.2.2.1
            · exact Ne.symm oDl.2.1
            · exact Nat.ne_of_lt (lD (L' + 1, w0) (.tail _ (.head _)))
            · exact Nat.ne_of_gt lN.2.2.2.2.2.2.1
            · exact Nat.ne_of_gt (Nat.lt_trans ltD (hos p hp))
            · exact Nat.ne_of_gt (Nat.lt_trans hDS (hosn p hp))
            · exact Nat.ne_of_lt (Nat.lt_trans (l' p hp) (Nat.lt_trans (Nat.lt_succ_self _) (lD (L' + 1, w0) (.tail _ (.head _)))))
            · exact Nat.ne_of_gt ltD
            · exact Nat.ne_of_gt hDS
          refine append_K fN nN2 (Upd.head hne) ?_ ?_
          · intro h' F' N'
            clear nN2 nN fN hne
            refine wpAny_execs_nil ?_
            simp only [List.push_toArray] at N'
            refine ⟨_, _, _, _, oc', _, rfl, F', cb_drop N' (fun p hp => ?_), hoc', us2 ++ [.ref Dn], osn ++ [(Dn, listOf vsN.toArray 0)], cc2 + 1, rfl, ?_, rfl, rfl, ?_⟩
            · revert p; kcf_all
            · rw [hnext, ← List.append_assoc]
              exact .snoc hrows2 hvsN
            · intro p hp
              rcases List.mem_append.mp hp with hp | hp
              · exact hosn p hp
              · rw [List.mem_singleton.mp hp]
                exact kst_ltOf lN.2.2.2.2.2.2.2 (hS.objs.size, o') (List.mem_append_right _ (.head _))
          · have e1 := RowsAre_len hrows2
            rw [List.length_take] at e1
            rw [sizeLine_eq, List.size_toArray, e1]
            exact Nat.le_trans (Nat.min_le_right _ _) (by decide)
        · intro l k
          show (if k ≠ b then l ++ [k] else l).length ≤ l.length + 1
          split
          · rw [List.length_append]; exact Nat.le_refl _
          · exact Nat.le_succ _
      · rintro t h m3 nw oc' v ⟨us2, osn, cc2, rfl, hrows2, hm2, hl2, hosn⟩ hoc' fT' nT'
        refine wpAny_execs_nil ?_
        refine ⟨_, _, _, (D, listOf us2.toArray cc2) :: (L' + 1 + 1, oc') :: (os ++ osn ++ news), oc, _, rfl, fT', cb_drop nT' (fun p hp => ?_), hoc, oc', _, us2, os ++ osn, cc2, rfl, hoc', hrows2, hm2, ?_⟩
        · revert p; kcf_all
        · intro p hp
          rcases List.mem_append.mp hp with hp | hp
          · exact hos p hp
          · exact Nat.lt_trans (Heap.lt_size (nS (hC.objs.size, o) (by kcf_m)).1) (hosn p hp)
    · intro l k
      show (if k ≠ 1 + (i : Int) then l ++ [k] else l).length ≤ l.length + 1
      split
      · rw [List.length_append]; exact Nat.le_refl _
      · exact Nat.le_succ _
  · rintro t h m2 nw oc v ⟨o2, v2, us, os, cc, rfl, hd2', hrows, hm, hos⟩ hoc fT nT
    clear fE nE nF
    rw [mform1 hm] at fT
    k_extra "st"
    rename Fr h₀ _ _ _ => fZ
    rename News h₀ _ _ _ => nZ
    refine hret D us os cc _ _ L' hrows fZ (cb_drop nZ (fun p hp => ?_)) l' (Nat.lt_trans (Nat.lt_succ_self _) (lD (L' + 1, w0) (.tail _ (.head _)))) (fun p hp => Nat.lt_trans ltD (hos p hp))
    rcases List.mem_cons.mp hp with rfl | hp
    · exact .tail _ (.head _)
    · exact .tail _ (.tail _ (.tail _ hp))
end
end Mine2
namespace Mine2
theorem four_pushes (h : Heap) (o1 o2 o3 o4 : Obj) (f1 : o1.isFreed = false) (f2 : o2.isFreed = false) (f3 : o3.isFreed = false) (f4 : o4.isFreed = false) : (∀ b o, h.get? b = some o → ((((h.push o1).push o2).push o3).push o4).get? b = some o) ∧ ((((h.push o1).push o2).push o3).push o4).get? h.objs.size = some o1 ∧ ((((h.push o1).push o2).push o3).push o4).get? (h.objs.size + 1) = some o2 ∧ ((((h.push o1).push o2).push o3).push o4).get? (h.objs.size + 1 + 1) = some o3 ∧ ((((h.push o1).push o2).push o3).push o4).get? (h.objs.size + 1 + 1 + 1) = some o4 := by
  have s1 : (h.push o1).objs.size = h.objs.size + 1 := Heap.size_push ..
  have s2 : ((h.push o1).push o2).objs.size = h.objs.size + 1 + 1 := by rw [Heap.size_push, s1]
  have s3 : (((h.push o1).push o2).push o3).objs.size = h.objs.size + 1 + 1 + 1 := by rw [Heap.size_push, s2]
  refine ⟨fun b o e => Heap.get?_push_of_some _ (Heap.get?_push_of_some _ (Heap.get?_push_of_some _ (Heap.get?_push_of_some _ e))), Heap.get?_push_of_some _ (Heap.get?_push_of_some _ (Heap.get?_push_of_some _ (Heap.get?_push_size _ f1))), ?_, ?_, ?_⟩
  · rw [← s1]; exact Heap.get?_push_of_some _ (Heap.get?_push_of_some _ (Heap.get?_push_size _ f2))
  · rw [← s2]; exact Heap.get?_push_of_some _ (Heap.get?_push_size _ f3)
  · rw [← s3]; exact Heap.get?_push_size _ f4
theorem item_list {prog : Program} {w : World} {A : Around} {E : Value → Shared → Prop} {s : Shared} {value slice : PySem.Expr} {l : Addr} {items : Array Value} {k : Int} {u : Tok} {v : Value} {Q : Value → Shared → Prop} (hl : s.heap.IsList l items) (h0 : 0 ≤ k) (hhi : k < 2 ^ 63) (hx : items[k.toNat]? = some v)
    (hs : subscripted slice false (.ref l) (.int k u) = operate [.ref l, .int k u] (getItem (.ref l) (.int k u))) (h : Q v s) : wpAny (model prog w) A (subscriptTail value slice (.ref l) (.int k u)) Q E s :=
  tail_any hl.typeIs slot_list_getitem.lookup (wpAny_getItem_list hl h0 hhi hx h) hs
theorem intsAt : ∀ {vs : List Value} {ns : List Int} {i : Nat} {v : Value}, IntsAre vs ns → vs[i]? = some v → ∃ z u, ns[i]? = some z ∧ v = .int z u
  | _, _, _, _, .nil, h => by simp at h
  | _, _, 0, _, .cons n t _, h => by cases h; exact ⟨n, t, rfl, rfl⟩
  | _, _, i + 1, _, .cons n t r, h => intsAt (i := i) r (by simpa using h)
theorem off1_of {D : Addr} : ∀ {l : List (Addr × Obj)}, (∀ p ∈ l, p.1 ≠ D) → LCg.Off1 D l
  | [], _ => trivial
  | _ :: _, h => ⟨h _ List.mem_cons_self, off1_of fun p hp => h p (List.mem_cons_of_mem _ hp)⟩
inductive CompCSrc (prog : Program) (w : World) (A : Around) (h₀ : Heap) (L : Addr) (m : Str → Option Value) (env : Env) (ct : Expr) (x : Str) (scope : Scope) (cl : List (Str × Addr)) (p : Int → Bool) (Q : Value → Shared → Prop) (xv : Value) (s₁ : Shared) : Prop
  | mk (ax : Addr) (vs : List Value) (nn : Nat) (news : List (Addr × Obj)) (ns : List Int) (e : xv = .ref ax) (hh : A.handled = none) (F : Fr h₀ L s₁.heap m) (N : News h₀ L s₁.heap news) (hm : (ax, listOf vs.toArray nn) ∈ news) (hi : IntsAre vs ns) (hz : vs.length ≤ sizeLine)
    (turn : ∀ (k : Int) (t : Tok) (I : Addr) (oI : Obj) (C : Addr) (oC : Obj) (c : Addr) (oc : Obj) (D : Addr) (ys : List Value) (h : Heap) (tk : Tok) (E' : Value → Shared → Prop), k ∈ ns → oc.data = .cell (some (.int k t)) → Fr h₀ L h m → News h₀ L h ((I, oI) :: (C, oC) :: (D, LCg.lst ys) :: (c, oc) :: news) →
        wpAny (model prog w) A (isTrue ct (compEnvC scope ((x, c) :: cl) C env) (eval ct (compEnvC scope ((x, c) :: cl) C env))) (fun b s' => b = p k ∧ ∃ h' tk', s' = { s₁ with heap := h', toks := tk' } ∧ Fr h₀ L h' m ∧ News h₀ L h' ((I, oI) :: (C, oC) :: (D, LCg.lst ys) :: (c, oc) :: news)) E' { s₁ with heap := h, toks := tk })
    (fin : ∀ (ys : List Value) (D : Addr) (h : Heap) (tk : Tok), IntsAre ys (ns.filter p) → Fr h₀ L h m → News h₀ L h ((D, LCg.lst ys) :: news) → LCg.Off1 D news → Q (.ref D) { s₁ with heap := h, toks := tk })
inductive CompCInv (s₁ : Shared) (h₀ : Heap) (L : Addr) (m : Str → Option Value) (ax : Addr) (vs : List Value) (ns : List Int) (p : Int → Bool) (news : List (Addr × Obj)) (I : Nat) (k : Nat) (s' : Shared) : Prop
  | mk (h' : Heap) (tk : Tok) (i : Nat) (ys : List Value) (m' : Str → Option Value) (oc : Obj) (v : Option Value) (e : s' = { s₁ with heap := h', toks := tk }) (hi : i ≤ vs.length) (hk : k = vs.length + 1 - i) (hy : ys.length ≤ i) (hI : IntsAre ys ((ns.take i).filter p)) (it : h'.IsListIter I ax i) (F : Fr h₀ L h' m) (hn : h'.Ns (I + 1 + 1) m') (N : News h₀ L h' ((I + 1, LCg.lst ys) :: (I + 1 + 1 + 1, oc) :: news)) (d : oc.data = .cell v)
section
open LCg
variable {prog : Program} {w : World} {A : Around} {E : Value → Shared → Prop} {s : Shared} {h₀ : Heap} {L : Addr} {m : Str → Option Value} {env : Env}
/-- a list comprehension [x for x in list of ints if test] whose x is a cell -/
theorem compC {x : Str} {px pe : Pos} {iter ct : Expr} {scope : Scope} {cl : List (Str × Addr)} {pos : Pos} {Q : Value → Shared → Prop} (p : Int → Bool)
    (hclos : closureFor scope env = pure cl) (hkind : scope.kind = .function) (hnames : ∀ y ∈ scope.names, y.2 = .local → scope.names.lookup y.1 = some .local)
    (hcells : ∀ n, cellsFrom n scope.names cl = (x, n) :: cl) (hpush : ∀ h, pushCells h scope.names = h.push { cls := .type "cell", data := .cell none })
    (hxk : (relabel scope env).names.lookup x = some .cell) (hxd : (x == ("__debug__" : Str)) = false)
    (h : wpAny (model prog w) A (eval iter env) (CompCSrc prog w A h₀ L m env ct x scope cl p Q) E s)
    (hs : ∀ x, foldedSetIterable iter env x = pure x := by intro _; rfl) :
    wpAny (model prog w) A (eval (.ListComp (.Name x pe) [⟨.Name x px, iter, [ct], 0⟩] scope pos) env) Q E s := by
  rw [eval_ListComp]
  refine wpAny_comprehension_free (use := none) rfl hs hclos hkind hnames (wpAny_mono h (fun xv s₁ h₁ => ?_) fun _ _ e => e)
  obtain ⟨ax, vs, nn, news, ns, rfl, hh, F, N, hm, hi, hsz, turn, fin⟩ := h₁
  have hl := News.isList N hm
  have hlt : ax < s₁.heap.objs.size := by obtain ⟨_, e, _⟩ := id hl; exact Heap.lt_size e
  refine wpAny_pyIter_list hl ?_
  have W := Walks.list (prog := prog) (w := w) hh s₁.heap.objs.size ax (Nat.ne_of_lt hlt) vs.toArray
  refine wpAny_newObj_type ?_
  simp only [newFunctionEnv, Option.isSome_some, if_true]
  refine wpAny_bind (wpAny_alloc ?_)
  refine wpAny_bind (wpAny_layCells _ (fun name kind cells => by cases hkc : kind == NameKind.cell <;> simp [hkc]) _ _ _ _ ?_)
  rw [hcells, hpush]
  simp only [List.forIn_nil, pure_bind]
  refine wpAny_pure ?_
  simp only [Heap.size_push]
  obtain ⟨hk4, gI, gD, gC, gc⟩ := four_pushes s₁.heap { cls := Value.type "list_iterator", data := Data.fields #[Value.ref ax, Value.int 0 0] } { cls := Value.type "list", data := Data.seq #[] } { cls := Value.type "dict", data := Data.dict #[] } { cls := Value.type "cell", data := Data.cell none } rfl rfl rfl rfl
  have hns4 : Heap.Ns ((((s₁.heap.push { cls := Value.type "list_iterator", data := Data.fields #[Value.ref ax, Value.int 0 0] }).push { cls := Value.type "list", data := Data.seq #[] }).push { cls := Value.type "dict", data := Data.dict #[] }).push { cls := Value.type "cell", data := Data.cell none }) (s₁.heap.objs.size + 1 + 1) (fun _ => none) := ⟨_, _, _, gC, rfl, (fun _ he => by simp at he), fun _ => rfl⟩
  generalize (((s₁.heap.push { cls := Value.type "list_iterator", data := Data.fields #[Value.ref ax, Value.int 0 0] }).push { cls := Value.type "list", data := Data.seq #[] }).push { cls := Value.type "dict", data := Data.dict #[] }).push { cls := Value.type "cell", data := Data.cell none } = H4 at hk4 gI gD gC gc hns4 ⊢
  have fresh : ∀ a, s₁.heap.objs.size ≤ a → h₀.get? a = none := fun a ha => by
    cases e : h₀.get? a with
    | none => rfl
    | some o => exact absurd (Heap.lt_size (F.keep a o e)) (Nat.not_lt.mpr ha)
  have hLlt : L < s₁.heap.objs.size := F.ns.lt
  have nlt : ∀ q ∈ news, q.1 < s₁.heap.objs.size := fun q hq => Heap.lt_size (N q hq).1
  have hI0 := fresh s₁.heap.objs.size (Nat.le_refl _)
  have hD0 := fresh (s₁.heap.objs.size + 1) (Nat.le_succ _)
  have hC0 := fresh (s₁.heap.objs.size + 1 + 1) (Nat.le_succ_of_le (Nat.le_succ _))
  have hc0 := fresh (s₁.heap.objs.size + 1 + 1 + 1) (Nat.le_succ_of_le (Nat.le_succ_of_le (Nat.le_succ _)))
  generalize hI : s₁.heap.objs.size = I at *
  have e1 : I ≠ L := Nat.ne_of_gt hLlt
  have e2 : I + 1 ≠ L := Nat.ne_of_gt (Nat.lt_succ_of_lt hLlt)
  have e3 : I + 1 + 1 ≠ L := Nat.ne_of_gt (Nat.lt_succ_of_lt (Nat.lt_succ_of_lt hLlt))
  have e4 : I + 1 + 1 + 1 ≠ L := Nat.ne_of_gt (Nat.lt_succ_of_lt (Nat.lt_succ_of_lt (Nat.lt_succ_of_lt hLlt)))
  have up1 : ∀ a : Nat, a + 1 ≠ a := fun a => Nat.succ_ne_self a
  have up2 : ∀ a : Nat, a + 1 + 1 ≠ a := fun a => Nat.ne_of_gt (Nat.lt_succ_of_lt (Nat.lt_succ_self a))
  have up3 : ∀ a : Nat, a + 1 + 1 + 1 ≠ a := fun a => Nat.ne_of_gt (Nat.lt_succ_of_lt (Nat.lt_succ_of_lt (Nat.lt_succ_self a)))
  have lt2 : ∀ q ∈ news, q.1 ≠ I + 1 + 1 := fun q hq => Nat.ne_of_lt (Nat.lt_succ_of_lt (Nat.lt_succ_of_lt (nlt q hq)))
  have lt1 : ∀ q ∈ news, q.1 ≠ I + 1 := fun q hq => Nat.ne_of_lt (Nat.lt_succ_of_lt (nlt q hq))
  have lt3 : ∀ q ∈ news, q.1 ≠ I + 1 + 1 + 1 := fun q hq => Nat.ne_of_lt (Nat.lt_succ_of_lt (Nat.lt_succ_of_lt (Nat.lt_succ_of_lt (nlt q hq))))
  have loop : codeAny (model prog w) A (.compLoop (.ListComp (.Name x pe) [⟨.Name x px, iter, [ct], 0⟩] scope pos) 0 (.ref I) (.ref (I + 1)) (compEnvC scope ((x, I + 1 + 1 + 1) :: cl) (I + 1 + 1) env))
      (compPost (model prog w) A E none Q (.ref (I + 1)) (I + 1 + 1)) { s₁ with heap := H4 } := by
    refine codeAny_compLoop_tests (CompCInv s₁ h₀ L m ax vs ns p news I) ?_ (vs.length + 1)
      ⟨H4, _, 0, [], _, { cls := Value.type "cell", data := Data.cell none }, none, rfl, Nat.zero_le _, rfl, Nat.le_refl _, by simpa using IntsAre.nil, ⟨_, gI, rfl, rfl⟩, F.keeps hk4, hns4, fun p hp => ?_, rfl⟩
    · rintro k s' ⟨h', tk, i, ys, m', oc, v, rfl, hile, rfl, hyl, hys, hit, F', hn', N', hd⟩
      have hlh : h'.IsList ax vs.toArray := News.isList N' (.tail _ (.tail _ hm))
      by_cases hlti : i < vs.length
      · refine W.item i _ _ _ (by simpa using hlti) ⟨hit, hlh⟩ fun v₁ h₂ tk₂ hPv hst₂ hk₂ => ?_
        obtain ⟨z, u, hzk, rfl⟩ : ∃ z u, ns[i]? = some z ∧ v₁ = .int z u := intsAt hi (by simpa using hPv)
        have F₂ := fr_but F' hk₂ (Nat.ne_of_lt hLlt) hI0
        have N₂ : News h₀ L h₂ ((I + 1, LCg.lst ys) :: (I + 1 + 1 + 1, oc) :: news) := news_but N' hk₂ fun p hp => by
          rcases List.mem_cons.mp hp with rfl | hp
          · exact Nat.succ_ne_self _
          rcases List.mem_cons.mp hp with rfl | hp
          · exact up3 I
          · exact Nat.ne_of_lt (nlt p hp)
        have hn₂ : h₂.Ns (I + 1 + 1) m' := hn'.at' fun o e => hk₂ _ o (fun hm => up2 I (List.mem_singleton.mp hm)) e
        refine wpAny_assign_Name (wpAny_storeName_cell hkind hxk (c := I + 1 + 1 + 1) (by show List.lookup x ((x, I + 1 + 1 + 1) :: cl) = _; rw [List.lookup_cons, beq_self_eq_true]) ⟨oc, (N₂ (I + 1 + 1 + 1, oc) (.tail _ (.head _))).1, hd⟩ fun h₃ hc₃ hs₃ => ?_)
        refine wpAny_tests_one ?_
        obtain ⟨oc', hoc', hd'⟩ := hc₃
        obtain ⟨oI, heI, hcI⟩ := hst₂.1
        have hn₃ : h₃.Ns (I + 1 + 1) m' := hn₂.sameBut hs₃ (Ne.symm (up1 (I + 1 + 1)))
        obtain ⟨oC, heC, hoC⟩ := ns_obj hn₃
        have F₃ : Fr h₀ L h₃ m := F₂.change hs₃ e4 hc0
        have heI₃ : h₃.get? I = some oI := (hs₃.2 I (Ne.symm (up3 I))).trans heI
        have N₃ : News h₀ L h₃ ((I, oI) :: (I + 1 + 1, oC) :: (I + 1, LCg.lst ys) :: (I + 1 + 1 + 1, oc') :: news) := fun p hp => by
          rcases List.mem_cons.mp hp with rfl | hp
          · exact ⟨heI₃, e1, hI0⟩
          rcases List.mem_cons.mp hp with rfl | hp
          · exact ⟨heC, e3, hC0⟩
          rcases List.mem_cons.mp hp with rfl | hp
          · exact ⟨(hs₃.2 _ (Ne.symm (up2 (I + 1)))).trans (N₂ _ (.head _)).1, e2, hD0⟩
          rcases List.mem_cons.mp hp with rfl | hp
          · exact ⟨hoc', e4, hc0⟩
          · exact ⟨(hs₃.2 _ (lt3 p hp)).trans (N₂ p (.tail _ (.tail _ hp))).1, (N p hp).2⟩
        refine wpAny_mono (turn z u I oI (I + 1 + 1) oC (I + 1 + 1 + 1) oc' (I + 1) ys h₃ _ _ (List.mem_of_getElem? hzk) hd' F₃ N₃) (fun ok s₄ h₄ => ?_) fun _ _ e => e
        obtain ⟨rfl, h₄, tk₄, rfl, F₄, N₄⟩ := h₄
        have zI := (N₄ (I, oI) (.head _)).1
        have zC := (N₄ (I + 1 + 1, oC) (.tail _ (.head _))).1
        have zD := (N₄ (I + 1, LCg.lst ys) (.tail _ (.tail _ (.head _)))).1
        have htk : ns.take (i + 1) = ns.take i ++ [z] := by rw [List.take_add_one, hzk]; rfl
        cases hb : p z with
        | false =>
          simp only [Bool.false_eq_true, if_false]
          refine ⟨vs.length + 1 - (i + 1), by omega, h₄, tk₄, i + 1, ys, _, oc', _, rfl, hlti, rfl, Nat.le_succ_of_le hyl, ?_, ⟨oI, zI, hcI⟩, F₄, hoC.ns zC, cb_drop N₄ (fun p hp => .tail _ (.tail _ hp)), hd'⟩
          rw [htk, List.filter_append]
          simpa [hb] using hys
        | true =>
          simp only [if_true]
          refine kcf_cell (scope := scope) (cl := (x, I + 1 + 1 + 1) :: cl) (C := I + 1 + 1) (env := env) N₄ (c := I + 1 + 1 + 1) (by rw [List.lookup_cons, beq_self_eq_true]) (.tail _ (.tail _ (.tail _ (.head _)))) hd' ?_ hkind hxk hxd
          refine append_at (hsz := by show ys.toArray.size ≤ sizeLine; rw [List.size_toArray]; omega) zD fun h₅ hs₅ hD₅ => ?_
          refine ⟨vs.length + 1 - (i + 1), by omega, h₅, tk₄, i + 1, ys ++ [.int z u], _, oc', _, rfl, hlti, rfl, by rw [List.length_append, List.length_singleton]; omega, ?_, ⟨oI, (hs₅.2 _ (Ne.symm (up1 I))).trans zI, hcI⟩, F₄.change hs₅ e2 hD0, (hoC.ns zC).sameBut hs₅ (up1 (I + 1)), fun p hp => ?_, hd'⟩
          · rw [htk, List.filter_append]
            simpa [hb] using IntsAre.append hys (.cons z u .nil)
          · rcases List.mem_cons.mp hp with rfl | hp
            · exact ⟨hD₅.trans (congrArg some (LCg.lst_snoc ys _)), e2, hD0⟩
            rcases List.mem_cons.mp hp with rfl | hp
            · exact ⟨(hs₅.2 _ (up2 (I + 1))).trans (N₄ _ (.tail _ (.tail _ (.tail _ (.head _))))).1, e4, hc0⟩
            · exact ⟨(hs₅.2 _ (lt1 p hp)).trans (N₄ p (.tail _ (.tail _ (.tail _ (.tail _ hp))))).1, (N p hp).2⟩
      · have hin : i = vs.length := by omega
        subst hin
        refine W.done _ _ _ (by simpa using ⟨hit, hlh⟩) fun h₂ tk₂ hk₂ => ?_
        refine ⟨_, hn'.at' fun o e => hk₂ _ o (fun hm => up2 I (List.mem_singleton.mp hm)) e, fun h₃ hs₃ => ?_⟩
        have hlen : ns.length = vs.length := hi.length.symm
        rw [List.take_of_length_le (by omega)] at hys
        have F₂ := fr_but F' hk₂ (Nat.ne_of_lt hLlt) hI0
        have N₂ : News h₀ L h₂ ((I + 1, LCg.lst ys) :: news) := fun p hp => by
          have hne : p.1 ≠ I := by
            rcases List.mem_cons.mp hp with rfl | hp
            · exact Nat.succ_ne_self _
            · exact Nat.ne_of_lt (nlt p hp)
          have hp' : p ∈ (I + 1, LCg.lst ys) :: (I + 1 + 1 + 1, oc) :: news := by
            rcases List.mem_cons.mp hp with rfl | hp
            · exact .head _
            · exact .tail _ (.tail _ hp)
          exact ⟨hk₂ _ _ (by simpa using hne) (N' p hp').1, (N' p hp').2⟩
        refine fin ys (I + 1) h₃ _ hys (F₂.change hs₃ e3 hC0) (fun p hp => ⟨hs₃.extBut _ _ ?_ (N₂ p hp).1, (N₂ p hp).2⟩) (off1_of fun p hp => Nat.ne_of_lt (Nat.lt_succ_of_lt (nlt p hp)))
        rcases List.mem_cons.mp hp with rfl | hp
        · exact Ne.symm (up1 (I + 1))
        · exact lt2 p hp
    · rcases List.mem_cons.mp hp with rfl | hp
      · exact ⟨gD, e2, hD0⟩
      rcases List.mem_cons.mp hp with rfl | hp
      · exact ⟨gc, e4, hc0⟩
      · exact ⟨hk4 _ _ (N p hp).1, (N p hp).2⟩
  exact codeAny_compStart_list loop (W.self 0 _ _ _ ⟨⟨_, gI, rfl, rfl⟩, News.isList (fun p hp => ⟨hk4 _ _ (N p hp).1, (N p hp).2⟩ : News h₀ L H4 news) hm⟩ loop)
/-- a list comprehension over a list of which each item is told by a relation; the ledger may grow -/
theorem comp_items {α : Type} {elt : Expr} {x : Str} {scope : Scope} {cl : List (Str × Addr)} {S : List (Addr × Obj) → Prop} {Fin : List Value → List (Addr × Obj) → Prop} {news : List (Addr × Obj)} {xs : List α} {vs : List Value} (R : α → Value → Prop) (hlen : vs.length = xs.length)
    (hR : ∀ (i : Nat) a v, xs[i]? = some a → vs[i]? = some v → R a v) (Out : List α → List Value → List (Addr × Obj) → Prop) (h0 : Out [] [] [])
    (turn : ∀ pre a v I oI C oC D m₂ ys ex h tk (E' : Value → Shared → Prop), a ∈ xs → R a v → Out pre ys ex → LCg.NsObj oC m₂ → m₂ x = some v → Fr h₀ L h m → News h₀ L h ((I, oI) :: (C, oC) :: (D, LCg.lst ys) :: (ex ++ news)) → LCg.Off3 I C D (ex ++ news) → ((@Ne Nat I C) ∧ (@Ne Nat I D) ∧ (@Ne Nat C D)) →
      wpAny (model prog w) A (eval elt (compEnvC scope cl C env)) (LCg.CompEnd h₀ L m { s with heap := h, toks := tk } I oI C oC D (LCg.lst ys) S (fun y news' => ∃ ex', news' = ex' ++ news ∧ Out (pre ++ [a]) (ys ++ [y]) ex')) E' { s with heap := h, toks := tk })
    (fin : ∀ ys ex, Out xs ys ex → Fin ys (ex ++ news)) : LCg.CompRest prog w A h₀ L m env elt x scope cl s S (fun i v => vs.toArray[i]? = some v) Fin vs.toArray.size 0 [] news := by
  have key : ∀ (j i : Nat) (ys : List Value) (ex : List (Addr × Obj)), i + j = vs.length → Out (xs.take i) ys ex → LCg.CompRest prog w A h₀ L m env elt x scope cl s S (fun i v => vs.toArray[i]? = some v) Fin j i ys (ex ++ news) := by
    intro j
    induction j with
    | zero =>
      intro i ys ex hi hy
      have e : i = xs.length := by omega
      subst e
      rw [List.take_length] at hy
      exact LCg.CompRest.zero (fin ys ex hy)
    | succ j ih =>
      intro i ys ex hi hy
      refine LCg.CompRest.succ ?_
      intro v I oI C oC D m₂ h tk E' hv hC hx F N off ne
      have h2 : i < xs.length := by omega
      have hv1 : vs[i]? = some v := by simpa using hv
      have ha : xs[i]? = some xs[i] := List.getElem?_eq_getElem h2
      refine wpAny_mono (turn (xs.take i) xs[i] v I oI C oC D m₂ ys ex h tk E' (List.getElem_mem h2) (hR i _ _ ha hv1) hy hC hx F N off ne) (fun y s₂ hq => ?_) fun _ _ e => e
      obtain ⟨h', tk', nw, e, F', N', off', hS, ex', hn, hO⟩ := hq
      rw [hn] at N' off' hS
      refine ⟨h', tk', ex' ++ news, e, F', N', off', hS, ?_⟩
      refine ih (i + 1) _ _ (by omega) ?_
      rw [List.take_add_one, ha]
      exact hO
  rw [List.size_toArray]
  exact key vs.length 0 [] [] (by omega) h0
/-- the end of a turn of a for over a list of the ledger, whatever its target -/
inductive EndG (h₀ : Heap) (L : Addr) (J : Tok → (Str → Option Value) → List (Addr × Obj) → Prop) (own : List (Addr × Obj)) (s₁ s₂ : Shared) : Prop
  | mk (h' : Heap) (tk : Tok) (m' : Str → Option Value) (nw : List (Addr × Obj)) (e : s₂ = { s₁ with heap := h', toks := tk }) (F : Fr h₀ L h' m') (N : News h₀ L h' (nw ++ own)) (j : J tk m' nw)
inductive IterGInv (s : Shared) (h₀ : Heap) (L l : Addr) (n : Nat) (J : Nat → Tok → (Str → Option Value) → List (Addr × Obj) → Prop) (k : Nat) (s' : Shared) : Prop
  | mk (h : Heap) (tk : Tok) (m : Str → Option Value) (nw : List (Addr × Obj)) (i : Nat) (o : Obj) (e : s' = { s with heap := h, toks := tk }) (it : h.IsListIter s.heap.objs.size l i) (g : h.get? s.heap.objs.size = some o) (F : Fr h₀ L h m) (N : News h₀ L h nw) (j : J i tk m nw) (hi : i ≤ n) (hk : k = n + 1 - i)
noncomputable def PostG (h₀ : Heap) (L : Addr) (J : Tok → (Str → Option Value) → List (Addr × Obj) → Prop) (own : List (Addr × Obj)) (s₁ : Shared) (Q : Flow → Shared → Prop) : Flow → Shared → Prop
  | .ret v, s₂ => Q (.ret v) s₂
  | .brk, s₂ => Q .next s₂
  | .next, s₂ => EndG h₀ L J own s₁ s₂
  | .cont, s₂ => EndG h₀ L J own s₁ s₂
theorem iterG {l : Addr} {items : List Value} {nn : Nat} {m₀ : Str → Option Value} {news : List (Addr × Obj)} {target : Expr} {body : List Stmt} {Q : Flow → Shared → Prop} (J : Nat → Tok → (Str → Option Value) → List (Addr × Obj) → Prop)
    (hh : A.handled = none) (F : Fr h₀ L s.heap m₀) (N : News h₀ L s.heap news) (hj : J 0 s.toks m₀ news)
    (mono : ∀ i t t' m nw, t ≤ t' → J i t m nw → J i t' m nw) (hold : ∀ i t m nw, J i t m nw → (l, listOf items.toArray nn) ∈ nw ∧ ∀ p ∈ nw, p.1 ≠ s.heap.objs.size)
    (turn : ∀ i v t h o m nw, items[i]? = some v → J i t m nw → Fr h₀ L h m → News h₀ L h (nw ++ [(s.heap.objs.size, o)]) →
      wpAny (model prog w) A (assign target env v) (fun _ s₂ => wpAny (model prog w) A (execs body env) (PostG h₀ L (J (i + 1)) [(s.heap.objs.size, o)] { s with heap := h, toks := t } Q) E s₂) E { s with heap := h, toks := t })
    (done : ∀ t h m nw, J items.length t m nw → Fr h₀ L h m → News h₀ L h nw → Q .next { s with heap := h, toks := t })
    (hE : PassesOwn (model prog w) A env E) :
    wpAny (model prog w) A (pyIter (.ref l)) (fun it s₂ => codeAny (model prog w) A (.forLoop target it body [] env) (fun r s' => match r with | .ok f => Q f s' | .error e => cameBackBy (model prog w) A env E e s') s₂) E s := by
  have hls : s.heap.IsList l items.toArray := News.isList N (hold 0 _ _ _ hj).1
  have hlI : l < s.heap.objs.size := by obtain ⟨_, e, _⟩ := id hls; exact Heap.lt_size e
  have hLI : L < s.heap.objs.size := F.ns.lt
  have hfI : h₀.get? s.heap.objs.size = none := next_is_new F
  have W := Walks.list (prog := prog) (w := w) hh s.heap.objs.size l (Nat.ne_of_lt hlI) items.toArray
  rw [List.size_toArray] at W
  refine wpAny_pyIter_list hls ?_
  refine codeAny_forLoop_any (IterGInv s h₀ L l items.length J) ?_ (items.length + 1)
    ⟨_, _, m₀, news, 0, _, rfl, ⟨_, Heap.get?_push_size _ rfl, rfl, rfl⟩, Heap.get?_push_size _ rfl, F.push _, fun p hp => ⟨Heap.get?_push_of_some _ (N p hp).1, (N p hp).2⟩, hj, Nat.zero_le _, rfl⟩
  rintro k s' ⟨h, tk, m, nw, i, o, rfl, hit, ho, Fh, Nh, hJ, hi, rfl⟩
  obtain ⟨hmem, hadr⟩ := hold _ _ _ _ hJ
  have hlh : h.IsList l items.toArray := News.isList Nh hmem
  by_cases hci : i < items.length
  · refine wpAny_with_toks (n := tk) (Nat.le_refl _) (W.item i _ _ _ hci ⟨hit, hlh⟩ fun v h₁ tk₁ hv hst hk₁ htk => ?_)
    have F₁ := fr_but Fh hk₁ (Nat.ne_of_lt hLI) hfI
    have N₁ := news_but Nh hk₁ hadr
    obtain ⟨o₁, ho₁, hcl⟩ := id hst.1
    have N₂ : News h₀ L h₁ (nw ++ [(s.heap.objs.size, o₁)]) := fun p hp => by
      rcases List.mem_append.mp hp with hp | hp
      · exact N₁ p hp
      · rw [List.mem_singleton.mp hp]; exact ⟨ho₁, Nat.ne_of_gt hLI, hfI⟩
    refine letGo_listiter hst.1 ?_
    refine wpAny_mono (turn i v _ h₁ o₁ m nw (by simpa using hv) (mono _ _ _ _ _ htk hJ) F₁ N₂) (fun _ s₂ h₂ => wpAny_mono (wpAny_passesOwn hE h₂) (fun f s₃ q => ?_) fun _ _ y => y) hE
    have fin : EndG h₀ L (J (i + 1)) [(s.heap.objs.size, o₁)] { s with heap := h₁, toks := tk₁ } s₃ → ∃ k', k' < items.length + 1 - i ∧ IterGInv s h₀ L l items.length J k' s₃ := by
      rintro ⟨h₄, t₄, m₄, nw₄, rfl, F₄, N₄, J₄⟩
      have hI := (N₄ (s.heap.objs.size, o₁) (List.mem_append_right _ (List.mem_singleton.mpr rfl))).1
      exact ⟨items.length + 1 - (i + 1), by omega, h₄, t₄, m₄, nw₄, i + 1, o₁, rfl, ⟨_, hI, hcl⟩, hI, F₄, fun p hp => N₄ p (List.mem_append_left _ hp), J₄, hci, rfl⟩
    cases f with
    | ret r => exact q
    | brk => exact q
    | next => exact fin q
    | cont => exact fin q
  · have hin : i = items.length := by omega
    subst hin
    refine wpAny_with_toks (n := tk) (Nat.le_refl _) (W.done _ _ _ ⟨hit, hlh⟩ fun h₁ tk₁ hk₁ htk => wpAny_execs_nil ?_)
    exact done tk₁ h₁ m nw (mono _ _ _ _ _ htk hJ) (fr_but Fh hk₁ (Nat.ne_of_lt hLI) hfI) (news_but Nh hk₁ hadr)
end
end Mine2
namespace Mine2
noncomputable def marksT : List Int := [35184380477442, 34376515586, 17213423618, 35184372097028, 34359754756, 17179901956, 35184372092936, 33570824, 16809992, 34359742480, 33562640, 8421392, 17179873312, 16785440, 8405024]
noncomputable def markAt (k : Int) : Int := marksT.getD k.toNat 0
theorem intsGet : ∀ {vs : List Value} {ns : List Int} {i : Nat}, IntsAre vs ns → i < ns.length → ∃ t, vs[i]? = some (.int (ns.getD i 0) t)
  | _, _, _, .nil, h => by simp at h
  | _, _, 0, .cons n t _, _ => ⟨t, rfl⟩
  | _, _, i + 1, .cons n t r, h => by simpa using intsGet (i := i) r (by simpa using h)
theorem mark_item {prog : Program} {w : World} {A : Around} {E : Value → Shared → Prop} {s : Shared} {value slice : PySem.Expr} {h₀ : Heap} {L l : Addr} {news : List (Addr × Obj)} {ys : List Value} {k : Int} {u : Tok} {Q : Value → Shared → Prop} (N : News h₀ L s.heap news) (hm : (l, LCg.lst ys) ∈ news) (hy : IntsAre ys marksT) (h0 : 0 ≤ k) (hhi : k < 15)
    (h : ∀ t, Q (.int (markAt k) t) s) (hs : subscripted slice false (.ref l) (.int k u) = operate [.ref l, .int k u] (getItem (.ref l) (.int k u)) := by with_unfolding_all rfl) : wpAny (model prog w) A (subscriptTail value slice (.ref l) (.int k u)) Q E s := by
  obtain ⟨t, e⟩ := intsGet hy (i := k.toNat) (by show k.toNat < 15; omega)
  exact item_list (News.isList N hm) h0 (by omega) (by rw [List.getElem?_toArray]; exact e) hs (h t)
theorem le_mil {x : Int} (h : x < 50) : x ≤ 1000000 := by omega
local macro_rules | `(tactic| kcf_m) => `(tactic| first | assumption | exact List.Mem.head _ | (refine in_r ?_; kcf_m) | (refine List.Mem.tail _ ?_; kcf_m) | (refine in_l ?_; kcf_m))
local macro_rules | `(tactic| kcf_all) => `(tactic| first | exact sub_nil | exact fun _ hp => hp | (refine sub_move0 ?_; kcf_all) | (refine sub_move1 ?_; kcf_all) | (refine sub_move2 ?_; kcf_all) | (refine sub_move3 ?_; kcf_all) | (refine sub_keep ?_; kcf_all) | (refine sub_cons ?_ ?_; (focus kcf_m); kcf_all) | (refine sub_app ?_ ?_; (focus kcf_all); kcf_all) | (intro p hp; kcf_m))
theorem words7n : True := by
  k_with_none
  k_with "st" => (repeat' ((fail_if_success (with_reducible show wpAny _ _ (pyIter _) _ _ _)); (fail_if_success (with_reducible show InvEndN _ _ _ _ _ _ _)); (fail_if_success (with_reducible show KswEnd _ _ _ _ _ _ _ _ _ _ _ _)); (fail_if_success (with_reducible show wpAny _ _ (call (Value.builtin "list.append") _) _ _ _)); (fail_if_success (with_reducible show wpAny _ _ (call (Value.ref _) _) _ _ _)); (fail_if_success (with_reducible show wpAny _ _ (exec (Stmt.For _ _ _ _ _) _) _ _ _)); (fail_if_success (with_reducible show wpAny _ _ (exec (Stmt.While _ _ _ _) _) _ _ _)); first | (k_unfold; (try dsimp only)) | (k_end; wrow_close) | walk1 | (dsimp only; walk1) | (leave1; walk_say "STEP leave1"; try dsimp only) | fail "no step"))
  k_with "sx" => (repeat' ((fail_if_success (with_reducible show wpAny _ _ (pyIter _) _ _ _)); (fail_if_success (with_reducible show wpAny _ _ (execs (_ :: _) _) _ _ _)); (fail_if_success (with_reducible show wpAny _ _ (call (Value.builtin "list.append") _) _ _ _)); (fail_if_success (with_reducible show wpAny _ _ (call (Value.ref _) _) _ _ _)); (fail_if_success (with_reducible show wpAny _ _ (exec (Stmt.For _ _ _ _ _) _) _ _ _)); (fail_if_success (with_reducible show wpAny _ _ (exec (Stmt.While _ _ _ _) _) _ _ _)); first | (k_unfold; (try dsimp only)) | (k_end; wrow_close) | walk1 | (dsimp only; walk1) | (leave1; walk_say "STEP leave1"; try dsimp only) | fail "no step"))
  k_with "lc" => (repeat' ((fail_if_success (with_reducible show wpAny _ _ (eval (Expr.ListComp _ _ _ _) _) _ _ _)); (fail_if_success (with_reducible show wpAny _ _ (subscriptTail _ _ _ _) _ _ _)); (fail_if_success (with_reducible show wpAny _ _ (exec (Stmt.Assign [_] (Expr.ListComp _ _ _ _) _) _) _ _ _)); (fail_if_success (with_reducible show LCg.CompEnd _ _ _ _ _ _ _ _ _ _ _ _ _ _)); (fail_if_success (with_reducible show LCt.CompSrcT _ _ _ _ _ _ _ _ _ _ _ _ _ _ _)); (fail_if_success (with_reducible show wpAny _ _ (pyIter _) _ _ _)); (fail_if_success (with_reducible show wpAny _ _ (call (Value.builtin "list.append") _) _ _ _)); (fail_if_success (with_reducible show wpAny _ _ (call (Value.ref _) _) _ _ _)); (fail_if_success (with_reducible show wpAny _ _ (exec (Stmt.For _ _ _ _ _) _) _ _ _)); (fail_if_success (with_reducible show wpAny _ _ (exec (Stmt.While _ _ _ _) _) _ _ _)); first | (k_unfold; (try dsimp only)) | (k_end; wrow_close) | walk1 | (dsimp only; walk1) | (leave1; walk_say "STEP leave1"; try dsimp only) | fail "no step"))
  k_with "lt" => (repeat' ((fail_if_success (with_reducible show wpAny _ _ (eval (Expr.ListComp _ _ _ _) _) _ _ _)); (fail_if_success (with_reducible show wpAny _ _ (exec (Stmt.Assign [_] (Expr.ListComp _ _ _ _) _) _) _ _ _)); (fail_if_success (with_reducible show LCg.CompEnd _ _ _ _ _ _ _ _ _ _ _ _ _ _)); (fail_if_success (with_reducible show LCt.CompSrcT _ _ _ _ _ _ _ _ _ _ _ _ _ _ _)); (fail_if_success (with_reducible show wpAny _ _ (pyIter _) _ _ _)); (fail_if_success (with_reducible show wpAny _ _ (call (Value.builtin "list.append") _) _ _ _)); (fail_if_success (with_reducible show wpAny _ _ (call (Value.ref _) _) _ _ _)); (fail_if_success (with_reducible show wpAny _ _ (exec (Stmt.For _ _ _ _ _) _) _ _ _)); (fail_if_success (with_reducible show wpAny _ _ (exec (Stmt.While _ _ _ _) _) _ _ _)); first | (k_unfold; (try dsimp only)) | (k_end; wrow_close) | walk1 | (dsimp only; walk1) | (leave1; walk_say "STEP leave1"; try dsimp only) | fail "no step"))
  k_with "pw" => (repeat' ((fail_if_success (with_reducible show wpAny _ _ (binaryOp Operator.Pow _ _) _ _ _)); (fail_if_success (with_reducible show wpAny _ _ (eval (Expr.ListComp _ _ _ _) _) _ _ _)); (fail_if_success (with_reducible show wpAny _ _ (exec (Stmt.Assign [_] (Expr.ListComp _ _ _ _) _) _) _ _ _)); (fail_if_success (with_reducible show LCg.CompEnd _ _ _ _ _ _ _ _ _ _ _ _ _ _)); (fail_if_success (with_reducible show LCt.CompSrcT _ _ _ _ _ _ _ _ _ _ _ _ _ _ _)); (fail_if_success (with_reducible show wpAny _ _ (pyIter _) _ _ _)); (fail_if_success (with_reducible show wpAny _ _ (call (Value.builtin "list.append") _) _ _ _)); (fail_if_success (with_reducible show wpAny _ _ (call (Value.ref _) _) _ _ _)); (fail_if_success (with_reducible show wpAny _ _ (exec (Stmt.For _ _ _ _ _) _) _ _ _)); (fail_if_success (with_reducible show wpAny _ _ (exec (Stmt.While _ _ _ _) _) _ _ _)); first | (k_unfold; (try dsimp only)) | (k_end; wrow_close) | walk1 | (dsimp only; walk1) | (leave1; walk_say "STEP leave1"; try dsimp only) | fail "no step"))
  k_with "for" => ((rename Fr _ _ _ _ => lF'); (with_reducible refine' For_invVF lF' ?k1 ?k2 ?_ ?k3 ?k4); (case k1 => exact rfl); (case k2 => exact rfl); (case k3 => intro _; rfl); (case k4 => passes_own))
  k_with "same" => (intro z h2 h3; (simp only [List.contains_cons, List.contains_nil, Bool.or_false, Bool.or_eq_false_iff, beq_eq_false_iff_ne, ne_eq] at h3); simp [h2, h3])
  k_with "tle" => (repeat' (first | assumption | exact Nat.le_refl _ | refine Nat.le_succ_of_le ?_))
  k_with "here" => (first | k_asm | exact rfl | ktr_room | ktr_units)
  k_with "subscriptTail" => ((rename News _ _ _ _ => N'); refine' mark_item N' ?ka ?kb ?kc ?kd ?_; (case ka => k_mem); (case kb => assumption); (case kc => omega); (case kd => omega); intro _)
  k_with "one" => (first | (k_unfold; (try dsimp only)) | (k_end; wrow_close) | walk1 | (dsimp only; walk1) | (leave1; walk_say "STEP leave1"; try dsimp only) | fail "no step")
  trivial
section
variable {w : World} {mean : ExcName → Option Value} {mg mb : Str → Option Value} {dp un : Nat} {gd : Option (List Code)} {cn : Str} {cs : Scope} {a : Addr} {ccd : Value} {cl : List (Str × Addr)} {outer : List Env} {A₀ : Around} {base h₀ : Heap} {L : Addr} {m : Str → Option Value} {news : List (Addr × Obj)} {s : Shared} {Q E : Value → Shared → Prop}
theorem RowsAre_get {us : List Value} {os : List (Addr × Obj)} {rs : List (List Int)} (h : RowsAre us os rs) : ∀ {i : Nat} {r : List Int} {v : Value}, rs[i]? = some r → us[i]? = some v → ∃ D vs n, v = .ref D ∧ (D, listOf vs.toArray n) ∈ os ∧ IntsAre vs r := by
  induction h with
  | nil => intro i r v h1; simp at h1
  | @snoc us os rs D vs r n h0 hv ih =>
    intro i r' v h1 h2
    have hl := RowsAre_len h0
    rcases Nat.lt_or_ge i rs.length with hi | hi
    · rw [List.getElem?_append_left hi] at h1
      rw [List.getElem?_append_left (by omega)] at h2
      obtain ⟨D', vs', n', e, hm, hi'⟩ := ih h1 h2
      exact ⟨D', vs', n', e, List.mem_append_left _ hm, hi'⟩
    · rw [List.getElem?_append_right hi] at h1
      rw [List.getElem?_append_right (by omega)] at h2
      rcases Nat.eq_zero_or_pos (i - rs.length) with e | e
      · rw [e] at h1
        rw [hl, e] at h2
        cases h1; cases h2
        exact ⟨D, vs, n, rfl, List.mem_append_right _ (.head _), hv⟩
      · rw [List.getElem?_eq_none (by simpa using Nat.succ_le_of_lt e)] at h1
        cases h1
noncomputable def markOf (r : List Int) : Int := 2 ^ (r.getD 0 0).toNat + 2 ^ (r.getD 1 0).toNat + 2 ^ (r.getD 2 0).toNat
theorem rows_bounds : ∀ r ∈ rowsTab, ∃ x y z : Int, r = [x, y, z] ∧ 0 ≤ x ∧ x < 50 ∧ 0 ≤ y ∧ y < 50 ∧ 0 ≤ z ∧ z < 50 := by
  intro r hr
  simp only [rowsTab, List.mem_cons, List.not_mem_nil, or_false] at hr
  rcases hr with rfl | rfl | rfl | rfl | rfl | rfl | rfl | rfl | rfl | rfl | rfl | rfl | rfl | rfl | rfl <;> exact ⟨_, _, _, rfl, by decide, by decide, by decide, by decide, by decide, by decide⟩
noncomputable def totAll : List (Option (List Int)) := [none, some [0, 4, 8, 10, 12], some [0, 5, 7, 9, 13], some [1, 3, 7, 11, 12], none, some [1, 5, 6, 10, 14], some [2, 3, 8, 9, 14], some [2, 4, 6, 11, 13], none]
noncomputable def totPre (n : Nat) : List (List Int) := (totAll.take n).filterMap id
noncomputable def totalsTab : List (List Int) := [[0, 4, 8, 10, 12], [0, 5, 7, 9, 13], [1, 3, 7, 11, 12], [1, 5, 6, 10, 14], [2, 3, 8, 9, 14], [2, 4, 6, 11, 13]]
noncomputable def freeOf (a b : Int) : List Int := List.foldl (fun l k => if Builtin.bitAnd (markAt k) (Builtin.bitOr (markAt a) (markAt b)) = 0 then l ++ [k] else l) [] (rangeKs 6 (15 - 6 : Int).toNat)
noncomputable def okIn (fr : List Int) (k : Int) : Bool := decide ((List.foldl (fun l m => if Builtin.bitAnd (markAt k) (markAt m) = 0 then l ++ [m] else l) [] fr).length = 2)
theorem foldIf_mem (p : Int → Bool) : ∀ (xs l : List Int) (k : Int), k ∈ List.foldl (fun l k => if p k = true then l ++ [k] else l) l xs → k ∈ l ∨ k ∈ xs
  | [], l, k, h => .inl h
  | x :: xs, l, k, h => by
    rw [List.foldl_cons] at h
    rcases foldIf_mem p xs _ k h with h | h
    · split at h
      · rcases List.mem_append.mp h with h | h
        · exact .inl h
        · rw [List.mem_singleton.mp h]; exact .inr (.head _)
      · exact .inl h
    · exact .inr (.tail _ h)
theorem freeOf_in (a b : Int) : ∀ k ∈ freeOf a b, 6 ≤ k ∧ k < 15 := by
  intro k hk
  have h : k ∈ List.foldl (fun l k => if (decide (Builtin.bitAnd (markAt k) (Builtin.bitOr (markAt a) (markAt b)) = 0)) = true then l ++ [k] else l) [] (rangeKs 6 (15 - 6 : Int).toNat) := by
    simpa only [freeOf, decide_eq_true_eq] using hk
  rcases foldIf_mem _ _ _ _ h with h | h
  · cases h
  · obtain ⟨h1, h2⟩ := mem_rangeKs h
    exact ⟨h1, by omega⟩
theorem ok_len (fr : List Int) (k : Int) : (((List.foldl (fun l z => if Builtin.bitAnd (markAt k) (markAt z) = 0 then l ++ [z] else l) [] fr).length : Int) == 2) = okIn fr k := by
  unfold okIn
  generalize (List.foldl (fun l z => if Builtin.bitAnd (markAt k) (markAt z) = 0 then l ++ [z] else l) [] fr).length = n
  rw [Bool.eq_iff_iff, beq_iff_eq, decide_eq_true_iff]
  omega
theorem totPre_len (n : Nat) : (totPre n).length ≤ 9 := by
  refine Nat.le_trans (List.length_filterMap_le ..) ?_
  rw [List.length_take]
  exact Nat.min_le_right _ _
theorem tot_tab : ∀ i j : Fin 3, (Builtin.bitAnd (markAt (0 + (i.val : Int))) (markAt (3 + (j.val : Int))) = 0 → totPre (3 * i.val + (j.val + 1)) = totPre (3 * i.val + j.val) ++ [[0 + (i.val : Int), 3 + (j.val : Int)] ++ (freeOf (0 + (i.val : Int)) (3 + (j.val : Int))).filter (okIn (freeOf (0 + (i.val : Int)) (3 + (j.val : Int))))]) ∧ (¬ Builtin.bitAnd (markAt (0 + (i.val : Int))) (markAt (3 + (j.val : Int))) = 0 → totPre (3 * i.val + (j.val + 1)) = totPre (3 * i.val + j.val)) := by decide +kernel
theorem tot_next {i j : Nat} (hi : i < 3) (hj : j < 3) (hc : Builtin.bitAnd (markAt (0 + (i : Int))) (markAt (3 + (j : Int))) = 0) : totPre (3 * i + (j + 1)) = totPre (3 * i + j) ++ [[0 + (i : Int), 3 + (j : Int)] ++ (freeOf (0 + (i : Int)) (3 + (j : Int))).filter (okIn (freeOf (0 + (i : Int)) (3 + (j : Int))))] := (tot_tab ⟨i, hi⟩ ⟨j, hj⟩).1 hc
theorem tot_skip {i j : Nat} (hi : i < 3) (hj : j < 3) (hc : ¬ Builtin.bitAnd (markAt (0 + (i : Int))) (markAt (3 + (j : Int))) = 0) : totPre (3 * i + (j + 1)) = totPre (3 * i + j) := (tot_tab ⟨i, hi⟩ ⟨j, hj⟩).2 hc
inductive TotJ (T : Addr) (L' : Nat) (mk : Obj) (Dm : Addr) (ms : List Value) (news : List (Addr × Obj)) (I : Nat) (i : Nat) (m : Str → Option Value) (nw : List (Addr × Obj)) : Prop
  | mk (o3 : Obj) (v3 : Option Value) (o4 : Obj) (v4 : Option Value) (us : List Value) (os : List (Addr × Obj)) (cc : Nat) (e : nw = (T, listOf us.toArray cc) :: (L' + 1, mk) :: (Dm, LCg.lst ms) :: (L' + 1 + 1 + 1, o3) :: (L' + 1 + 1 + 1 + 1, o4) :: (os ++ news)) (d3 : o3.data = Data.cell v3) (d4 : o4.data = Data.cell v4) (r : RowsAre us os (totPre (3 * i))) (hm : m (Str.ofString "totals") = some (.ref T)) (ho : ∀ p ∈ os, I < p.1)
inductive TotJ2 (T : Addr) (L' : Nat) (mk : Obj) (Dm : Addr) (ms : List Value) (oc : Obj) (os news : List (Addr × Obj)) (i I j : Nat) (m : Str → Option Value) (nw : List (Addr × Obj)) : Prop
  | mk (o4 : Obj) (v4 : Option Value) (us : List Value) (osn : List (Addr × Obj)) (cc : Nat) (e : nw = (T, listOf us.toArray cc) :: (L' + 1, mk) :: (Dm, LCg.lst ms) :: (L' + 1 + 1, oc) :: (L' + 1 + 1 + 1 + 1, o4) :: (os ++ osn ++ news)) (d4 : o4.data = Data.cell v4) (r : RowsAre us (os ++ osn) (totPre (3 * i + j))) (hm : m (Str.ofString "totals") = some (.ref T)) (ho : ∀ p ∈ osn, I < p.1)
theorem totals_ok {l : Addr} {us : List Value} {os : List (Addr × Obj)} {nn : Nat} (H : Here 9 w mean mg mb dp un cs outer A₀ base h₀ L m news s.heap) (hl : (l, listOf us.toArray nn) ∈ news) (hos : ∀ p ∈ os, p ∈ news) (hr : RowsAre us os rowsTab)
  (hret : ∀ D us os cc h' tk' L1, RowsAre us os totalsTab → Fr h₀ L h' m → News h₀ L h' ((D, listOf us.toArray cc) :: (os ++ news)) → (∀ p ∈ news, p.1 < L1) → L1 < D → (∀ p ∈ os, D < p.1) → Q (.ref D) { s with heap := h', toks := tk' }) :
  wpAny (model PySem.Challenge.rw_sn0021_02.row.prog w) (ktrTop dp un gd cn cs L a ccd cl outer) (call (.ref 66) [.ref l]) Q E s := by
  obtain ⟨B, F, X, N, T, hk, hd, hu⟩ := H
  refine wpAny_call ?_
  k_dflt (refine' code_defC ?k1 ?k2 ?k3 ?k4 ?k5 ?kA ?kF ?kK ?k6 ?k7 ?k8 ?k9 ?kB ?c5 ?_ ?c2 ?c3 ?c4; (case kA => exact rfl); (case kF => exact rfl); (case kK => assumption); (case k1 => k_asm); (case k2 => k_asm); (case k3 => k_asm); (case k4 => k_asm); (case k5 => k_asm); (case k6 => k_is); (case k7 => k_is); (case k8 => ktr_room); (case k9 => exact BindsTo.of_eq rfl); (case kB => exact rfl); (case c5 => decide); (case c2 => exact rfl); (case c3 => exact rfl); (case c4 => exact rfl); k_whole)
  intro g' L' h' tk' cells' FG' F' N' Y' B' X' T' l'
  repeat (have X1 := Y'; clear Y'; obtain ⟨_, _, he, _, Y'⟩ := kc_more X1; subst he; clear X1)
  have he := kc_last Y'; subst he
  clear Y'
  (try dsimp only)
  change Fr g' L' h' (fun y => if y = Str.ofString "rows" then some (Value.ref l) else none) at F'
  (try k_lift B')
  (try k_fold)
  k_extra "lt"
  rename_i c4 hc4 c3 hc3 c2 hc2 c1 hc1
  change c4.data = Data.cell none at hc4
  change c3.data = Data.cell none at hc3
  change c2.data = Data.cell none at hc2
  change c1.data = Data.cell none at hc1
  refine wpAny_Assign_Name ?_ (by with_unfolding_all rfl)
  k_dflt (refine LCg.ListComp_U (F₀ := by k_asm) (by with_unfolding_all rfl) (by decide) (by rfl) (by decide) (by rfl) ?_)
  k_extra "lt"
  have hlen := RowsAre_len hr
  refine LCg.CompSrc.ledger (by rfl) (by k_asm) (by k_asm) (.tail _ (.tail _ (.tail _ (.tail _ hl)))) (by rw [List.size_toArray, hlen]; exact Nat.le_of_ble_eq_true rfl) ?_
  intro g2
  refine comp_items (xs := rowsTab) (fun r v => ∃ D vs n, v = .ref D ∧ (D, listOf vs.toArray n) ∈ news ∧ IntsAre vs r) hlen (fun i r v h1 h2 => ?_) (fun pre ys ex => ex = [] ∧ IntsAre ys (pre.map markOf)) ⟨rfl, .nil⟩ ?_ ?_
  · obtain ⟨D, vs, n, e, hm, hi⟩ := RowsAre_get hr h1 h2
    exact ⟨D, vs, n, e, hos _ hm, hi⟩
  · rintro pre r v I oI C oC D m2 ys ex h tk E' hmem ⟨d, vs, n, rfl, hd, hi⟩ ⟨rfl, hys⟩ hoC hx fE nE off ne
    obtain ⟨x, y, z, rfl, hx0, hx1, hy0, hy1, hz0, hz1⟩ := rows_bounds r hmem
    obtain ⟨t1, t2, t3, rfl⟩ := ints3 hi
    clear hos hr
    simp only [List.nil_append] at nE
    have nE2 := cb_drop (news := (d, listOf [Value.int x t1, Value.int y t2, Value.int z t3].toArray n) :: (I, oI) :: (C, oC) :: (D, LCg.lst ys) :: ([(L' + 1 + 1 + 1 + 1, c4), (L' + 1 + 1 + 1, c3), (L' + 1 + 1, c2), (L' + 1, c1)] ++ news)) nE (fun p hp => by
      rcases List.mem_cons.mp hp with rfl | hp
      · exact .tail _ (.tail _ (.tail _ (.tail _ (.tail _ (.tail _ (.tail _ hd))))))
      · exact hp)
    clear nE hi
    dsimp only
    k_extra "pw"
    refine pow_int_small (show (0 : Int) ≤ x from hx0) (le_mil (show x < 50 from hx1)) (by decide) ?_
    k_extra "pw"
    refine pow_int_small (show (0 : Int) ≤ y from hy0) (le_mil (show y < 50 from hy1)) (by decide) ?_
    k_extra "pw"
    refine pow_int_small (show (0 : Int) ≤ z from hz0) (le_mil (show z < 50 from hz1)) (by decide) ?_
    k_extra "pw"
    rename News _ _ _ _ => nE3
    refine LCg.CompEnd.intro (by assumption) nE3 ([(L' + 1 + 1 + 1 + 1, c4), (L' + 1 + 1 + 1, c3), (L' + 1 + 1, c2), (L' + 1, c1)] ++ news) (fun p hp => .tail _ hp) off ?_ ?_
    · exact Or.inr ⟨_, .tail _ (.tail _ (.tail _ (.tail _ hl))), rfl, _, rfl⟩
    refine ⟨[], rfl, rfl, ?_⟩
    rw [List.map_append]
    exact IntsAre.append hys (.cons _ _ .nil)
  · rintro ms ex ⟨rfl, hys⟩
    simp only [List.nil_append, List.cons_append]
    k_extra "st"
    rename_i Dm hM tkM fM nM oM
    try simp only [List.cons_append, List.nil_append] at nM oM
    have nM2 := cb_drop (news := (L' + 1, c1) :: (Dm, LCg.lst ms) :: (L' + 1 + 1, c2) :: (L' + 1 + 1 + 1, c3) :: (L' + 1 + 1 + 1 + 1, c4) :: news) nM (by kcf_all)
    refine storeX_C fM nM2 (by rfl) (UpdF.head fun p hp => ?_) hc1 ?_
    · rcases List.mem_cons.mp hp with rfl | hp
      · exact Ne.symm oM.2.2.2.1
      rcases List.mem_cons.mp hp with rfl | hp
      · exact Nat.succ_ne_self _
      rcases List.mem_cons.mp hp with rfl | hp
      · exact Nat.ne_of_gt (Nat.lt_succ_of_lt (Nat.lt_succ_self _))
      rcases List.mem_cons.mp hp with rfl | hp
      · exact Nat.ne_of_gt (Nat.lt_succ_of_lt (Nat.lt_succ_of_lt (Nat.lt_succ_self _)))
      · exact Nat.ne_of_lt (Nat.lt_succ_of_lt (l' p hp))
    intro h2 mk f2 n2 hmk
    clear fM nM nM2
    change IntsAre ms marksT at hys
    k_extra "st"
    rename_i T hT lT hT2 fT nT
    refine forT ?_ (by intro _; rfl)
    k_extra "st"
    rename Fr _ _ _ _ => fE
    rename News _ _ _ _ => nE
    rename IsRange _ _ _ _ _ _ _ _ => hR
    rename Heap => hC
    have nF := cb_drop (news := (L' + 1 + 1, c2) :: (T, listOf #[] 0) :: (L' + 1, mk) :: (Dm, LCg.lst ms) :: (L' + 1 + 1 + 1, c3) :: (L' + 1 + 1 + 1 + 1, c4) :: ([] ++ news)) nE (by kcf_all)
    have ltT : T < hC.objs.size := Heap.lt_size (nF (T, listOf #[] 0) (.tail _ (.head _))).1
    have ltM : Dm < hC.objs.size := Heap.lt_size (nF (Dm, LCg.lst ms) (.tail _ (.tail _ (.tail _ (.head _))))).1
    have lt1 : L' + 1 < hC.objs.size := Nat.lt_trans lT.1 ltT
    have lt2 : L' + 1 + 1 < hC.objs.size := Nat.lt_trans lT.2.2.1 ltT
    have lt3 : L' + 1 + 1 + 1 < hC.objs.size := Nat.lt_trans lT.2.2.2.1 ltT
    have lt4 : L' + 1 + 1 + 1 + 1 < hC.objs.size := Nat.lt_trans lT.2.2.2.2.1 ltT
    have n12 : L' + 1 ≠ L' + 1 + 1 := Nat.ne_of_lt (Nat.lt_succ_self _)
    have n32 : L' + 1 + 1 + 1 ≠ L' + 1 + 1 := Nat.succ_ne_self _
    have n42 : L' + 1 + 1 + 1 + 1 ≠ L' + 1 + 1 := Nat.ne_of_gt (Nat.lt_succ_of_lt (Nat.lt_succ_self _))
    have n13 : L' + 1 ≠ L' + 1 + 1 + 1 := Nat.ne_of_lt (Nat.lt_succ_of_lt (Nat.lt_succ_self _))
    have n43 : L' + 1 + 1 + 1 + 1 ≠ L' + 1 + 1 + 1 := Nat.succ_ne_self _
    have nn2 : ∀ p ∈ news, p.1 ≠ L' + 1 + 1 := fun p hp => Nat.ne_of_lt (Nat.lt_succ_of_lt (Nat.lt_succ_of_lt (l' p hp)))
    have nn3 : ∀ p ∈ news, p.1 ≠ L' + 1 + 1 + 1 := fun p hp => Nat.ne_of_lt (Nat.lt_succ_of_lt (Nat.lt_succ_of_lt (Nat.lt_succ_of_lt (l' p hp))))
    have nn4 : ∀ p ∈ news, p.1 ≠ L' + 1 + 1 + 1 + 1 := fun p hp => Nat.ne_of_lt (Nat.lt_succ_of_lt (Nat.lt_succ_of_lt (Nat.lt_succ_of_lt (Nat.lt_succ_of_lt (l' p hp)))))
    have ltN : ∀ p ∈ news, p.1 < hC.objs.size := fun p hp => Nat.lt_trans (kst_ltOf lT.2.2.2.2.2 p hp) ltT
    refine iterCR (n := 3) (c := L' + 1 + 1) (fun i _ m nw => TotJ T L' mk Dm ms news hC.objs.size i m nw) rfl hR (by decide) (by rfl) rfl rfl rfl fE nF hc2 ?_ ?_ ?_ ?_ ?_ (by passes_own)
    · exact ⟨c3, _, c4, _, [], [], 0, rfl, hc3, hc4, .nil, rfl, fun p hp => nomatch hp⟩
    · intro i t t' m nw _ h; exact h
    · rintro i t m nw ⟨o3, v3, o4, v4, us, os, cc, rfl, _, _, _, _, hos2⟩ p hp
      simp only [List.mem_cons, List.mem_append] at hp
      rcases hp with rfl | rfl | rfl | rfl | rfl | hp | hp
      · exact ⟨Nat.ne_of_lt ltT, Nat.ne_of_gt lT.2.2.1⟩
      · exact ⟨Nat.ne_of_lt lt1, n12⟩
      · exact ⟨Nat.ne_of_lt ltM, Ne.symm oM.2.2.1⟩
      · exact ⟨Nat.ne_of_lt lt3, n32⟩
      · exact ⟨Nat.ne_of_lt lt4, n42⟩
      · exact ⟨Nat.ne_of_gt (hos2 p hp), Nat.ne_of_gt (Nat.lt_trans lt2 (hos2 p hp))⟩
      · exact ⟨Nat.ne_of_lt (ltN p hp), nn2 p hp⟩
    · rintro i u t h o oc m2 nw hi ⟨o3, v3, o4, v4, us, os, cc, rfl, hd3, hd4, hrows, hm, hos2⟩ hoc hcI fT nT
      clear fE nE nF
      rw [mform1 hm] at fT
      simp only [List.cons_append] at nT
      k_extra "st"
      refine forT ?_ (by intro _; rfl)
      k_extra "st"
      rename Fr _ _ _ _ => fI
      rename News _ _ _ _ => nI0
      clear hR
      rename IsRange _ _ _ _ _ _ _ _ => hR2
      rename Heap => hI
      have nI := cb_drop (news := (L' + 1 + 1 + 1, o3) :: (T, listOf us.toArray cc) :: (L' + 1, mk) :: (Dm, LCg.lst ms) :: (L' + 1 + 1, oc) :: (L' + 1 + 1 + 1 + 1, o4) :: (os ++ [] ++ (news ++ [(hC.objs.size, o)]))) nI0 (by kcf_all)
      have up : hC.objs.size < hI.objs.size := Heap.lt_size (nI (hC.objs.size, o) (by kcf_m)).1
      have osI : ∀ p ∈ os, p.1 < hI.objs.size := fun p hp => Heap.lt_size (nI p (by kcf_m)).1
      refine iterCR (n := 3) (c := L' + 1 + 1 + 1) (fun j _ m nw => TotJ2 T L' mk Dm ms oc os (news ++ [(hC.objs.size, o)]) i hI.objs.size j m nw) rfl hR2 (by decide) (by rfl) rfl rfl rfl fI nI hd3 ?_ ?_ ?_ ?_ ?_ (by passes_own)
      · exact ⟨o4, _, us, [], cc, rfl, hd4, by simpa using hrows, rfl, fun p hp => nomatch hp⟩
      · intro i t t' m nw _ h; exact h
      · rintro j t m nw ⟨o4', v4', us2, osn, cc2, rfl, _, _, _, hosn⟩ p hp
        simp only [List.mem_cons, List.mem_append, List.append_assoc, List.not_mem_nil, or_false] at hp
        rcases hp with rfl | rfl | rfl | rfl | rfl | hp | hp | hp | rfl
        · exact ⟨Nat.ne_of_lt (Nat.lt_trans ltT up), Nat.ne_of_gt lT.2.2.2.1⟩
        · exact ⟨Nat.ne_of_lt (Nat.lt_trans lt1 up), n13⟩
        · exact ⟨Nat.ne_of_lt (Nat.lt_trans ltM up), Ne.symm oM.2.1⟩
        · exact ⟨Nat.ne_of_lt (Nat.lt_trans lt2 up), Ne.symm n32⟩
        · exact ⟨Nat.ne_of_lt (Nat.lt_trans lt4 up), n43⟩
        · exact ⟨Nat.ne_of_lt (osI p hp), Nat.ne_of_gt (Nat.lt_trans lt3 (hos2 p hp))⟩
        · exact ⟨Nat.ne_of_gt (hosn p hp), Nat.ne_of_gt (Nat.lt_trans lt3 (Nat.lt_trans up (hosn p hp)))⟩
        · exact ⟨Nat.ne_of_lt (Nat.lt_trans (ltN p hp) up), nn3 p hp⟩
        · exact ⟨Nat.ne_of_lt up, Nat.ne_of_gt lt3⟩
      · rintro j u2 t h o' oc' m3 nw hj ⟨o4', v4', us2, osn, cc2, rfl, hd4', hrows2, hm2, hosn⟩ hoc' hcI' fT' nT'
        clear fI nI0 nI
        rw [mform1 hm2] at fT'
        simp only [List.cons_append] at nT'
        k_extra "lt"
        rotate_left
        · rename News _ _ _ _ => nN
          refine ⟨_, _, _, (T, listOf us2.toArray cc2) :: (L' + 1, mk) :: (Dm, LCg.lst ms) :: (L' + 1 + 1, oc) :: (L' + 1 + 1 + 1 + 1, o4') :: (os ++ osn ++ (news ++ [(hC.objs.size, o)])), oc', _, rfl, by assumption, nN, hoc', o4', _, us2, osn, cc2, rfl, hd4', ?_, rfl, hosn⟩
          rw [tot_skip hi hj (by assumption)]
          exact hrows2
        rename News _ _ _ _ => nT'
        refine wpAny_Assign_Name ?_ (by with_unfolding_all rfl)
        k_dflt (refine LCt.ListComp_T (F₀ := by k_asm) (by with_unfolding_all rfl) (by decide) (by rfl) (by decide) (by rfl) ?_)
        k_extra "lt"
        refine LCt.CompSrcT.range (by rfl) (by k_asm) (by k_asm) (by assumption) (by first | decide | rfl) (by first | exact rangeSize_nat _ _ | rfl) (by exact Nat.le_of_ble_eq_true rfl) ?_
        intro g3
        refine' kci_range (fun l k => if Builtin.bitAnd (markAt k) (Builtin.bitOr (markAt (0 + (i : Int))) (markAt (3 + (j : Int)))) = 0 then l ++ [k] else l) (fun k' t' I' oI' C' oC' D' m' ys' l2' h' tk' E' hlo' hhi' hI' hC' hx' F' N' off' ne' => ?_) ?_ ?_
        · intro hMark'
          dsimp only
          k_extra "lt"
          all_goals (rename News _ _ _ _ => nE2; refine LCg.CompEnd.intro (by assumption) nE2 _ (fun p hp => hp) off' trivial ?_)
          · exact kci_el (if_pos (by assumption)) rfl rfl
          · exact kci_no (if_neg (by assumption)) rfl
        · k_extra "lt"
          rename_i hfs0 hle9 hfl Df hf tkf fF nF2 oF
          have hfl9 : ys.length ≤ 9 := hle9
          clear hle9
          obtain ⟨fr, hfr⟩ : ∃ fr, fr = freeOf (0 + (i : Int)) (3 + (j : Int)) := ⟨_, rfl⟩
          change IntsAre ys (freeOf (0 + (i : Int)) (3 + (j : Int))) at hfs0
          rw [← hfr] at hfs0
          clear hfl
          have nF3 := cb_drop (news := (L' + 1 + 1 + 1 + 1, o4') :: (Df, LCg.lst ys) :: (L' + 1 + 1 + 1, oc') :: (T, listOf us2.toArray cc2) :: (L' + 1, mk) :: (Dm, LCg.lst ms) :: (L' + 1 + 1, oc) :: (os ++ osn ++ (news ++ [(hC.objs.size, o)]) ++ [(hI.objs.size, o')])) nF2 (by kcf_all)
          refine storeX_C fF nF3 (by rfl) (UpdF.head fun p hp => ?_) hd4' ?_
          · --[NE4
            simp only [List.mem_cons, List.mem_append, List.append_assoc, List.not_mem_nil, or_false] at hp
            rcases hp with rfl | rfl | rfl | rfl | rfl | rfl | hp | hp | hp | rfl | rfl
            · exact Ne.symm oF.2.2.2.2.2.1
            · exact Ne.symm n43
            · exact Nat.ne_of_gt lT.2.2.2.2.1
            · exact Nat.ne_of_lt (Nat.lt_succ_of_lt (Nat.lt_succ_of_lt (Nat.lt_succ_self _)))
            · exact Ne.symm oM.1
            · exact Ne.symm n42
            · exact Nat.ne_of_gt (Nat.lt_trans lt4 (hos2 p hp))
            · exact Nat.ne_of_gt (Nat.lt_trans lt4 (Nat.lt_trans up (hosn p hp)))
            · exact nn4 p hp
            · exact Nat.ne_of_gt lt4
            · exact Nat.ne_of_gt (Nat.lt_trans lt4 up)
          intro h5 fk f5 n5 hfk
          clear fF nF2 nF3
          k_extra "lt"
          rename_i Dw hw9 fW nW lW
          have hfrb : ∀ k ∈ fr, 6 ≤ k ∧ k < 15 := by rw [hfr]; exact freeOf_in _ _
          refine compC (h₀ := g') (L := L') (m := fun z => if z = Str.ofString "totals" then some (Value.ref T) else m3 z) (okIn fr) (by with_unfolding_all rfl) rfl (by decide) (fun n => by rfl) (fun h => by rfl) (by with_unfolding_all rfl) (by decide) ?_
          k_extra "one"
          refine ⟨Df, ys, ys.length, _, fr, rfl, rfl, fW, nW, .tail _ (.tail _ (.head _)), hfs0, ?_, ?_, ?_⟩
          · exact Nat.le_trans hfl9 (Nat.le_of_ble_eq_true rfl)
          · intro k t I oI C oC c ock D zs h tk E' hkm hock fT5 nT5
            obtain ⟨hk6, hk15⟩ := hfrb k hkm
            clear fW nW
            k_extra "lt"
            k_dflt (refine LCt.ListComp_T (F₀ := by k_asm) (by with_unfolding_all rfl) (by decide) (by rfl) (by decide) (by rfl) ?_)
            k_extra "lt"
            refine LCt.CompSrcT.ledger (by rfl) (by k_asm) (by k_asm) (by k_mem) (by rw [List.size_toArray]; exact Nat.le_trans hfl9 (Nat.le_of_ble_eq_true rfl)) ?_
            intro g5
            refine' kci_list (fun l z => if Builtin.bitAnd (markAt k) (markAt z) = 0 then l ++ [z] else l) hfs0 (fun k' t' I' oI' C' oC' D' m' ys' l2' h' tk' E' hk' hI' hC' hx' F' N' off' ne' => ?_) ?_ ?_
            · intro hMark'
              obtain ⟨hz6, hz15⟩ := hfrb k' hk'
              dsimp only
              k_extra "lt"
              all_goals (rename News _ _ _ _ => nE2; refine LCg.CompEnd.intro (by assumption) nE2 _ (fun p hp => hp) off' ?_ ?_)
              · exact Or.inr ⟨_, .tail _ (.tail _ (.tail _ (.tail _ (.tail _ (.tail _ (.head _)))))), rfl, _, rfl⟩
              · exact kci_el (if_pos (by assumption)) rfl rfl
              · exact Or.inr ⟨_, .tail _ (.tail _ (.tail _ (.tail _ (.tail _ (.tail _ (.head _)))))), rfl, _, rfl⟩
              · exact kci_no (if_neg (by assumption)) rfl
            · k_extra "lt"
              rename_i hG2 hG2a hG2b Dg hg tkg fG nG oG
              have hgl := hG2.length
              rw [List.size_toArray] at hG2a
              refine len_list (News.isList nG (.head _)) (by rw [List.size_toArray]; omega) ?_
              rw [List.size_toArray, hgl]
              k_extra "one"
              k_extra "one"
              k_extra "one"
              refine ⟨ok_len fr k, _, _, rfl, fG, cb_drop nG (fun p hp => .tail _ hp)⟩
            · intro l z
              show (if Builtin.bitAnd (markAt k) (markAt z) = 0 then l ++ [z] else l).length ≤ l.length + 1
              split
              · rw [List.length_append]; exact Nat.le_refl _
              · exact Nat.le_succ _
          · intro zs D h tk hzs fT5 nT5 off5
            clear fW nW
            k_extra "lt"
            refine add_lists_ints fT5 nT5 (News.isList nT5 (.tail _ (.head _))) (News.isList nT5 (.head _)) (.cons (0 + (i : Int)) _ (.cons (3 + (j : Int)) _ .nil)) hzs ?_ ?_
            rotate_left
            · have e1 := hfs0.length
              have e2 := List.length_filter_le (okIn fr) fr
              rw [sizeLine_eq]
              show 2 + (List.filter (okIn fr) fr).length ≤ _
              omega
            intro h6 f6 n6 hI6
            k_extra "lt"
            have lT5 : T < h.objs.size := Heap.lt_size (nT5 (T, listOf us2.toArray cc2) (by kcf_m)).1
            have lI5 : hI.objs.size < h.objs.size := Heap.lt_size (nT5 (hI.objs.size, o') (by kcf_m)).1
            have hTI : T < hI.objs.size := Nat.lt_trans ltT up
            have n7 := cb_drop (news := (T, listOf us2.toArray cc2) :: (L' + 1 + 1 + 1, oc') :: (L' + 1, mk) :: (Dm, LCg.lst ms) :: (L' + 1 + 1, oc) :: (L' + 1 + 1 + 1 + 1, fk) :: (h.objs.size, listOf ([Value.int (0 + (i : Int)) u, Value.int (3 + (j : Int)) u2] ++ zs).toArray 0) :: (os ++ osn ++ (news ++ [(hC.objs.size, o)]) ++ [(hI.objs.size, o')])) n6 (by kcf_all)
            refine append_K f6 n7 (Upd.head fun p hp => ?_) ?_ ?_
            · simp only [List.mem_cons, List.mem_append, List.append_assoc, List.not_mem_nil, or_false] at hp
              rcases hp with rfl | rfl | rfl | rfl | rfl | rfl | hp | hp | hp | rfl | rfl
              · exact Nat.ne_of_lt lT.2.2.2.1
              · exact Nat.ne_of_lt lT.1
              · exact Nat.ne_of_lt lT.2.1
              · exact Nat.ne_of_lt lT.2.2.1
              · exact Nat.ne_of_lt lT.2.2.2.2.1
              · exact Nat.ne_of_gt lT5
              · exact Nat.ne_of_gt (Nat.lt_trans ltT (hos2 p hp))
              · exact Nat.ne_of_gt (Nat.lt_trans hTI (hosn p hp))
              · exact Nat.ne_of_lt (kst_ltOf lT.2.2.2.2.2 p hp)
              · exact Nat.ne_of_gt ltT
              · exact Nat.ne_of_gt hTI
            · intro h7 f7 n8
              clear n7 n6 f6 nT5 fT5
              refine wpAny_execs_nil ?_
              refine wpAny_execs_nil ?_
              simp only [List.push_toArray] at n8
              refine ⟨_, _, _, _, oc', _, rfl, f7, cb_drop n8 (fun p hp => ?_), hoc', fk, _, us2 ++ [.ref h.objs.size], osn ++ [(h.objs.size, listOf ([Value.int (0 + (i : Int)) u, Value.int (3 + (j : Int)) u2] ++ zs).toArray 0)], cc2 + 1, rfl, hfk, ?_, rfl, ?_⟩
              · revert p; kcf_all
              · rw [tot_next hi hj (by assumption), ← hfr, ← List.append_assoc]
                exact .snoc hrows2 hI6
              · intro p hp
                rcases List.mem_append.mp hp with hp | hp
                · exact hosn p hp
                · rw [List.mem_singleton.mp hp]
                  exact lI5
            · have e1 := RowsAre_len hrows2
              have e2 := totPre_len (3 * i + j)
              rw [sizeLine_eq, List.size_toArray, e1]
              omega
        · intro l k
          show (if Builtin.bitAnd (markAt k) (Builtin.bitOr (markAt (0 + (i : Int))) (markAt (3 + (j : Int)))) = 0 then l ++ [k] else l).length ≤ l.length + 1
          split
          · rw [List.length_append]; exact Nat.le_refl _
          · exact Nat.le_succ _
      · rintro t h m3 nw oc' v ⟨o4', v4', us2, osn, cc2, rfl, hd4', hrows2, hm2, hosn⟩ hoc' fT' nT'
        refine wpAny_execs_nil ?_
        refine ⟨_, _, _, (T, listOf us2.toArray cc2) :: (L' + 1, mk) :: (Dm, LCg.lst ms) :: (L' + 1 + 1 + 1, oc') :: (L' + 1 + 1 + 1 + 1, o4') :: (os ++ osn ++ news), oc, _, rfl, fT', cb_drop nT' (fun p hp => ?_), hoc, oc', _, o4', _, us2, os ++ osn, cc2, rfl, hoc', hd4', hrows2, hm2, ?_⟩
        · revert p; kcf_all
        · intro p hp
          rcases List.mem_append.mp hp with hp | hp
          · exact hos2 p hp
          · exact Nat.lt_trans up (hosn p hp)
    · rintro t h m2 nw oc v ⟨o3, v3, o4, v4, us, os, cc, rfl, hd3, hd4, hrows, hm, hos2⟩ hoc fT nT
      clear fE nE nF
      rw [mform1 hm] at fT
      k_extra "st"
      rename Fr h₀ _ _ _ => fZ
      rename News h₀ _ _ _ => nZ
      refine hret T us os cc _ _ L' hrows fZ (cb_drop nZ (fun p hp => ?_)) l' (Nat.lt_trans (Nat.lt_succ_self _) lT.1) (fun p hp => Nat.lt_trans ltT (hos2 p hp))
      rcases List.mem_cons.mp hp with rfl | hp
      · exact .tail _ (.head _)
      · exact .tail _ (.tail _ (.tail _ (.tail _ (.tail _ (.tail _ hp)))))
end
end Mine2
namespace Mine2
theorem nameB_K {M : Model} {A : Around} {E : Value → Shared → Prop} {s : Shared} {env : Env} {K : Frag} {h₀ : Heap} {L : Addr} {m mg mb : Str → Option Value} {p : Program} {loose : List Str} {mean : ExcName → Option Value} {x : Str} {pos : Pos} {v : Value} {Q : Value → Shared → Prop}
    (F : Fr h₀ L s.heap m) (X : K.In h₀) (T : Top p loose mean mg mb h₀) (e : nsIn K mainGlobals x = some none) (hv : bootBuiltins x = some v) (hn : x ≠ "__name__") (hg : env.globals = mainGlobals) (hb : env.builtins = builtinsNs)
    (hk : env.scope.kind = .function) (hx : env.kindOf x = some .globalImplicit) (hd : (x == ("__debug__" : Str)) = false) (h : Q v s) : wpAny M A (eval (.Name x pos) env) Q E s :=
  Name_function_global hk hx (loadGlobal_builtin (env := env) (by rw [hg]; exact T.g.keeps F.keep) (mg_none_of X T.g e) (by rw [hb]; exact T.b.keeps F.keep) ((T.builtins x hn).trans hv) h) hd
theorem words8n : True := by
  k_with_none
  k_with "st" => (repeat' ((fail_if_success (with_reducible show wpAny _ _ (pyIter _) _ _ _)); (fail_if_success (with_reducible show InvEndN _ _ _ _ _ _ _)); (fail_if_success (with_reducible show KswEnd _ _ _ _ _ _ _ _ _ _ _ _)); (fail_if_success (with_reducible show wpAny _ _ (call (Value.builtin "list.append") _) _ _ _)); (fail_if_success (with_reducible show wpAny _ _ (call (Value.ref _) _) _ _ _)); (fail_if_success (with_reducible show wpAny _ _ (exec (Stmt.For _ _ _ _ _) _) _ _ _)); (fail_if_success (with_reducible show wpAny _ _ (exec (Stmt.While _ _ _ _) _) _ _ _)); first | (k_unfold; (try dsimp only)) | (k_end; wrow_close) | walk1 | (dsimp only; walk1) | (leave1; walk_say "STEP leave1"; try dsimp only) | fail "no step"))
  k_with "sx" => (repeat' ((fail_if_success (with_reducible show wpAny _ _ (pyIter _) _ _ _)); (fail_if_success (with_reducible show wpAny _ _ (execs (_ :: _) _) _ _ _)); (fail_if_success (with_reducible show wpAny _ _ (call (Value.builtin "list.append") _) _ _ _)); (fail_if_success (with_reducible show wpAny _ _ (call (Value.ref _) _) _ _ _)); (fail_if_success (with_reducible show wpAny _ _ (exec (Stmt.For _ _ _ _ _) _) _ _ _)); (fail_if_success (with_reducible show wpAny _ _ (exec (Stmt.While _ _ _ _) _) _ _ _)); first | (k_unfold; (try dsimp only)) | (k_end; wrow_close) | walk1 | (dsimp only; walk1) | (leave1; walk_say "STEP leave1"; try dsimp only) | fail "no step"))
  k_with "lc" => (repeat' ((fail_if_success (with_reducible show wpAny _ _ (eval (Expr.ListComp _ _ _ _) _) _ _ _)); (fail_if_success (with_reducible show wpAny _ _ (subscriptTail _ _ _ _) _ _ _)); (fail_if_success (with_reducible show wpAny _ _ (exec (Stmt.Assign [_] (Expr.ListComp _ _ _ _) _) _) _ _ _)); (fail_if_success (with_reducible show LCg.CompEnd _ _ _ _ _ _ _ _ _ _ _ _ _ _)); (fail_if_success (with_reducible show LCt.CompSrcT _ _ _ _ _ _ _ _ _ _ _ _ _ _ _)); (fail_if_success (with_reducible show wpAny _ _ (pyIter _) _ _ _)); (fail_if_success (with_reducible show wpAny _ _ (call (Value.builtin "list.append") _) _ _ _)); (fail_if_success (with_reducible show wpAny _ _ (call (Value.ref _) _) _ _ _)); (fail_if_success (with_reducible show wpAny _ _ (exec (Stmt.For _ _ _ _ _) _) _ _ _)); (fail_if_success (with_reducible show wpAny _ _ (exec (Stmt.While _ _ _ _) _) _ _ _)); first | (k_unfold; (try dsimp only)) | (k_end; wrow_close) | walk1 | (dsimp only; walk1) | (leave1; walk_say "STEP leave1"; try dsimp only) | fail "no step"))
  k_with "lt" => (repeat' ((fail_if_success (with_reducible show wpAny _ _ (eval (Expr.ListComp _ _ _ _) _) _ _ _)); (fail_if_success (with_reducible show wpAny _ _ (exec (Stmt.Assign [_] (Expr.ListComp _ _ _ _) _) _) _ _ _)); (fail_if_success (with_reducible show LCg.CompEnd _ _ _ _ _ _ _ _ _ _ _ _ _ _)); (fail_if_success (with_reducible show LCt.CompSrcT _ _ _ _ _ _ _ _ _ _ _ _ _ _ _)); (fail_if_success (with_reducible show wpAny _ _ (pyIter _) _ _ _)); (fail_if_success (with_reducible show wpAny _ _ (call (Value.builtin "list.append") _) _ _ _)); (fail_if_success (with_reducible show wpAny _ _ (call (Value.ref _) _) _ _ _)); (fail_if_success (with_reducible show wpAny _ _ (exec (Stmt.For _ _ _ _ _) _) _ _ _)); (fail_if_success (with_reducible show wpAny _ _ (exec (Stmt.While _ _ _ _) _) _ _ _)); first | (k_unfold; (try dsimp only)) | (k_end; wrow_close) | walk1 | (dsimp only; walk1) | (leave1; walk_say "STEP leave1"; try dsimp only) | fail "no step"))
  k_with "for" => ((rename Fr _ _ _ _ => lF'); (with_reducible refine' For_invVF lF' ?k1 ?k2 ?_ ?k3 ?k4); (case k1 => exact rfl); (case k2 => exact rfl); (case k3 => intro _; rfl); (case k4 => passes_own))
  k_with "one" => (first | (k_unfold; (try dsimp only)) | (k_end; wrow_close) | walk1 | (dsimp only; walk1) | (leave1; walk_say "STEP leave1"; try dsimp only) | fail "no step")
  k_with "call ref" => ((with_reducible show wpAny _ _ (call (Value.ref 49) _) _ _ _); k_dflt (refine' int2ap_ok ⟨?k1, ?k2, ?k3, ?k4, ?k5, ?k6, ?k7, ?k8⟩ ?kx ?ky ?_; (case k1 => k_asm); (case k2 => k_asm); (case k3 => k_asm); (case k4 => k_asm); (case k5 => k_asm); (case k6 => first | exact rfl | assumption); (case k7 => ktr_room); (case k8 => ktr_units); (case kx => omega); (case ky => omega)); intro b9 t9 h9 tk9 hb9 F9 N9)
  k_with "eval Name" => ((with_reducible show wpAny _ _ (eval (Expr.Name _ _) (compEnv _ _ _)) _ _ _); (with_reducible rename Fr _ _ _ _ => kF); k_dflt (refine' nameB_K kF ?k1 ?k2 ?k3 ?k4 ?k5 ?k6 ?k7 ?k8 ?k9 ?ka ?_; (case k1 => k_asm); (case k2 => k_asm); (case k3 => k_is); (case k4 => boot_by_name); (case k5 => decide); (case k6 => exact rfl); (case k7 => exact rfl); (case k8 => exact rfl); (case k9 => exact rfl); (case ka => decide); k_whole))
  trivial
theorem strs_of_paired (bs : List UInt8) (vs ys : List Value) (hl : vs.length = bs.length) (hv : ∀ (j : Nat) (v : Value), vs[j]? = some v → ∃ c u, bs[j]? = some c ∧ v = .int (c.toNat : Int) u)
    (hp : Paired (fun v y => ∃ (k : Int) (t u : Tok), v = .int k t ∧ y = .str ⟨#[k.toNat]⟩ u) vs ys) : StrsAre ys (bs.map fun c => ⟨#[c.toNat]⟩) := by
  induction hp generalizing bs with
  | nil =>
    cases bs with
    | nil => exact .nil
    | cons b bs => cases hl
  | cons h r ih =>
    cases bs with
    | nil => cases hl
    | cons b bs =>
      obtain ⟨k, t, u, rfl, rfl⟩ := h
      obtain ⟨c, u', e1, e2⟩ := hv 0 _ rfl
      cases e1
      cases e2
      exact .cons _ _ (ih bs (Nat.succ.inj hl) fun j v e => hv (j + 1) v e)
theorem sorted_unique : ∀ {a b : List Int}, a.Perm b → a.Pairwise (· ≤ ·) → b.Pairwise (· ≤ ·) → a = b
  | [], b, h, _, _ => h.nil_eq
  | x :: xs, [], h, _, _ => by simpa using h.length_eq
  | x :: xs, y :: ys, h, ha, hb => by
    have e : x = y := by
      have h1 : x ∈ y :: ys := h.subset (.head _)
      have h2 : y ∈ x :: xs := h.symm.subset (.head _)
      have a1 : y ≤ x := by
        rcases List.mem_cons.mp h1 with e | e
        · exact Int.le_of_eq e.symm
        · exact List.rel_of_pairwise_cons hb e
      have a2 : x ≤ y := by
        rcases List.mem_cons.mp h2 with e | e
        · exact Int.le_of_eq e.symm
        · exact List.rel_of_pairwise_cons ha e
      exact Int.le_antisymm a2 a1
    subst e
    rw [sorted_unique h.cons_inv (List.Pairwise.of_cons ha) (List.Pairwise.of_cons hb)]
noncomputable def ins (x : Int) : List Int → List Int
  | [] => [x]
  | y :: ys => if x ≤ y then x :: y :: ys else y :: ins x ys
noncomputable def isort : List Int → List Int
  | [] => []
  | x :: xs => ins x (isort xs)
theorem ins_perm (x : Int) : ∀ l, (ins x l).Perm (x :: l)
  | [] => .refl _
  | y :: ys => by
    unfold ins
    split
    · exact .refl _
    · exact ((ins_perm x ys).cons y).trans (.swap x y ys)
theorem isort_perm : ∀ l, (isort l).Perm l
  | [] => .refl _
  | x :: xs => (ins_perm x _).trans ((isort_perm xs).cons x)
theorem ins_sorted (x : Int) : ∀ {l : List Int}, l.Pairwise (· ≤ ·) → (ins x l).Pairwise (· ≤ ·)
  | [], _ => List.pairwise_singleton _ _
  | y :: ys, h => by
    unfold ins
    split
    · rename_i hxy
      refine List.Pairwise.cons (fun z hz => ?_) h
      rcases List.mem_cons.mp hz with rfl | hz
      · exact hxy
      · exact Int.le_trans hxy (List.rel_of_pairwise_cons h hz)
    · rename_i hxy
      refine List.Pairwise.cons (fun z hz => ?_) (ins_sorted x (List.Pairwise.of_cons h))
      rcases List.mem_cons.mp ((ins_perm x ys).subset hz) with rfl | hz
      · exact Int.le_of_lt (Int.not_le.mp hxy)
      · exact List.rel_of_pairwise_cons h hz
theorem isort_sorted : ∀ l, (isort l).Pairwise (· ≤ ·)
  | [] => .nil
  | x :: xs => ins_sorted x (isort_sorted xs)
theorem isort_of {a b : List Int} (h : a.Perm b) (hs : a.Pairwise (· ≤ ·)) : a = isort b := sorted_unique (h.trans (isort_perm b).symm) hs (isort_sorted b)
/-- the number of a list of digits, each one up -/
noncomputable def numOf (ks : List Int) : Int := ks.foldl (fun n k => 16 * n + k + 1) 0
/-- the letters of it -/
noncomputable def lettersOf (ks : List Int) : List UInt8 := ks.map fun k => UInt8.ofNat (65 + (k + 1).toNat)
noncomputable def wordF (ks : List Int) : Str := ⟨((isort ks).map fun k => 66 + k.toNat).toArray⟩
theorem numOf_snoc (pre : List Int) (k : Int) : numOf (pre ++ [k]) = 16 * numOf pre + k + 1 := by
  unfold numOf; rw [List.foldl_append]; rfl
theorem numOf_bnd : ∀ (n : Nat) (pre : List Int), pre.length = n → (∀ k ∈ pre, 0 ≤ k ∧ k < 15) → 0 ≤ numOf pre ∧ numOf pre < 16 ^ n := by
  intro n
  induction n with
  | zero => intro pre h _; rw [List.length_eq_zero_iff.mp h]; exact ⟨by decide, by decide⟩
  | succ n ih =>
    intro pre h hb
    obtain ⟨xs, x, rfl⟩ : ∃ xs x, pre = xs ++ [x] := ⟨pre.dropLast, pre.getLast (by intro e; rw [e] at h; cases h), (List.dropLast_concat_getLast _).symm⟩
    rw [List.length_append] at h
    obtain ⟨h1, h2⟩ := ih xs (Nat.succ.inj h) (fun k hk => hb k (List.mem_append_left _ hk))
    obtain ⟨b1, b2⟩ := hb x (List.mem_append_right _ (.head _))
    rw [numOf_snoc, Int.pow_succ]
    omega
theorem ap_s {n r : Nat} (h : r < 15) (acc : List UInt8) : apOf (16 * n + r + 1) acc = apOf n (UInt8.ofNat (65 + (r + 1)) :: acc) := by
  have q1 : (16 * n + r + 1) / 16 = n := by omega
  have q2 : (16 * n + r + 1) % 16 = r + 1 := by omega
  rw [apOf_pos (Nat.succ_ne_zero _), q1, q2]
theorem nat_lt15 {a : Nat} (h : 0 ≤ (a : Int) ∧ (a : Int) < 15) : a < 15 := Int.ofNat_lt.mp h.2
theorem ap_word {a b c d e : Int} (ha : 0 ≤ a ∧ a < 15) (hb : 0 ≤ b ∧ b < 15) (hc : 0 ≤ c ∧ c < 15) (hd : 0 ≤ d ∧ d < 15) (he : 0 ≤ e ∧ e < 15) : apOf (numOf [a, b, c, d, e]).toNat [] = lettersOf [a, b, c, d, e] := by
  obtain ⟨a, rfl⟩ := Int.eq_ofNat_of_zero_le ha.1
  obtain ⟨b, rfl⟩ := Int.eq_ofNat_of_zero_le hb.1
  obtain ⟨c, rfl⟩ := Int.eq_ofNat_of_zero_le hc.1
  obtain ⟨d, rfl⟩ := Int.eq_ofNat_of_zero_le hd.1
  obtain ⟨e, rfl⟩ := Int.eq_ofNat_of_zero_le he.1
  have en : (numOf [(a : Int), b, c, d, e]).toNat = 16 * (16 * (16 * (16 * (16 * 0 + a + 1) + b + 1) + c + 1) + d + 1) + e + 1 := rfl
  rw [en, ap_s (nat_lt15 he), ap_s (nat_lt15 hd), ap_s (nat_lt15 hc), ap_s (nat_lt15 hb), ap_s (nat_lt15 ha), apOf_zero]
  rfl
theorem ofs_nil : (Str.ofString "") = ⟨#[]⟩ := by decide +kernel
theorem j5 (a b c d e : Nat) : Txt.join (Str.ofString "") [⟨#[a]⟩, ⟨#[b]⟩, ⟨#[c]⟩, ⟨#[d]⟩, ⟨#[e]⟩] = ⟨#[a, b, c, d, e]⟩ := by
  rw [ofs_nil]; rfl
theorem letter_tab : ∀ n : Fin 15, (UInt8.ofNat (65 + (((n.val : Nat) : Int) + 1).toNat)).toNat = 66 + ((n.val : Nat) : Int).toNat := by decide +kernel
theorem letter_up {k : Int} (h : 0 ≤ k ∧ k < 15) : (UInt8.ofNat (65 + (k + 1).toNat)).toNat = 66 + k.toNat := by
  obtain ⟨n, rfl⟩ := Int.eq_ofNat_of_zero_le h.1
  exact letter_tab ⟨n, nat_lt15 h⟩
theorem five_of {ns : List Int} (h : ns.length = 5) : ∃ a b c d e, ns = [a, b, c, d, e] := by
  rcases ns with _ | ⟨a, _ | ⟨b, _ | ⟨c, _ | ⟨d, _ | ⟨e, _ | ⟨_, _⟩⟩⟩⟩⟩⟩ <;> first | (simp at h; done) | exact ⟨_, _, _, _, _, rfl⟩
theorem word_join {ss : List Int} (h5 : ss.length = 5) (hb : ∀ k ∈ ss, 0 ≤ k ∧ k < 15) : Txt.join (Str.ofString "") ((lettersOf ss).map fun c => ⟨#[c.toNat]⟩) = ⟨(ss.map fun k => 66 + k.toNat).toArray⟩ := by
  obtain ⟨a, b, c, d, e, rfl⟩ := five_of h5
  simp only [lettersOf, List.map_cons, List.map_nil]
  rw [letter_up (hb a (.head _)), letter_up (hb b (.tail _ (.head _))), letter_up (hb c (.tail _ (.tail _ (.head _)))), letter_up (hb d (.tail _ (.tail _ (.tail _ (.head _))))), letter_up (hb e (.tail _ (.tail _ (.tail _ (.tail _ (.head _)))))), j5]
theorem word_small {ss : List Int} (h5 : ss.length = 5) : (List.map (fun x : Str => x.length) (List.map (fun c : UInt8 => (⟨#[c.toNat]⟩ : Str)) (lettersOf ss))).sum + (List.map (fun c : UInt8 => (⟨#[c.toNat]⟩ : Str)) (lettersOf ss)).length ≤ 1048576 := by
  obtain ⟨a, b, c, d, e, rfl⟩ := five_of h5
  exact Nat.le_of_ble_eq_true rfl
section
variable {w : World} {mean : ExcName → Option Value} {mg mb : Str → Option Value} {dp un : Nat} {gd : Option (List Code)} {cn : Str} {cs : Scope} {a : Addr} {ccd : Value} {cl : List (Str × Addr)} {outer : List Env} {A₀ : Around} {base h₀ : Heap} {L : Addr} {m : Str → Option Value} {news : List (Addr × Obj)} {s : Shared} {Q E : Value → Shared → Prop}
theorem word_ok {l : Addr} {vs : List Value} {ns : List Int} {nn : Nat} (H : Here 8 w mean mg mb dp un cs outer A₀ base h₀ L m news s.heap) (hl : (l, listOf vs.toArray nn) ∈ news) (hi : IntsAre vs ns) (h5 : ns.length = 5) (hb : ∀ k ∈ ns, 0 ≤ k ∧ k < 15)
  (hret : ∀ t h' tk', Fr h₀ L h' m → News h₀ L h' news → Q (.str (wordF ns) t) { s with heap := h', toks := tk' }) :
  wpAny (model PySem.Challenge.rw_sn0021_02.row.prog w) (ktrTop dp un gd cn cs L a ccd cl outer) (call (.ref 71) [.ref l]) Q E s := by
  obtain ⟨B, F, X, N, T, hk, hd, hu⟩ := H
  refine wpAny_call ?_
  k_dflt cell_enter
  k_extra "st"
  rename_i g1 L1 h1 FG1 B1 X1 T1 h2 F2 N2
  k_extra "for"
  k_extra "st"
  rename News _ _ _ _ => lN'
  refine kso_sorted lF' lN' (News.isList lN' hl) hi (by omega) ?_
  intro D vs2 ss c9 h9 f9 n9 l9 hi9 e9 hp9 hs9 _
  clear lF' lN'
  have hss := isort_of hp9 hs9
  have hbs : ∀ k ∈ ss, 0 ≤ k ∧ k < 15 := fun k hk => hb k (hp9.subset hk)
  with_unfolding_all refine' kst_listL (σ := Int × Tok) (fun _ => (D, listOf vs2.toArray c9) :: news) (fun c => [(Str.ofString "number", Value.int c.1 c.2)]) (fun _ => True) [] (fun pre c => c.1 = numOf pre) (0, _) (by rfl) (fun _ => List.Mem.head _) hi9 f9 n9 ?kf ?kk ?kp ?_ ?_
  case kf => exact True.intro
  case kk => kst_all
  case kp => rfl
  · intro c pre post n t u h tk own hns hmem hoff hfacts hP kFr kNews
    obtain ⟨z, tz⟩ := c
    have kMark := kstMark
    dsimp only [kstB] at kFr
    dsimp only at kNews hP
    (try simp only [List.cons_append] at kNews)
    clear f9 n9
    (try k_fold)
    k_extra "st"
    rename News _ _ _ _ => nE
    refine kst_end ⟨16 * z + n + 1, _⟩ (by assumption) nE (by kst_in) (by intro p hp; kst_mem) rfl True.intro (by kst_all) (by kst_same) ?_
    show 16 * z + n + 1 = numOf (pre ++ [n])
    rw [numOf_snoc, ← hP]
  · intro c u h tk hfacts hP kFr kNews
    obtain ⟨z, tz⟩ := c
    have kMark := kstMark
    dsimp only [kstB] at kFr
    dsimp only at kNews hP
    clear f9 n9
    (try k_fold)
    have hz := numOf_bnd 5 ss (by omega) hbs
    rw [← hP] at hz
    obtain ⟨hz0, hz1⟩ := hz
    have hz2 : z < 1048576 := by omega
    change Fr g1 L1 _ _ at kFr
    change News g1 L1 _ _ at kNews
    k_steps
    have hW : apOf z.toNat [] = lettersOf ss := by
      rw [hP]
      obtain ⟨a1, a2, a3, a4, a5, e5⟩ := five_of (e9.trans h5)
      rw [e5] at hbs ⊢
      exact ap_word (hbs a1 (by simp)) (hbs a2 (by simp)) (hbs a3 (by simp)) (hbs a4 (by simp)) (hbs a5 (by simp))
    have hb9 := hb9.trans hW
    obtain rfl : b9 = (lettersOf ss).toArray := by rw [← hb9]
    have hsz : (lettersOf ss).toArray.size = 5 := by rw [List.size_toArray]; exact (List.length_map _).trans (e9.trans h5)
    refine KBw.pyIter_bytes ?_
    refine ⟨fun _ => true, fun v y => ∃ (k : Int) (t u : Tok), v = .int k t ∧ y = .str ⟨#[k.toNat]⟩ u, _, _, _, _, _, _, rfl, KBw.walks rfl _ (lettersOf ss).toArray t9, ?_, ⟨_, Heap.get?_push_size _ rfl, rfl, rfl⟩, ?_, ⟨?_, ?_⟩, ?_⟩
    · rw [hsz]; decide
    · intro b hb
      rw [List.mem_singleton.mp hb]
      show _ < (Heap.push _ _).objs.size
      rw [Heap.size_push]; exact Nat.lt_succ_self _
    · intro C i v s₃ m₃ E' hP hn hm hkeep htk
      k_steps
      exact ⟨_, _, rfl, fun _ _ e => e⟩
    · intro C i v s₃ m₃ E' hP hp hn hm hkeep htk
      obtain ⟨c, u, hc, rfl⟩ := hP
      have hk2 : ∀ b o, h9.get? b = some o → s₃.heap.get? b = some o := fun b o e => hkeep b o (not_iter_of_old e) (Heap.get?_push_of_some _ e)
      k_steps
      refine chr_of_range (by omega) (by have := c.toNat_lt; omega) ?_
      exact ⟨⟨_, _, _, rfl, rfl⟩, _, _, rfl, fun _ _ e => e⟩
    · intro D h' tk ys vs hD hl hpl hlen hPv hpair hkeep
      have hk2 : ∀ b o, h9.get? b = some o → h'.get? b = some o := fun b o e => hkeep b o (not_iter_of_old e) (Heap.get?_push_of_some _ e)
      have cF := Fr.grownK F9 hk2
      have cN := News.grown N9 hk2
      k_steps
      refine join_listW (ys := (lettersOf ss).map fun c => ⟨#[c.toNat]⟩) hl ?_ (by decide) ?_ ?_
      · rw [show List.filter (fun _ => true) vs = vs from filter_allG vs] at hpair
        exact strs_of_paired _ _ _ (by rw [hlen, hsz]; exact ((List.length_map _).trans (e9.trans h5)).symm) (fun j v e => by
          obtain ⟨c, u, e1, e2⟩ := hPv j v e
          exact ⟨c, u, by simpa using e1, e2⟩) hpair
      · exact word_small (e9.trans h5)
      intro t8 k8
      k_steps
      rw [word_join (e9.trans h5) hbs, hss]
      exact hret _ _ _ (by assumption) (cb_drop (by assumption) (fun p hp => .tail _ hp))
end
end Mine2
namespace Mine2
theorem words9n : True := by
  k_with_none
  k_with "st" => (repeat' ((fail_if_success (with_reducible show wpAny _ _ (pyIter _) _ _ _)); (fail_if_success (with_reducible show InvEndN _ _ _ _ _ _ _)); (fail_if_success (with_reducible show KswEnd _ _ _ _ _ _ _ _ _ _ _ _)); (fail_if_success (with_reducible show wpAny _ _ (call (Value.builtin "list.append") _) _ _ _)); (fail_if_success (with_reducible show wpAny _ _ (call (Value.ref _) _) _ _ _)); (fail_if_success (with_reducible show wpAny _ _ (exec (Stmt.For _ _ _ _ _) _) _ _ _)); (fail_if_success (with_reducible show wpAny _ _ (exec (Stmt.While _ _ _ _) _) _ _ _)); first | (k_unfold; (try dsimp only)) | (k_end; wrow_close) | walk1 | (dsimp only; walk1) | (leave1; walk_say "STEP leave1"; try dsimp only) | fail "no step"))
  k_with "sx" => (repeat' ((fail_if_success (with_reducible show wpAny _ _ (pyIter _) _ _ _)); (fail_if_success (with_reducible show wpAny _ _ (execs (_ :: _) _) _ _ _)); (fail_if_success (with_reducible show wpAny _ _ (call (Value.builtin "list.append") _) _ _ _)); (fail_if_success (with_reducible show wpAny _ _ (call (Value.ref _) _) _ _ _)); (fail_if_success (with_reducible show wpAny _ _ (exec (Stmt.For _ _ _ _ _) _) _ _ _)); (fail_if_success (with_reducible show wpAny _ _ (exec (Stmt.While _ _ _ _) _) _ _ _)); first | (k_unfold; (try dsimp only)) | (k_end; wrow_close) | walk1 | (dsimp only; walk1) | (leave1; walk_say "STEP leave1"; try dsimp only) | fail "no step"))
  k_with "lc" => (repeat' ((fail_if_success (with_reducible show wpAny _ _ (eval (Expr.ListComp _ _ _ _) _) _ _ _)); (fail_if_success (with_reducible show wpAny _ _ (subscriptTail _ _ _ _) _ _ _)); (fail_if_success (with_reducible show wpAny _ _ (exec (Stmt.Assign [_] (Expr.ListComp _ _ _ _) _) _) _ _ _)); (fail_if_success (with_reducible show LCg.CompEnd _ _ _ _ _ _ _ _ _ _ _ _ _ _)); (fail_if_success (with_reducible show LCt.CompSrcT _ _ _ _ _ _ _ _ _ _ _ _ _ _ _)); (fail_if_success (with_reducible show wpAny _ _ (pyIter _) _ _ _)); (fail_if_success (with_reducible show wpAny _ _ (call (Value.builtin "list.append") _) _ _ _)); (fail_if_success (with_reducible show wpAny _ _ (call (Value.ref _) _) _ _ _)); (fail_if_success (with_reducible show wpAny _ _ (exec (Stmt.For _ _ _ _ _) _) _ _ _)); (fail_if_success (with_reducible show wpAny _ _ (exec (Stmt.While _ _ _ _) _) _ _ _)); first | (k_unfold; (try dsimp only)) | (k_end; wrow_close) | walk1 | (dsimp only; walk1) | (leave1; walk_say "STEP leave1"; try dsimp only) | fail "no step"))
  k_with "lt" => (repeat' ((fail_if_success (with_reducible show wpAny _ _ (eval (Expr.ListComp _ _ _ _) _) _ _ _)); (fail_if_success (with_reducible show wpAny _ _ (exec (Stmt.Assign [_] (Expr.ListComp _ _ _ _) _) _) _ _ _)); (fail_if_success (with_reducible show LCg.CompEnd _ _ _ _ _ _ _ _ _ _ _ _ _ _)); (fail_if_success (with_reducible show LCt.CompSrcT _ _ _ _ _ _ _ _ _ _ _ _ _ _ _)); (fail_if_success (with_reducible show wpAny _ _ (pyIter _) _ _ _)); (fail_if_success (with_reducible show wpAny _ _ (call (Value.builtin "list.append") _) _ _ _)); (fail_if_success (with_reducible show wpAny _ _ (call (Value.ref _) _) _ _ _)); (fail_if_success (with_reducible show wpAny _ _ (exec (Stmt.For _ _ _ _ _) _) _ _ _)); (fail_if_success (with_reducible show wpAny _ _ (exec (Stmt.While _ _ _ _) _) _ _ _)); first | (k_unfold; (try dsimp only)) | (k_end; wrow_close) | walk1 | (dsimp only; walk1) | (leave1; walk_say "STEP leave1"; try dsimp only) | fail "no step"))
  k_with "for" => ((rename Fr _ _ _ _ => lF'); (with_reducible refine' For_invVF lF' ?k1 ?k2 ?_ ?k3 ?k4); (case k1 => exact rfl); (case k2 => exact rfl); (case k3 => intro _; rfl); (case k4 => passes_own))
  k_with "one" => (first | (k_unfold; (try dsimp only)) | (k_end; wrow_close) | walk1 | (dsimp only; walk1) | (leave1; walk_say "STEP leave1"; try dsimp only) | fail "no step")
  trivial
theorem intsGet2 : ∀ {vs : List Value} {ns : List Int} {i : Nat}, IntsAre vs ns → i < ns.length → ∃ t, vs[i]? = some (.int (ns.getD i 0) t)
  | _, _, _, .nil, h => by simp at h
  | _, _, 0, .cons n t _, _ => ⟨t, rfl⟩
  | _, _, i + 1, .cons n t r, h => by simpa using intsGet2 (i := i) r (by simpa using h)
theorem ring_last {prog : Program} {w : World} {A : Around} {E : Value → Shared → Prop} {s : Shared} {value slice : PySem.Expr} {l : Addr} {ys : List Value} {ns : List Int} {u : Tok} {Q : Value → Shared → Prop} (hl : s.heap.IsList l ys.toArray) (hy : IntsAre ys ns) (h1 : 1 ≤ ns.length)
    (h : ∀ t, Q (.int (ns.getD (ns.length - 1) 0) t) s) (hs : subscripted slice false (.ref l) (.int (-1) u) = operate [.ref l, .int (-1) u] (getItem (.ref l) (.int (-1) u)) := by with_unfolding_all rfl) : wpAny (model prog w) A (subscriptTail value slice (.ref l) (.int (-1) u)) Q E s := by
  obtain ⟨t, e⟩ := intsGet2 hy (i := ns.length - 1) (by omega)
  have e2 := hy.length
  refine tail_any hl.typeIs slot_list_getitem.lookup (wpAny_getItem_list_neg hl (by decide) (by rw [List.size_toArray]; omega) (by decide) ?_ (h t)) hs
  rw [List.getElem?_toArray, List.size_toArray, e2, show (-1 + (ns.length : Int)).toNat = ns.length - 1 by omega]
  exact e
theorem ints_item {prog : Program} {w : World} {A : Around} {E : Value → Shared → Prop} {s : Shared} {value slice : PySem.Expr} {l : Addr} {ys : List Value} {ns : List Int} {k : Int} {u : Tok} {Q : Value → Shared → Prop} (hl : s.heap.IsList l ys.toArray) (hy : IntsAre ys ns) (h0 : 0 ≤ k) (h1 : k < ns.length) (h2 : k < 1000000)
    (h : ∀ t, Q (.int (ns.getD k.toNat 0) t) s) (hs : subscripted slice false (.ref l) (.int k u) = operate [.ref l, .int k u] (getItem (.ref l) (.int k u)) := by with_unfolding_all rfl) : wpAny (model prog w) A (subscriptTail value slice (.ref l) (.int k u)) Q E s := by
  obtain ⟨t, e⟩ := intsGet2 hy (i := k.toNat) (by omega)
  exact Mine2.item_list hl h0 (by omega) (by rw [List.getElem?_toArray]; exact e) hs (h t)
theorem getD_mem {ns : List Int} {i : Nat} (h : i < ns.length) : ns.getD i 0 ∈ ns := by
  rw [List.getD_eq_getElem?_getD, List.getElem?_eq_getElem h]
  exact List.getElem_mem h
noncomputable def goAt (g r : List Int) : Int := g.getD (r.getD (r.length - 1) 0).toNat 0
noncomputable def ringGo (g : List Int) : Nat → List Int → List Int
  | 0, r => r
  | n + 1, r => if goAt g r ∈ r then r else ringGo g n (r ++ [goAt g r])
noncomputable def ringOf (g : List Int) (k : Int) : List Int := ringGo g 6 [k]
noncomputable def ringStep (g : List Int) (ks : List Int) (k : Int) : List Int := if ∀ x ∈ ringOf g k, k ≤ x then ks ++ [((ringOf g k).length : Int)] else ks
noncomputable def ringsF (g : List Int) : List Int := isort ((rangeKs 0 6).foldl (ringStep g) [])
section
variable {w : World} {mean : ExcName → Option Value} {mg mb : Str → Option Value} {dp un : Nat} {gd : Option (List Code)} {cn : Str} {cs : Scope} {a : Addr} {ccd : Value} {cl : List (Str × Addr)} {outer : List Env} {A₀ : Around} {base h₀ : Heap} {L : Addr} {m : Str → Option Value} {news : List (Addr × Obj)} {s : Shared} {Q E : Value → Shared → Prop}
theorem ring_done {g r : List Int} (h : goAt g r ∈ r) : ∀ {n : Nat}, ringGo g n r = r
  | 0 => rfl
  | n + 1 => if_pos h
theorem ring_next {g r : List Int} (h : ¬ goAt g r ∈ r) {n : Nat} : ringGo g (n + 1) r = ringGo g n (r ++ [goAt g r]) := if_neg h
theorem ring_sub (g : List Int) : ∀ (n : Nat) (r : List Int) (x : Int), x ∈ r → x ∈ ringGo g n r
  | 0, _, _, h => h
  | n + 1, r, x, h => by
    unfold ringGo
    split
    · exact h
    · exact ring_sub g n _ x (List.mem_append_left _ h)
theorem any_mem {r : List Int} {y : Int} (h : (r.any fun x => x == y) = true) : y ∈ r := by
  obtain ⟨x, hx, e⟩ := List.any_eq_true.mp h
  rw [← beq_iff_eq.mp e]; exact hx
theorem ring_len_n : ∀ (n : Nat) (r : List Int), (∀ v, r.count v ≤ 1) → (∀ x ∈ r, 0 ≤ x ∧ x < (n : Int)) → r.length ≤ n
  | 0, r, _, h2 => by
    cases r with
    | nil => exact Nat.le_refl _
    | cons x r => exact absurd (h2 x (.head _)).2 (Int.not_lt.mpr (h2 x (.head _)).1)
  | n + 1, r, h1, h2 => by
    have ih := ring_len_n n (r.erase n) (fun v => Nat.le_trans (List.erase_sublist.count_le v) (h1 v)) fun x hx => by
      have hb := h2 x (List.mem_of_mem_erase hx)
      have hne : x ≠ n := fun e => by
        have hc := List.count_pos_iff.mpr hx
        rw [e, List.count_erase_self, Nat.sub_eq_zero_of_le (h1 n)] at hc
        exact Nat.lt_irrefl _ hc
      exact ⟨hb.1, by omega⟩
    rw [List.length_erase] at ih
    split at ih <;> omega
theorem ring_len {r : List Int} (h1 : ∀ v, r.count v ≤ 1) (h2 : ∀ x ∈ r, 0 ≤ x ∧ x < 6) : r.length ≤ 6 := ring_len_n 6 r h1 h2
theorem rings_len (g : List Int) : ∀ (ps ks : List Int), (ps.foldl (ringStep g) ks).length ≤ ks.length + ps.length
  | [], _ => Nat.le_refl _
  | p :: ps, ks => by
    rw [List.foldl_cons]
    refine Nat.le_trans (rings_len g ps _) ?_
    unfold ringStep
    split
    · simp only [List.length_append, List.length_cons, List.length_nil]; omega
    · simp only [List.length_cons]; omega
theorem rings_ok {l : Addr} {vs : List Value} {ns : List Int} {nn : Nat} (H : Here 8 w mean mg mb dp un cs outer A₀ base h₀ L m news s.heap) (hl : (l, listOf vs.toArray nn) ∈ news) (hi : IntsAre vs ns) (h6 : ns.length = 6) (hb : ∀ k ∈ ns, 0 ≤ k ∧ k < 6)
  (hret : ∀ D us cc h' tk' L1, IntsAre us (ringsF ns) → Fr h₀ L h' m → News h₀ L h' ((D, listOf us.toArray cc) :: news) → (∀ p ∈ news, p.1 < L1) → L1 < D → Q (.ref D) { s with heap := h', toks := tk' }) :
  wpAny (model PySem.Challenge.rw_sn0021_02.row.prog w) (ktrTop dp un gd cn cs L a ccd cl outer) (call (.ref 78) [.ref l]) Q E s := by
  obtain ⟨B, F, X, N, T, hk, hd, hu⟩ := H
  refine wpAny_call ?_
  k_dflt cell_enter
  k_extra "st"
  rename_i g1 L1 h1 FG1 B1 X1 T1 tkS S hS lS hS2 FS NS
  k_extra "for"
  k_extra "st"

  rename Fr _ _ _ _ => lF'
  rename News _ _ _ _ => lN'
  rename IsRange _ _ _ _ _ _ _ _ => hR
  with_unfolding_all refine' kst_range (n := 6) (σ := List Value × List Int × Nat) (fun c => (S, listOf c.1.toArray c.2.2) :: news) (fun _ => []) (fun c => IntsAre c.1 c.2.1) [Str.ofString "ring"] (fun pre c => c.2.1 = pre.foldl (ringStep ns) []) ([], [], 0) (by rfl) hR (by decide) (by rfl) lF' lN' ?kf ?kk ?kp ?_ ?_
  case kf => exact IntsAre.nil
  case kk => exact List.forall_mem_nil _
  case kp => rfl
  · intro c pre k t u h tk own hpre hlt6 hoff hfacts hP kFr kNews
    obtain ⟨us, ks, cc⟩ := c
    have kMark := kstMark
    dsimp only [kstB] at kFr
    dsimp only at kNews hfacts hP
    (try simp only [List.cons_append] at kNews)
    clear lF' lN'
    change Fr g1 L1 _ _ at kFr
    change News g1 L1 _ _ at kNews
    (try k_fold)
    k_extra "st"
    rename_i R hR1 lR hR2 FR NR
    have hk06 : 0 ≤ k ∧ k < 6 := by omega
    with_unfolding_all refine' ksw_while (σ := List Value × List Int × Nat) (fun c => (R, listOf c.1.toArray c.2.2) :: (S, listOf us.toArray cc) :: (news ++ own)) (fun _ => []) (fun c => IntsAre c.1 c.2.1) [] (fun c => (∀ v, c.2.1.count v ≤ 1) ∧ (∀ x ∈ c.2.1, 0 ≤ x ∧ x < 6) ∧ 1 ≤ c.2.1.length ∧ ringGo ns (7 - c.2.1.length) c.2.1 = ringOf ns k) (fun c => 7 - c.2.1.length) ([Value.int k t], [k], 0) FR NR ?wf ?wk ?wp ?_ (by passes_own)
    case wf => exact .cons k t .nil
    case wk => exact List.forall_mem_nil _
    case wp => exact ⟨fun v => by rw [List.count_singleton]; split <;> decide, fun x hx => by rw [List.mem_singleton.mp hx]; exact hk06, Nat.le_refl _, rfl⟩
    clear FR NR
    intro c kU kH kTk kFacts kInv kFr kNews
    obtain ⟨rv, rs, rc⟩ := c
    dsimp only [kstB] at kFr
    dsimp only at kNews kFacts kInv
    obtain ⟨i1, i2, i3, i4⟩ := kInv
    change Fr g1 L1 _ _ at kFr
    change News g1 L1 _ _ at kNews
    (try k_fold)
    have hlast := i2 _ (getD_mem (ns := rs) (i := rs.length - 1) (by omega))
    have hgo : 0 ≤ goAt ns rs ∧ goAt ns rs < 6 := hb _ (getD_mem (by omega))
    k_extra "lc"
    refine ring_last (News.isList kNews (.head _)) kFacts i3 ?_
    intro tl
    k_extra "lc"
    refine ints_item (News.isList kNews (.tail _ (.tail _ (List.mem_append_left _ hl)))) hi hlast.1 (by omega) (by omega) ?_
    intro tg
    k_extra "lc"
    · rename List.any rs _ = true => hany
      rename News _ _ _ _ => nX
      rename _ ∈ rs => hMm
      rename ∀ _, _ → _ ≤ _ => hMle
      rename _ = k => hMk
      have hdone : rs = ringOf ns k := (ring_done (any_mem hany)).symm.trans i4
      refine len_list (News.isList nX (.head _)) (by rw [List.size_toArray, kFacts.length]; have := ring_len i1 i2; omega) ?_
      rw [List.size_toArray, kFacts.length]
      k_extra "st"
      rename Fr g1 L1 _ _ => fX
      refine append_K fX (cb_drop (news := (S, listOf us.toArray cc) :: (news ++ own)) nX (fun p hp => .tail _ hp)) (Upd.head fun p hp => ?_) ?_ ?_
      · rcases List.mem_append.mp hp with hp | hp
        · exact Nat.ne_of_lt (lS p hp)
        · exact hoff p hp S (.head _)
      · intro h' F' N'
        clear nX fX
        k_extra "st"
        rename News _ _ _ _ => nE
        simp only [List.push_toArray] at nE
        refine kst_end ⟨us ++ [Value.int (rs.length : Int) _], ks ++ [(rs.length : Int)], cc + 1⟩ (by assumption) nE (by kst_in) (by intro p hp; kst_mem) rfl (hfacts.append (.cons _ _ .nil)) (List.forall_mem_nil _) (by kst_same) ?_
        show ks ++ [(rs.length : Int)] = List.foldl (ringStep ns) [] (pre ++ [k])
        rw [List.foldl_append, ← hP]
        show _ = ringStep ns ks k
        unfold ringStep
        rw [if_pos (by rw [← hdone, ← hMk]; exact hMle), ← hdone]
      · have e1 := hfacts.length
        have e2 := rings_len ns pre []
        rw [← hP] at e2
        rw [sizeLine_eq, List.size_toArray]
        simp at e2
        omega
    · rename List.any rs _ = true => hany
      rename News _ _ _ _ => nX
      rename _ ∈ rs => hMm
      rename ∀ _, _ → _ ≤ _ => hMle
      rename ¬ _ = k => hMk
      have hdone : rs = ringOf ns k := (ring_done (any_mem hany)).symm.trans i4
      refine kst_end ⟨us, ks, cc⟩ (by assumption) nX (by kst_in) (by intro p hp; kst_mem) rfl hfacts (List.forall_mem_nil _) (by kst_same) ?_
      show ks = List.foldl (ringStep ns) [] (pre ++ [k])
      rw [List.foldl_append, ← hP]
      show _ = ringStep ns ks k
      unfold ringStep
      rw [if_neg]
      intro hall
      rw [← hdone] at hall
      have hk1 : k ∈ rs := by rw [hdone]; exact ring_sub _ _ _ _ (.head _)
      exact hMk (Int.le_antisymm (hMle k hk1) (hall _ hMm))
    · rename News _ _ _ _ => nX
      refine ring_last (News.isList nX (.head _)) kFacts i3 ?_
      intro tl2
      k_extra "lc"
      refine ints_item (News.isList nX (.tail _ (.tail _ (List.mem_append_left _ hl)))) hi hlast.1 (by omega) (by omega) ?_
      intro tg2
      k_extra "st"
      rename List.any rs _ = false => hany
      have hnot : ¬ goAt ns rs ∈ rs := fun h => by
        have := List.any_eq_false.mp hany _ h
        exact this (beq_self_eq_true _)
      rename Fr g1 L1 _ _ => fX
      have hlen6 := ring_len i1 i2
      refine append_K fX nX (Upd.head fun p hp => ?_) ?_ ?_
      · rcases List.mem_cons.mp hp with rfl | hp
        · exact Nat.ne_of_lt lR.1
        · exact Nat.ne_of_lt (kst_ltOf lR.2 p hp)
      · intro h' F' N'
        clear nX fX
        k_extra "st"
        rename News _ _ _ _ => nE
        simp only [List.push_toArray] at nE
        refine ksw_end ⟨rv ++ [Value.int (goAt ns rs) _], rs ++ [goAt ns rs], rc + 1⟩ (by assumption) nE (by kst_in) (kFacts.append (.cons _ _ .nil)) (List.forall_mem_nil _) (by ksw_same) ⟨?_, ?_, ?_, ?_⟩ ?_
        · intro v
          show (rs ++ [goAt ns rs]).count v ≤ 1
          rw [List.count_append, List.count_singleton]
          have := i1 v
          split
          · rename_i e
            rw [← beq_iff_eq.mp e, List.count_eq_zero_of_not_mem hnot]; exact Nat.le_refl _
          · omega
        · intro x hx
          rcases List.mem_append.mp hx with hx | hx
          · exact i2 x hx
          · rw [List.mem_singleton.mp hx]; exact hgo
        · show 1 ≤ (rs ++ [goAt ns rs]).length
          rw [List.length_append]; omega
        · show ringGo ns (7 - (rs ++ [goAt ns rs]).length) (rs ++ [goAt ns rs]) = ringOf ns k
          rw [← i4, List.length_append, show 7 - rs.length = (7 - (rs.length + [goAt ns rs].length)) + 1 by simp; omega, ring_next hnot]
        · show 7 - (rs ++ [goAt ns rs]).length < 7 - rs.length
          rw [List.length_append, List.length_singleton]; omega
      · rw [sizeLine_eq, List.size_toArray, kFacts.length]
        omega
  · intro c u h tk hfacts hP kFr kNews
    obtain ⟨us, ks, cc⟩ := c
    have kMark := kstMark
    dsimp only [kstB] at kFr
    dsimp only at kNews hfacts hP
    clear lF' lN'
    change Fr g1 L1 _ _ at kFr
    change News g1 L1 _ _ at kNews
    (try k_fold)
    k_extra "st"
    refine kso_sorted kFr kNews (News.isList kNews (.head _)) hfacts ?_ ?_
    · have e2 := rings_len ns (rangeKs 0 6) []
      rw [← hP, rangeKs_length] at e2
      simp at e2
      omega
    intro D vs2 ss c9 h9 f9 n9 l9 hi9 e9 hp9 hs9 _
    clear kFr kNews
    have hss := isort_of hp9 hs9
    rw [hP] at hss
    k_extra "st"
    rename Fr h₀ _ _ _ => fZ
    rename News h₀ _ _ _ => nZ
    refine hret D vs2 c9 _ _ S (by rw [← show ss = ringsF ns from hss]; exact hi9) fZ (cb_drop nZ (fun p hp => ?_)) lS (l9 (S, listOf us.toArray cc) (.head _))
    rcases List.mem_cons.mp hp with rfl | hp
    · exact .head _
    · exact .tail _ (.tail _ hp)
end
end Mine2
namespace Mine2
theorem words10 : True := by
  k_with_none
  k_with "st" => (repeat' ((fail_if_success (with_reducible show wpAny _ _ (pyIter _) _ _ _)); (fail_if_success (with_reducible show InvEndN _ _ _ _ _ _ _)); (fail_if_success (with_reducible show KswEnd _ _ _ _ _ _ _ _ _ _ _ _)); (fail_if_success (with_reducible show wpAny _ _ (call (Value.builtin "list.append") _) _ _ _)); (fail_if_success (with_reducible show wpAny _ _ (call (Value.ref _) _) _ _ _)); (fail_if_success (with_reducible show wpAny _ _ (exec (Stmt.For _ _ _ _ _) _) _ _ _)); (fail_if_success (with_reducible show wpAny _ _ (exec (Stmt.While _ _ _ _) _) _ _ _)); first | (k_unfold; (try dsimp only)) | (k_end; wrow_close) | walk1 | (dsimp only; walk1) | (leave1; walk_say "STEP leave1"; try dsimp only) | fail "no step"))
  k_with "sx" => (repeat' ((fail_if_success (with_reducible show wpAny _ _ (pyIter _) _ _ _)); (fail_if_success (with_reducible show wpAny _ _ (execs (_ :: _) _) _ _ _)); (fail_if_success (with_reducible show wpAny _ _ (call (Value.builtin "list.append") _) _ _ _)); (fail_if_success (with_reducible show wpAny _ _ (call (Value.ref _) _) _ _ _)); (fail_if_success (with_reducible show wpAny _ _ (exec (Stmt.For _ _ _ _ _) _) _ _ _)); (fail_if_success (with_reducible show wpAny _ _ (exec (Stmt.While _ _ _ _) _) _ _ _)); first | (k_unfold; (try dsimp only)) | (k_end; wrow_close) | walk1 | (dsimp only; walk1) | (leave1; walk_say "STEP leave1"; try dsimp only) | fail "no step"))
  k_with "lc" => (repeat' ((fail_if_success (with_reducible show wpAny _ _ (eval (Expr.ListComp _ _ _ _) _) _ _ _)); (fail_if_success (with_reducible show wpAny _ _ (subscriptTail _ _ _ _) _ _ _)); (fail_if_success (with_reducible show wpAny _ _ (exec (Stmt.Assign [_] (Expr.ListComp _ _ _ _) _) _) _ _ _)); (fail_if_success (with_reducible show LCg.CompEnd _ _ _ _ _ _ _ _ _ _ _ _ _ _)); (fail_if_success (with_reducible show LCt.CompSrcT _ _ _ _ _ _ _ _ _ _ _ _ _ _ _)); (fail_if_success (with_reducible show wpAny _ _ (pyIter _) _ _ _)); (fail_if_success (with_reducible show wpAny _ _ (call (Value.builtin "list.append") _) _ _ _)); (fail_if_success (with_reducible show wpAny _ _ (call (Value.ref _) _) _ _ _)); (fail_if_success (with_reducible show wpAny _ _ (exec (Stmt.For _ _ _ _ _) _) _ _ _)); (fail_if_success (with_reducible show wpAny _ _ (exec (Stmt.While _ _ _ _) _) _ _ _)); first | (k_unfold; (try dsimp only)) | (k_end; wrow_close) | walk1 | (dsimp only; walk1) | (leave1; walk_say "STEP leave1"; try dsimp only) | fail "no step"))
  k_with "lt" => (repeat' ((fail_if_success (with_reducible show wpAny _ _ (eval (Expr.ListComp _ _ _ _) _) _ _ _)); (fail_if_success (with_reducible show wpAny _ _ (exec (Stmt.Assign [_] (Expr.ListComp _ _ _ _) _) _) _ _ _)); (fail_if_success (with_reducible show LCg.CompEnd _ _ _ _ _ _ _ _ _ _ _ _ _ _)); (fail_if_success (with_reducible show LCt.CompSrcT _ _ _ _ _ _ _ _ _ _ _ _ _ _ _)); (fail_if_success (with_reducible show wpAny _ _ (pyIter _) _ _ _)); (fail_if_success (with_reducible show wpAny _ _ (call (Value.builtin "list.append") _) _ _ _)); (fail_if_success (with_reducible show wpAny _ _ (call (Value.ref _) _) _ _ _)); (fail_if_success (with_reducible show wpAny _ _ (exec (Stmt.For _ _ _ _ _) _) _ _ _)); (fail_if_success (with_reducible show wpAny _ _ (exec (Stmt.While _ _ _ _) _) _ _ _)); first | (k_unfold; (try dsimp only)) | (k_end; wrow_close) | walk1 | (dsimp only; walk1) | (leave1; walk_say "STEP leave1"; try dsimp only) | fail "no step"))
  k_with "for" => ((rename Fr _ _ _ _ => lF'); (with_reducible refine' For_invVF lF' ?k1 ?k2 ?_ ?k3 ?k4); (case k1 => exact rfl); (case k2 => exact rfl); (case k3 => intro _; rfl); (case k4 => passes_own))
  k_with "one" => (first | (k_unfold; (try dsimp only)) | (k_end; wrow_close) | walk1 | (dsimp only; walk1) | (leave1; walk_say "STEP leave1"; try dsimp only) | fail "no step")
  k_with "tu" => (repeat' ((fail_if_success (with_reducible show wpAny _ _ (pyIter _) _ _ _)); (fail_if_success (with_reducible show wpAny _ _ (compareOp _ _ _) _ _ _)); first | (k_unfold; (try dsimp only)) | (k_end; wrow_close) | walk1 | (dsimp only; walk1) | (leave1; walk_say "STEP leave1"; try dsimp only) | fail "no step"))
  k_with "one" => (first | (k_unfold; (try dsimp only)) | (k_end; wrow_close) | walk1 | (dsimp only; walk1) | (leave1; walk_say "STEP leave1"; try dsimp only) | fail "no step")
  trivial
noncomputable def pairT : Nat → List Int × List Int
  | 0 => ([6], [1, 2, 3])
  | 1 => ([1, 1, 1, 1, 2], [2, 2, 2])
  | _ => ([1, 1, 1, 3], [3, 3])
noncomputable def partnerF (ns : List Int) : List Int := if ns = [6] then [1, 2, 3] else if ns = [1, 2, 3] then [6] else if ns = [1, 1, 1, 1, 2] then [2, 2, 2] else if ns = [2, 2, 2] then [1, 1, 1, 1, 2] else if ns = [1, 1, 1, 3] then [3, 3] else if ns = [3, 3] then [1, 1, 1, 3] else ns
theorem partner_0 {ns : List Int} (e : ns = [6]) : partnerF ns = [1, 2, 3] := by rw [e]; rfl
theorem partner_1 {ns : List Int} (e : ns = [1, 2, 3]) : partnerF ns = [6] := by rw [e]; rfl
theorem partner_2 {ns : List Int} (e : ns = [1, 1, 1, 1, 2]) : partnerF ns = [2, 2, 2] := by rw [e]; rfl
theorem partner_3 {ns : List Int} (e : ns = [2, 2, 2]) : partnerF ns = [1, 1, 1, 1, 2] := by rw [e]; rfl
theorem partner_4 {ns : List Int} (e : ns = [1, 1, 1, 3]) : partnerF ns = [3, 3] := by rw [e]; rfl
theorem partner_5 {ns : List Int} (e : ns = [3, 3]) : partnerF ns = [1, 1, 1, 3] := by rw [e]; rfl
theorem partner_6 {ns : List Int} (a : ns ≠ [6]) (b : ns ≠ [1, 2, 3]) (c : ns ≠ [1, 1, 1, 1, 2]) (d : ns ≠ [2, 2, 2]) (e : ns ≠ [1, 1, 1, 3]) (f : ns ≠ [3, 3]) : partnerF ns = ns := by
  unfold partnerF
  rw [if_neg a, if_neg b, if_neg c, if_neg d, if_neg e, if_neg f]
/-- a pair of the partners, as it lies -/
inductive PairAt (nw : List (Addr × Obj)) (i : Nat) (v : Value) : Prop
  | mk (T A B : Addr) (as bs : List Value) (na nb nt : Nat) (e : v = .ref T) (hT : (T, ({ cls := .type "tuple", data := .seq #[Value.ref A, Value.ref B] nt } : Obj)) ∈ nw) (hA : (A, listOf as.toArray na) ∈ nw) (hB : (B, listOf bs.toArray nb) ∈ nw) (iA : IntsAre as (pairT i).1) (iB : IntsAre bs (pairT i).2) (i3 : i < 3)
theorem partner_a {ns : List Int} {i : Nat} (hi : i < 3) (e : ns = (pairT i).1) : partnerF ns = (pairT i).2 := by
  rcases i with _ | _ | _ | i
  · exact partner_0 e
  · exact partner_2 e
  · exact partner_4 e
  · omega
theorem partner_b {ns : List Int} {i : Nat} (hi : i < 3) (e : ns = (pairT i).2) : partnerF ns = (pairT i).1 := by
  rcases i with _ | _ | _ | i
  · exact partner_1 e
  · exact partner_3 e
  · exact partner_5 e
  · omega
theorem eq_led {prog : Program} {w : World} {A : Around} {E : Value → Shared → Prop} {s : Shared} {h₀ : Heap} {L l b : Addr} {nw : List (Addr × Obj)} {n1 n2 : Nat} {vs ws : List Value} {ns ms : List Int} {Q : Value → Shared → Prop} (N : News h₀ L s.heap nw) (hl : (l, listOf vs.toArray n1) ∈ nw) (hb : (b, listOf ws.toArray n2) ∈ nw)
    (hi : IntsAre vs ns) (hj : IntsAre ws ms) (hu : A.units + 64 < cLine) (h1 : ns = ms → Q (.bool true) s) (h2 : ns ≠ ms → Q (.bool false) s) : wpAny (model prog w) A (compareOp .Eq (.ref l) (.ref b)) Q E s := by
  refine ke_eq_ints (News.isList N hl) (News.isList N hb) hi hj hu ?_
  by_cases h : ns = ms
  · rw [decide_eq_true h]; exact h1 h
  · rw [decide_eq_false h]; exact h2 h
section
variable {w : World} {mean : ExcName → Option Value} {mg mb : Str → Option Value} {dp un : Nat} {gd : Option (List Code)} {cn : Str} {cs : Scope} {a : Addr} {ccd : Value} {cl : List (Str × Addr)} {outer : List Env} {A₀ : Around} {base h₀ : Heap} {L : Addr} {m : Str → Option Value} {news : List (Addr × Obj)} {s : Shared} {Q E : Value → Shared → Prop}
theorem partner_ok {l : Addr} {vs : List Value} {ns : List Int} {nn : Nat} (H : Here 8 w mean mg mb dp un cs outer A₀ base h₀ L m news s.heap) (hl : (l, listOf vs.toArray nn) ∈ news) (hi : IntsAre vs ns) (h6 : ns.length ≤ 6)
  (hret : ∀ D h' tk', Fr h₀ L h' m → (∃ us cc nw, News h₀ L h' nw ∧ (D, listOf us.toArray cc) ∈ nw ∧ IntsAre us (partnerF ns) ∧ ∀ p ∈ news, p ∈ nw) → Q (.ref D) { s with heap := h', toks := tk' }) :
  wpAny (model PySem.Challenge.rw_sn0021_02.row.prog w) (ktrTop dp un gd cn cs L a ccd cl outer) (call (.ref 85) [.ref l]) Q E s := by
  obtain ⟨B, F, X, N, T, hk, hd, hu⟩ := H
  refine wpAny_call ?_
  k_dflt cell_enter
  k_extra "st"
  rename_i g1 L1 h0 FG1 F1 N1 BB XX TT
  refine wpAny_For ?_ ?_
  rotate_left
  · intro _; rfl
  k_extra "tu"
  rename_i A1 _ k1 B1 _ k2 T1 _ k3 A2 _ k4 B2 _ k5 T2 _ k6 A3 _ k7 B3 _ k8 T3 _ k9 LL hL fL nL kL
  obtain ⟨nw0, hnw0, nL0⟩ : ∃ nw0, nw0 = _ ∧ News g1 L1 hL nw0 := ⟨_, rfl, nL⟩
  clear nL
  have pick : ∀ (i : Nat) (v : Value), [Value.ref T1, Value.ref T2, Value.ref T3][i]? = some v → PairAt nw0 i v := fun i v hv => by
    rcases i with _ | _ | _ | i
    · cases hv
      rw [hnw0]
      exact ⟨T1, A1, B1, _, _, _, _, _, rfl, (.tail _ (.tail _ (.tail _ (.tail _ (.tail _ (.tail _ (.tail _ (.head _)))))))), (.tail _ (.tail _ (.tail _ (.tail _ (.tail _ (.tail _ (.tail _ (.tail _ (.tail _ (.head _)))))))))), (.tail _ (.tail _ (.tail _ (.tail _ (.tail _ (.tail _ (.tail _ (.tail _ (.head _))))))))), .cons 6 _ .nil, .cons 1 _ (.cons 2 _ (.cons 3 _ .nil)), by decide⟩
    · cases hv
      rw [hnw0]
      exact ⟨T2, A2, B2, _, _, _, _, _, rfl, (.tail _ (.tail _ (.tail _ (.tail _ (.head _))))), (.tail _ (.tail _ (.tail _ (.tail _ (.tail _ (.tail _ (.head _))))))), (.tail _ (.tail _ (.tail _ (.tail _ (.tail _ (.head _)))))), .cons 1 _ (.cons 1 _ (.cons 1 _ (.cons 1 _ (.cons 2 _ .nil)))), .cons 2 _ (.cons 2 _ (.cons 2 _ .nil)), by decide⟩
    · cases hv
      rw [hnw0]
      exact ⟨T3, A3, B3, _, _, _, _, _, rfl, (.tail _ (.head _)), (.tail _ (.tail _ (.tail _ (.head _)))), (.tail _ (.tail _ (.head _))), .cons 1 _ (.cons 1 _ (.cons 1 _ (.cons 3 _ .nil))), .cons 3 _ (.cons 3 _ .nil), by decide⟩
    · cases hv
  refine iterG (nn := 0) (items := [Value.ref T1, Value.ref T2, Value.ref T3]) (fun i t m nw => nw = nw0 ∧ m (Str.ofString "sizes") = some (Value.ref l) ∧ ∀ j < i, ns ≠ (pairT j).1 ∧ ns ≠ (pairT j).2) (by rfl) fL nL0 ⟨rfl, by rfl, fun j hj => absurd hj (Nat.not_lt_zero _)⟩ ?_ ?_ ?_ ?_ ?_
  · intro i t t' m nw _ h; exact h
  · rintro i t m nw ⟨rfl, _, _⟩
    exact ⟨by rw [hnw0]; exact .head _, fun p hp => Nat.ne_of_lt (Heap.lt_size (nL0 p hp).1)⟩
  · rintro i v t h o m2 nw hv ⟨rfl, hm, hne⟩ fT nT
    clear fL nL0
    rw [mform1 hm] at fT
    obtain ⟨Ti, Ai, Bi, as, bs, na, nb, nt, rfl, hT, hA, hB, iA, iB, i3⟩ := pick i v hv
    have hl0 : (l, listOf vs.toArray nn) ∈ nw := by rw [hnw0]; exact (.tail _ (.tail _ (.tail _ (.tail _ (.tail _ (.tail _ (.tail _ (.tail _ (.tail _ (.tail _ hl))))))))))
    have nT2 := cb_drop (news := (Ti, ({ cls := .type "tuple", data := .seq #[Value.ref Ai, Value.ref Bi] nt } : Obj)) :: (Ai, listOf as.toArray na) :: (Bi, listOf bs.toArray nb) :: (l, listOf vs.toArray nn) :: (nw ++ [(hL.objs.size, o)])) nT (sub_cons (in_l hT) (sub_cons (in_l hA) (sub_cons (in_l hB) (sub_cons (in_l hl0) fun q hq => hq))))
    clear nT
    have hnew : ∀ q ∈ news, q ∈ (Ti, ({ cls := .type "tuple", data := .seq #[Value.ref Ai, Value.ref Bi] nt } : Obj)) :: (Ai, listOf as.toArray na) :: (Bi, listOf bs.toArray nb) :: (l, listOf vs.toArray nn) :: (nw ++ [(hL.objs.size, o)]) := fun q hq => .tail _ (.tail _ (.tail _ (.tail _ (in_l (by rw [hnw0]; exact (.tail _ (.tail _ (.tail _ (.tail _ (.tail _ (.tail _ (.tail _ (.tail _ (.tail _ (.tail _ hq)))))))))))))))
    clear hnw0
    k_extra "st"
    · rename ns = _ => e
      dsimp only
      unfold PostG
      dsimp only
      k_extra "st"
      rename Fr h₀ _ _ _ => fZ
      rename News h₀ _ _ _ => nZ
      exact hret Bi _ _ fZ ⟨_, _, _, nZ, (.tail _ (.tail _ (.head _))), (by rw [partner_a i3 e]; exact iB), hnew⟩
    · rename ns = _ => e
      dsimp only
      unfold PostG
      dsimp only
      k_extra "st"
      rename Fr h₀ _ _ _ => fZ
      rename News h₀ _ _ _ => nZ
      exact hret Ai _ _ fZ ⟨_, _, _, nZ, (.tail _ (.head _)), (by rw [partner_b i3 e]; exact iA), hnew⟩
    · rename News g1 _ _ _ => nX3
      rename ¬ ns = (pairT i).1 => e1
      rename ¬ ns = (pairT i).2 => e2
      refine ⟨_, _, _, _, rfl, by assumption, fun q hq => nX3 q (.tail _ (.tail _ (.tail _ (.tail _ hq)))), rfl, by rfl, fun j hj => ?_⟩
      rcases Nat.lt_succ_iff_lt_or_eq.mp hj with hj | rfl
      · exact hne j hj
      · exact ⟨e1, e2⟩
  · rintro t h m2 nw ⟨rfl, hm, hne⟩ fT nT
    clear fL nL0
    subst hnw0
    rw [mform1 hm] at fT
    have a0 := hne 0 (by show 0 < 3; decide)
    have a1 := hne 1 (by show 1 < 3; decide)
    have a2 := hne 2 (by show 2 < 3; decide)
    k_extra "st"
    rename Fr h₀ _ _ _ => fZ
    rename News h₀ _ _ _ => nZ
    refine hret l _ _ fZ ⟨vs, nn, news, cb_drop nZ (fun p hp => ?_), hl, (by rw [partner_6 a0.1 a0.2 a1.1 a1.2 a2.1 a2.2]; exact hi), fun p hp => hp⟩
    exact .tail _ (.tail _ (.tail _ (.tail _ (.tail _ (.tail _ (.tail _ (.tail _ (.tail _ (.tail _ hp)))))))))
  · passes_own
end
end Mine2
namespace Mine2
theorem words11 : True := by
  k_with_none
  k_with "s7" => (repeat' ((fail_if_success (with_reducible show wpAny _ _ (call (Value.builtin "str.split") _) _ _ _)); (fail_if_success (with_reducible show wpAny _ _ (call (Value.builtin "str.find") _) _ _ _)); (fail_if_success (with_reducible show wpAny _ _ (pyIter _) _ _ _)); (fail_if_success (with_reducible show wpAny _ _ (exec (Stmt.For _ _ _ _ _) _) _ _ _)); first | (k_unfold; (try dsimp only)) | (k_end; wrow_close) | walk1 | (dsimp only; walk1) | (leave1; walk_say "STEP leave1"; try dsimp only) | fail "no step"))
  trivial
theorem args_find4 (a b c d : Value) : argsOk "str.find" ⟨[a, b, c, d], []⟩ := by unfold argsOk; kernel_rfl
noncomputable def find4 (x y : Str) (i j : Int) : Int := match Builtin.Str.occurrences x y (fromIndex x.length i) (min (fromIndex x.length j) x.length) 1 with | k :: _ => (k : Int) | [] => -1
theorem gives_find4 (x y : Str) (i j : Int) (t u v z : Tok) : Gives (Builtin.«str.find» ⟨[.str x t, .str y u, .int i v, .int j z], []⟩) (.int (find4 x y i j)) := by
  show Gives (match Builtin.Str.occurrences x y (fromIndex x.length i) (min (fromIndex x.length j) x.length) 1 with | k :: _ => retInt k | [] => (do rule "str.find.not-found"; retInt (-1))) _
  unfold find4
  cases Builtin.Str.occurrences x y (fromIndex x.length i) (min (fromIndex x.length j) x.length) 1 with
  | nil => exact .rule (.of_eq rfl)
  | cons k _ => exact .of_eq rfl
theorem find4_call {prog : Program} {w : World} {A : Around} {E : Value → Shared → Prop} {s : Shared} {x y : Str} {t u v z : Tok} {i j : Int} {Q : Value → Shared → Prop} (hq : Q (.int (find4 x y i j) s.toks) { s with toks := s.toks + 1 }) : wpAny (model prog w) A (call (.builtin "str.find") [.str x t, .str y u, .int i v, .int j z]) Q E s :=
  call_gives F.slot_str_find (typeIs_str _ _ _) F.entry_str_find (args_find4 _ _ _ _) (gives_find4 x y i j t u v z) hq
/-- the walk of the pieces through the text -/
noncomputable def ellRun (y : Str) : List Str → Int → Bool
  | [], _ => true
  | w :: ws, sp => if find4 y w sp y.length < 0 then false else ellRun y ws (find4 y w sp y.length + w.length)
/-- what the loop over the pieces keeps -/
inductive EllJ (y : Str) (ty : Tok) (X Y : Str) (nw0 : List (Addr × Obj)) (i : Nat) (m : Str → Option Value) (nw : List (Addr × Obj)) : Prop
  | mk (e : nw = nw0) (sp : Int) (tsp tep : Tok) (h1 : m (Str.ofString "startpos") = some (Value.int sp tsp)) (h2 : m (Str.ofString "endpos") = some (Value.int y.length tep)) (h3 : m (Str.ofString "got") = some (Value.str y ty)) (hr : ellRun y ([⟨#[]⟩, X, Y, ⟨#[]⟩].drop i) sp = ellRun y [⟨#[]⟩, X, Y, ⟨#[]⟩] 0)
section
variable {w : World} {mean : ExcName → Option Value} {mg mb : Str → Option Value} {dp un : Nat} {gd : Option (List Code)} {cn : Str} {cs : Scope} {a : Addr} {ccd : Value} {cl : List (Str × Addr)} {outer : List Env} {A₀ : Around} {base h₀ : Heap} {L : Addr} {m : Str → Option Value} {news : List (Addr × Obj)} {s : Shared} {Q E : Value → Shared → Prop}
theorem mform3 {m : Str → Option Value} {x y z : Str} {a b c : Value} (h1 : m x = some a) (h2 : m y = some b) (h3 : m z = some c) : m = fun u => if u = x then some a else if u = y then some b else if u = z then some c else m u := by
  funext u
  split
  · rename_i e; rw [e, h1]
  · split
    · rename_i e; rw [e, h2]
    · split
      · rename_i e; rw [e, h3]
      · rfl
theorem ell_ok {x y X Y : Str} {tx ty : Tok} (H : Here 5 w mean mg mb dp un cs outer A₀ base h₀ L m news s.heap) (h1 : (Builtin.Str.occurrences x (Str.ofString "...") 0 x.length 1).isEmpty = false) (h2 : Txt.split x (Str.ofString "...") = [⟨#[]⟩, X, Y, ⟨#[]⟩]) (hx : x.length ≤ 100) (hy : y.length ≤ 100) (hX : X.length ≤ 100) (hY : Y.length ≤ 100)
  (hret : ∀ h' tk', Fr h₀ L h' m → News h₀ L h' news → Q (.bool (ellRun y [⟨#[]⟩, X, Y, ⟨#[]⟩] 0)) { s with heap := h', toks := tk' }) :
  wpAny (model PySem.Challenge.rw_sn0021_02.row.prog w) (ktrTop dp un gd cn cs L a ccd cl outer) (call (.ref 42) [.str x tx, .str y ty]) Q E s := by
  obtain ⟨B, F, X', N, T, hk, hd, hu⟩ := H
  refine wpAny_call ?_
  k_dflt cell_enter
  k_extra "s7"
  · rename Fr _ _ _ _ => fA
    rename News _ _ _ _ => nA
    refine KSpl.split1 fA nA (by decide) ?_ (by rw [sizeLine_eq]; omega)
    clear fA nA
    intro D l h' k e1 e2 F' N' l1
    rw [h2] at e1
    obtain ⟨t1, r, rfl, e3⟩ := KSpl.cons_of e1
    obtain ⟨t2, r2, rfl, e4⟩ := KSpl.cons_of e3
    obtain ⟨t3, r3, rfl, e5⟩ := KSpl.cons_of e4
    obtain ⟨t4, r4, rfl, e6⟩ := KSpl.cons_of e5
    obtain rfl := KSpl.nil_of e6
    clear e1 e3 e4 e5 e6
    simp only [strValues, List.map_cons, List.map_nil] at N' e2
    replace l1 := allLt_of l1
    k_extra "s7"
    rename_i g1 L1 _ _ _ _ _
    refine forT ?_ (by intro _; rfl)
    k_extra "s7"
    rename Fr _ _ _ _ => fE
    rename News _ _ _ _ => nE
    obtain ⟨nw0, hnw0, nE0⟩ : ∃ nw0, nw0 = _ ∧ News _ _ _ nw0 := ⟨_, rfl, nE⟩
    clear nE
    refine iterG (nn := 0) (items := [Value.str ⟨#[]⟩ t1, Value.str X t2, Value.str Y t3, Value.str ⟨#[]⟩ t4]) (fun i _ m nw => EllJ y ty X Y nw0 i m nw) (by rfl) fE nE0 ⟨rfl, 0, _, _, by rfl, by rfl, by rfl, rfl⟩ ?_ ?_ ?_ ?_ ?_
    · intro i t t' m nw _ h; exact h
    · rintro i t m nw ⟨rfl, _⟩
      exact ⟨by rw [hnw0]; exact .tail _ (.head _), fun p hp => Nat.ne_of_lt (Heap.lt_size (nE0 p hp).1)⟩
    · rintro i v t h o m2 nw hv ⟨rfl, sp, tsp, tep, hm1, hm2, hm3, hrun⟩ fT nT
      clear fE nE0
      rw [mform3 hm1 hm2 hm3] at fT
      obtain ⟨W, tw, rfl, hWl, hW⟩ : ∃ W tw, v = .str W tw ∧ W.length ≤ 100 ∧ [⟨#[]⟩, X, Y, ⟨#[]⟩].drop i = W :: [⟨#[]⟩, X, Y, ⟨#[]⟩].drop (i + 1) := by
        rcases i with _ | _ | _ | _ | i
        · cases hv; exact ⟨_, _, rfl, Nat.zero_le _, rfl⟩
        · cases hv; exact ⟨_, _, rfl, hX, rfl⟩
        · cases hv; exact ⟨_, _, rfl, hY, rfl⟩
        · cases hv; exact ⟨_, _, rfl, Nat.zero_le _, rfl⟩
        · simp at hv
      rw [hW] at hrun
      k_extra "s7"
      refine find4_call ?_
      k_extra "s7"
      · unfold PostG
        dsimp only
        k_extra "s7"
        rename News h₀ _ _ _ => nZ
        rename find4 _ _ _ _ < 0 => hneg
        have e0 : ellRun y [⟨#[]⟩, X, Y, ⟨#[]⟩] 0 = false := by
          rw [← hrun]
          unfold ellRun
          rw [if_pos hneg]
        have := hret
        rw [e0] at this
        exact this _ _ (by assumption) (cb_drop nZ (fun p hp => List.mem_append_left _ (by rw [hnw0]; exact .tail _ (.tail _ hp))))
      · rename ¬ find4 _ _ _ _ < 0 => hpos
        rename News _ _ _ _ => nX
        refine ⟨_, _, _, _, rfl, by assumption, nX, rfl, _, _, _, rfl, rfl, rfl, ?_⟩
        rw [← hrun]
        conv => rhs; unfold ellRun
        rw [if_neg hpos]
    · rintro t h m2 nw ⟨rfl, sp, tsp, tep, hm1, hm2, hm3, hrun⟩ fT nT
      clear fE nE0
      subst hnw0
      k_extra "s7"
      rename News h₀ _ _ _ => nZ
      have e0 : ellRun y [⟨#[]⟩, X, Y, ⟨#[]⟩] 0 = true := hrun.symm
      have := hret
      rw [e0] at this
      exact this _ _ (by assumption) (cb_drop nZ (fun p hp => .tail _ (.tail _ hp)))
    · passes_own
end
end Mine2
namespace Mine2
theorem three_pushes (h : Heap) (o1 o2 o3 : Obj) (f1 : o1.isFreed = false) (f2 : o2.isFreed = false) (f3 : o3.isFreed = false) : (∀ b o, h.get? b = some o → (((h.push o1).push o2).push o3).get? b = some o) ∧ (((h.push o1).push o2).push o3).get? h.objs.size = some o1 ∧ (((h.push o1).push o2).push o3).get? (h.objs.size + 1) = some o2 ∧ (((h.push o1).push o2).push o3).get? (h.objs.size + 1 + 1) = some o3 := by
  have s1 : (h.push o1).objs.size = h.objs.size + 1 := Heap.size_push ..
  have s2 : ((h.push o1).push o2).objs.size = h.objs.size + 1 + 1 := by rw [Heap.size_push, s1]
  refine ⟨fun b o e => Heap.get?_push_of_some _ (Heap.get?_push_of_some _ (Heap.get?_push_of_some _ e)), Heap.get?_push_of_some _ (Heap.get?_push_of_some _ (Heap.get?_push_size _ f1)), ?_, ?_⟩
  · rw [← s1]; exact Heap.get?_push_of_some _ (Heap.get?_push_size _ f2)
  · rw [← s2]; exact Heap.get?_push_size _ f3
inductive Comp3Src (prog : Program) (w : World) (A : Around) (h₀ : Heap) (L : Addr) (m : Str → Option Value) (env : Env) {α : Type} (elt : Expr) (a1 a2 a3 : Str) (scope : Scope) (cl : List (Str × Addr)) (Rv : α → Value → Value → Value → Prop) (Out : List α → List Value → List (Addr × Obj) → Prop) (Q : Value → Shared → Prop) (xv : Value) (s₁ : Shared) : Prop
  | mk (ax : Addr) (vs : List Value) (nn : Nat) (news : List (Addr × Obj)) (xs : List α) (e : xv = .ref ax) (hh : A.handled = none) (F : Fr h₀ L s₁.heap m) (N : News h₀ L s₁.heap news) (hm : (ax, listOf vs.toArray nn) ∈ news) (hl : vs.length = xs.length) (hz : vs.length ≤ sizeLine)
    (hR : ∀ (i : Nat) (a : α) (v : Value), xs[i]? = some a → vs[i]? = some v → ∃ (T : Addr) (v1 v2 v3 : Value), v = .ref T ∧ (T, ({ cls := .type "tuple", data := .seq #[v1, v2, v3] } : Obj)) ∈ news ∧ Rv a v1 v2 v3) (h0 : Out [] [] [])
    (turn : ∀ (pre : List α) (a : α) (v1 v2 v3 : Value) (I : Addr) (oI : Obj) (C : Addr) (oC : Obj) (D : Addr) (m₂ : Str → Option Value) (ys : List Value) (ex : List (Addr × Obj)) (h : Heap) (tk : Nat) (E' : Value → Shared → Prop), a ∈ xs → Rv a v1 v2 v3 → Out pre ys ex → LCg.NsObj oC m₂ → m₂ a1 = some v1 → m₂ a2 = some v2 → m₂ a3 = some v3 → Fr h₀ L h m → News h₀ L h ((I, oI) :: (C, oC) :: (D, LCg.lst ys) :: (ex ++ news)) → LCg.Off3 I C D (ex ++ news) → ((@Ne Nat I C) ∧ (@Ne Nat I D) ∧ (@Ne Nat C D)) →
        wpAny (model prog w) A (eval elt (compEnvC scope cl C env)) (LCg.CompEnd h₀ L m { s₁ with heap := h, toks := tk } I oI C oC D (LCg.lst ys) (fun _ => True) (fun y news' => ∃ ex', news' = ex' ++ news ∧ Out (pre ++ [a]) (ys ++ [y]) ex')) E' { s₁ with heap := h, toks := tk })
    (fin : ∀ (ys : List Value) (ex : List (Addr × Obj)) (D : Addr) (h : Heap) (tk : Nat), Out xs ys ex → Fr h₀ L h m → News h₀ L h ((D, LCg.lst ys) :: (ex ++ news)) → LCg.Off1 D (ex ++ news) → Q (.ref D) { s₁ with heap := h, toks := tk })
inductive Comp3Inv (h₀ : Heap) (L : Addr) (m : Str → Option Value) {α : Type} (Out : List α → List Value → List (Addr × Obj) → Prop) (s₁ : Shared) (ax : Addr) (n : Nat) (xs : List α) (news : List (Addr × Obj)) (I : Nat) (k : Nat) (s' : Shared) : Prop
  | mk (h' : Heap) (tk : Tok) (i : Nat) (ys : List Value) (m' : Str → Option Value) (ex : List (Addr × Obj)) (e : s' = { s₁ with heap := h', toks := tk }) (hi : i ≤ n) (hk : k = n + 1 - i) (hy : ys.length ≤ i) (hO : Out (xs.take i) ys ex) (it : h'.IsListIter I ax i) (F : Fr h₀ L h' m) (hn : h'.Ns (I + 1 + 1) m') (N : News h₀ L h' ((I + 1, LCg.lst ys) :: (ex ++ news))) (off : LCg.Off3 I (I + 1 + 1) (I + 1) (ex ++ news))
section
open LCg LCp
variable {prog : Program} {w : World} {A : Around} {E : Value → Shared → Prop} {s : Shared} {h₀ : Heap} {L : Addr} {m : Str → Option Value} {env : Env}
/-- the same for any source -/
theorem comp_gen {α : Type} {elt : Expr} {x : Str} {scope : Scope} {cl : List (Str × Addr)} {S : List (Addr × Obj) → Prop} {Fin : List Value → List (Addr × Obj) → Prop} {news : List (Addr × Obj)} {xs : List α} {n : Nat} {P : Nat → Value → Prop} (R : α → Value → Prop) (hlen : xs.length = n)
    (hR : ∀ (i : Nat) a v, xs[i]? = some a → P i v → R a v) (Out : List α → List Value → List (Addr × Obj) → Prop) (h0 : Out [] [] [])
    (turn : ∀ pre a v I oI C oC D m₂ ys ex h tk (E' : Value → Shared → Prop), a ∈ xs → R a v → Out pre ys ex → LCg.NsObj oC m₂ → m₂ x = some v → Fr h₀ L h m → News h₀ L h ((I, oI) :: (C, oC) :: (D, LCg.lst ys) :: (ex ++ news)) → LCg.Off3 I C D (ex ++ news) → ((@Ne Nat I C) ∧ (@Ne Nat I D) ∧ (@Ne Nat C D)) →
      wpAny (model prog w) A (eval elt (compEnvC scope cl C env)) (LCg.CompEnd h₀ L m { s with heap := h, toks := tk } I oI C oC D (LCg.lst ys) S (fun y news' => ∃ ex', news' = ex' ++ news ∧ Out (pre ++ [a]) (ys ++ [y]) ex')) E' { s with heap := h, toks := tk })
    (fin : ∀ ys ex, Out xs ys ex → Fin ys (ex ++ news)) : LCg.CompRest prog w A h₀ L m env elt x scope cl s S P Fin n 0 [] news := by
  have key : ∀ (j i : Nat) (ys : List Value) (ex : List (Addr × Obj)), i + j = n → Out (xs.take i) ys ex → LCg.CompRest prog w A h₀ L m env elt x scope cl s S P Fin j i ys (ex ++ news) := by
    intro j
    induction j with
    | zero =>
      intro i ys ex hi hy
      have e : i = xs.length := by omega
      subst e
      rw [List.take_length] at hy
      exact LCg.CompRest.zero (fin ys ex hy)
    | succ j ih =>
      intro i ys ex hi hy
      refine LCg.CompRest.succ ?_
      intro v I oI C oC D m₂ h tk E' hv hC hx F N off ne
      have h2 : i < xs.length := by omega
      have ha : xs[i]? = some xs[i] := List.getElem?_eq_getElem h2
      refine wpAny_mono (turn (xs.take i) xs[i] v I oI C oC D m₂ ys ex h tk E' (List.getElem_mem h2) (hR i _ _ ha hv) hy hC hx F N off ne) (fun y s₂ hq => ?_) fun _ _ e => e
      obtain ⟨h', tk', nw, e, F', N', off', hS, ex', hn, hO⟩ := hq
      rw [hn] at N' off' hS
      refine ⟨h', tk', ex' ++ news, e, F', N', off', hS, ?_⟩
      refine ih (i + 1) _ _ (by omega) ?_
      rw [List.take_add_one, ha]
      exact hO
  exact key n 0 [] [] (by omega) h0
/-- a list comprehension over a list of triples, each taken apart; the ledger may grow -/
theorem comp3 {α : Type} {elt iter : Expr} {a1 a2 a3 : Str} {p1 p2 p3 tp : Pos} {kk} {scope : Scope} {cl : List (Str × Addr)} {pos : Pos} {Q : Value → Shared → Prop} (Rv : α → Value → Value → Value → Prop) (Out : List α → List Value → List (Addr × Obj) → Prop)
    (hclos : closureFor scope env = pure cl) (hcell : ∀ y ∈ scope.names, y.2 ≠ .cell) (hkind : scope.kind = .function) (hnames : ∀ y ∈ scope.names, y.2 = .local → scope.names.lookup y.1 = some .local)
    (hx1 : scope.names.lookup a1 = some .local) (hx2 : scope.names.lookup a2 = some .local) (hx3 : scope.names.lookup a3 = some .local) (d12 : a1 ≠ a2) (d13 : a1 ≠ a3) (d23 : a2 ≠ a3)
    (h : wpAny (model prog w) A (eval iter env) (Comp3Src prog w A h₀ L m env elt a1 a2 a3 scope cl Rv Out Q) E s)
    (hs : ∀ x, foldedSetIterable iter env x = pure x := by intro _; rfl) :
    wpAny (model prog w) A (eval (.ListComp elt [⟨.Tuple [.Name a1 p1, .Name a2 p2, .Name a3 p3] kk tp, iter, [], 0⟩] scope pos) env) Q E s := by
  rw [eval_ListComp]
  refine wpAny_comprehension_free (use := none) rfl hs hclos hkind hnames (wpAny_mono h (fun xv s₁ h₁ => ?_) fun _ _ e => e)
  obtain ⟨ax, vs, nn, news, xs, rfl, hh, F, N, hm, hlen, hsz, hR, hO, turn, fin⟩ := h₁
  have hl := News.isList N hm
  have hlt : ax < s₁.heap.objs.size := by obtain ⟨_, e, _⟩ := id hl; exact Heap.lt_size e
  refine wpAny_pyIter_list hl ?_
  have W := Walks.list (prog := prog) (w := w) hh s₁.heap.objs.size ax (Nat.ne_of_lt hlt) vs.toArray
  refine wpAny_newObj_type (wpAny_newFunctionEnv hcell (by intro y hy; simp at hy) (fun h₁ hns₁ hsb₁ => ?_) hkind)
  dsimp only at hns₁ hsb₁ ⊢
  simp only [Heap.size_push, List.reverse_nil, List.length_nil, Nat.add_zero, Option.isSome_some, if_true] at hns₁ hsb₁ ⊢
  obtain ⟨hk4, gI, gD, gC⟩ := three_pushes s₁.heap { cls := Value.type "list_iterator", data := Data.fields #[Value.ref ax, Value.int 0 0] } { cls := Value.type "list", data := Data.seq #[] } { cls := Value.type "dict", data := Data.dict #[] } rfl rfl rfl
  have fresh : ∀ a, s₁.heap.objs.size ≤ a → h₀.get? a = none := fun a ha => by
    cases e : h₀.get? a with
    | none => rfl
    | some o => exact absurd (Heap.lt_size (F.keep a o e)) (Nat.not_lt.mpr ha)
  have hLlt : L < s₁.heap.objs.size := F.ns.lt
  have nlt : ∀ q ∈ news, q.1 < s₁.heap.objs.size := fun q hq => Heap.lt_size (N q hq).1
  have hI0 := fresh s₁.heap.objs.size (Nat.le_refl _)
  have hD0 := fresh (s₁.heap.objs.size + 1) (Nat.le_succ _)
  have hC0 := fresh (s₁.heap.objs.size + 1 + 1) (Nat.le_succ_of_le (Nat.le_succ _))
  have old : ∀ b o, s₁.heap.get? b = some o → h₁.get? b = some o := fun b o e => hsb₁.extBut b o (Nat.ne_of_lt (Nat.lt_succ_of_lt (Nat.lt_succ_of_lt (Heap.lt_size e)))) (Heap.get?_push_of_some _ (Heap.get?_push_of_some _ (Heap.get?_push_of_some _ e)))
  have gI1 := hsb₁.extBut _ _ (Nat.ne_of_lt (Nat.lt_succ_of_lt (Nat.lt_succ_self _))) gI
  have gD1 := hsb₁.extBut _ _ (Nat.ne_of_lt (Nat.lt_succ_self _)) gD
  have up1 : ∀ a : Nat, a + 1 ≠ a := fun a => Nat.succ_ne_self a
  have up2 : ∀ a : Nat, a + 1 + 1 ≠ a := fun a => Nat.ne_of_gt (Nat.lt_succ_of_lt (Nat.lt_succ_self a))
  clear gI gD gC hsb₁ hk4
  generalize hI : s₁.heap.objs.size = I at *
  have e1 : I ≠ L := Nat.ne_of_gt hLlt
  have e2 : I + 1 ≠ L := Nat.ne_of_gt (Nat.lt_succ_of_lt hLlt)
  have e3 : I + 1 + 1 ≠ L := Nat.ne_of_gt (Nat.lt_succ_of_lt (Nat.lt_succ_of_lt hLlt))
  have loop : codeAny (model prog w) A (.compLoop (.ListComp elt [⟨.Tuple [.Name a1 p1, .Name a2 p2, .Name a3 p3] kk tp, iter, [], 0⟩] scope pos) 0 (.ref I) (.ref (I + 1)) (compEnvC scope cl (I + 1 + 1) env))
      (compPost (model prog w) A E none Q (.ref (I + 1)) (I + 1 + 1)) { s₁ with heap := h₁ } := by
    refine codeAny_compLoop_pair (Comp3Inv h₀ L m Out s₁ ax vs.length xs news I) ?_ (vs.length + 1)
      ⟨h₁, _, 0, [], _, [], rfl, Nat.zero_le _, rfl, Nat.le_refl _, hO, ⟨_, gI1, rfl, rfl⟩, F.keeps old, hns₁, fun p hp => ?_, Off3.of fun p hp => ⟨Nat.ne_of_lt (nlt p hp), Nat.ne_of_lt (Nat.lt_succ_of_lt (Nat.lt_succ_of_lt (nlt p hp))), Nat.ne_of_lt (Nat.lt_succ_of_lt (nlt p hp))⟩⟩
    · rintro k s' ⟨h', tk, i, ys, m', ex, rfl, hile, rfl, hyl, hO', hit, F', hn', N', off'⟩
      have off3 := off'.mem
      have hlh : h'.IsList ax vs.toArray := News.isList N' (.tail _ (List.mem_append_right _ hm))
      by_cases hlti : i < vs.length
      · refine W.item i _ _ _ (by simpa using hlti) ⟨hit, hlh⟩ fun v₁ h₂ tk₂ hPv hst₂ hk₂ => ?_
        have hxi : i < xs.length := by omega
        have hxa : xs[i]? = some xs[i] := List.getElem?_eq_getElem hxi
        obtain ⟨T, v1, v2, v3, rfl, hT, hRv⟩ := hR i xs[i] v₁ hxa (by simpa using hPv)
        have F₂ := fr_but F' hk₂ (Nat.ne_of_lt hLlt) hI0
        have N₂ : News h₀ L h₂ ((I + 1, LCg.lst ys) :: (ex ++ news)) := news_but N' hk₂ fun p hp => by
          rcases List.mem_cons.mp hp with rfl | hp
          · exact up1 I
          · exact (off3 p hp).1
        have hn₂ : h₂.Ns (I + 1 + 1) m' := hn'.at' fun o e => hk₂ _ o (fun hm => up2 I (List.mem_singleton.mp hm)) e
        refine letGo_listiter hst₂.1 ?_
        have ht : IsTup h₂ T #[v1, v2, v3] := ⟨_, (N₂ _ (.tail _ (List.mem_append_right _ hT))).1, rfl, _, rfl⟩
        refine assign_Tuple_tuple hh ht rfl rfl fun h₅ he => ?_
        have he' : ∀ b o, h₂.get? b = some o → h₅.get? b = some o := fun b o e => he b o (Nat.ne_of_lt (Heap.lt_size e)) e
        refine assignInOrder_cons (wpAny_assign_Name (wpAny_storeName_local (lookup_relabel_local hx1) (hn₂.at' fun o e => he' _ o e) (fun h₆ hn₆ hs₆ => ?_) (by simp [compEnvC, relabel, hkind])))
        refine assignInOrder_cons (wpAny_assign_Name (wpAny_storeName_local (lookup_relabel_local hx2) hn₆ (fun h₇ hn₇ hs₇ => ?_) (by simp [compEnvC, relabel, hkind])))
        refine assignInOrder_cons (wpAny_assign_Name (wpAny_storeName_local (lookup_relabel_local hx3) hn₇ (fun h₃ hn₃ hs₃ => ?_) (by simp [compEnvC, relabel, hkind])))
        refine assignInOrder_nil ?_
        have old3 : ∀ b o, b ≠ I + 1 + 1 → h₂.get? b = some o → h₃.get? b = some o := fun b o hb e => hs₃.extBut b o hb (hs₇.extBut b o hb (hs₆.extBut b o hb (he' b o e)))
        obtain ⟨oI, heI, hcI⟩ := hst₂.1
        have heI₃ := old3 _ _ (Ne.symm (up2 I)) heI
        obtain ⟨oC, heC, hoC⟩ := ns_obj hn₃
        have F₃ : Fr h₀ L h₃ m := (((F₂.keeps he').change hs₆ e3 hC0).change hs₇ e3 hC0).change hs₃ e3 hC0
        have N₃ : News h₀ L h₃ ((I, oI) :: (I + 1 + 1, oC) :: (I + 1, LCg.lst ys) :: (ex ++ news)) := fun p hp => by
          rcases List.mem_cons.mp hp with rfl | hp
          · exact ⟨heI₃, e1, hI0⟩
          rcases List.mem_cons.mp hp with rfl | hp
          · exact ⟨heC, e3, hC0⟩
          rcases List.mem_cons.mp hp with rfl | hp
          · exact ⟨old3 _ _ (Ne.symm (up1 (I + 1))) (N₂ _ (.head _)).1, e2, hD0⟩
          · exact ⟨old3 _ _ (off3 p hp).2.1 (N₂ p (.tail _ hp)).1, (N₂ p (.tail _ hp)).2⟩
        refine wpAny_mono (turn (xs.take i) xs[i] v1 v2 v3 I oI (I + 1 + 1) oC (I + 1) _ ys ex h₃ _ _ (List.getElem_mem hxi) hRv hO' hoC (by simp [d12, d13]) (by simp [d23]) (by simp) F₃ N₃ off' ⟨Ne.symm (up2 I), Ne.symm (up1 I), up1 (I + 1)⟩) (fun y s₄ h₄ => ?_) fun _ _ e => e
        obtain ⟨h₄, tk₄, nw, rfl, F₄, N₄, off₄, _, ex', rfl, hO₄⟩ := h₄
        have zI := (N₄ (I, oI) (.head _)).1
        have zC := (N₄ (I + 1 + 1, oC) (.tail _ (.head _))).1
        have zD := (N₄ (I + 1, LCg.lst ys) (.tail _ (.tail _ (.head _)))).1
        have off4 := off₄.mem
        refine append_at (hsz := by show ys.toArray.size ≤ sizeLine; rw [List.size_toArray]; omega) zD fun h₅ hs₅ hD₅ => ?_
        refine ⟨vs.length + 1 - (i + 1), by omega, h₅, tk₄, i + 1, ys ++ [y], _, ex', rfl, hlti, rfl, by rw [List.length_append, List.length_singleton]; omega, ?_, ⟨oI, (hs₅.2 _ (Ne.symm (up1 I))).trans zI, hcI⟩, F₄.change hs₅ e2 hD0, (hoC.ns zC).sameBut hs₅ (up1 (I + 1)), fun p hp => ?_, off₄⟩
        · rw [List.take_add_one, hxa]; exact hO₄
        · rcases List.mem_cons.mp hp with rfl | hp
          · exact ⟨hD₅.trans (congrArg some (LCg.lst_snoc ys _)), e2, hD0⟩
          · exact ⟨hs₅.extBut _ _ (off4 p hp).2.2 (N₄ p (.tail _ (.tail _ (.tail _ hp)))).1, (N₄ p (.tail _ (.tail _ (.tail _ hp)))).2⟩
      · have hin : i = vs.length := by omega
        subst hin
        refine W.done _ _ _ (by simpa using ⟨hit, hlh⟩) fun h₂ tk₂ hk₂ => ?_
        refine ⟨_, hn'.at' fun o e => hk₂ _ o (fun hm => up2 I (List.mem_singleton.mp hm)) e, fun h₃ hs₃ => ?_⟩
        rw [List.take_of_length_le (by omega)] at hO'
        have F₂ := fr_but F' hk₂ (Nat.ne_of_lt hLlt) hI0
        have N₂ : News h₀ L h₂ ((I + 1, LCg.lst ys) :: (ex ++ news)) := news_but N' hk₂ fun p hp => by
          rcases List.mem_cons.mp hp with rfl | hp
          · exact up1 I
          · exact (off3 p hp).1
        refine fin ys ex (I + 1) h₃ _ hO' (F₂.change hs₃ e3 hC0) (fun p hp => ⟨hs₃.extBut _ _ ?_ (N₂ p hp).1, (N₂ p hp).2⟩) off'.one
        rcases List.mem_cons.mp hp with rfl | hp
        · exact Ne.symm (up1 (I + 1))
        · exact (off3 p hp).2.1
    · rcases List.mem_cons.mp hp with rfl | hp
      · exact ⟨gD1, e2, hD0⟩
      · exact ⟨old _ _ (N p hp).1, (N p hp).2⟩
  exact codeAny_compStart_list loop (W.self 0 _ _ _ ⟨⟨_, gI1, rfl, rfl⟩, News.isList (fun p hp => ⟨old _ _ (N p hp).1, (N p hp).2⟩ : News h₀ L h₁ news) hm⟩ loop)
end
end Mine2
namespace Mine2
noncomputable def colF (k : Int) : UInt64 × UInt64 × UInt64 := match k.toNat with
  | 0 => (4607182418800017408, 0, 0)
  | 1 => (4607182418800017408, 4607182418800017408, 0)
  | 2 => (0, 4607182418800017408, 0)
  | 3 => (0, 4607182418800017408, 4607182418800017408)
  | 4 => (0, 0, 4607182418800017408)
  | _ => (4607182418800017408, 0, 4607182418800017408)
noncomputable def hueK (k : Int) : UInt64 := Float64.ofFrac (decide (k < 0) != decide ((6 : Int) < 0)) k.natAbs (Int.natAbs 6)
theorem hue_tab : ∀ n : Fin 12, hsvOk (hueK ((n.val : Nat) : Int)) 4607182418800017408 = true ∧ hsvF (hueK ((n.val : Nat) : Int)) 4607182418800017408 4607182418800017408 = colF (((n.val : Nat) : Int).fmod 6) := by decide +kernel
theorem hue_col (k : Int) (h0 : 0 ≤ k) (h1 : k < 12) : hsvOk (hueK k) 4607182418800017408 = true ∧ hsvF (hueK k) 4607182418800017408 4607182418800017408 = colF (k.fmod 6) := by
  have h := hue_tab ⟨k.toNat, by omega⟩
  rwa [Int.toNat_of_nonneg h0] at h
/-- the paints, as they lie -/
noncomputable def Paints (p : List Int) (us : List Value) (ex : List (Addr × Obj)) : Prop :=
  us.length = p.length ∧ ∀ (i : Nat) (k : Int) (v : Value), p[i]? = some k → us[i]? = some v → ∃ T t1 t2 t3, v = .ref T ∧ (T, tup3 (colF k).1 t1 (colF k).2.1 t2 (colF k).2.2 t3) ∈ ex
theorem Paints.nil : Paints [] [] [] := ⟨rfl, fun i k v h => by simp at h⟩
theorem Paints.snoc {ps : List Int} {us : List Value} {ex : List (Addr × Obj)} {k : Int} {T : Addr} {t1 t2 t3 : Tok} (h : Paints ps us ex) : Paints (ps ++ [k]) (us ++ [.ref T]) ((T, tup3 (colF k).1 t1 (colF k).2.1 t2 (colF k).2.2 t3) :: ex) := by
  refine ⟨by rw [List.length_append, List.length_append, h.1]; rfl, fun i k' v h1 h2 => ?_⟩
  have hl := h.1
  rcases Nat.lt_or_ge i ps.length with hi | hi
  · rw [List.getElem?_append_left hi] at h1
    rw [List.getElem?_append_left (by omega)] at h2
    obtain ⟨T', a, b, c, e, hm⟩ := h.2 i k' v h1 h2
    exact ⟨T', a, b, c, e, .tail _ hm⟩
  · rw [List.getElem?_append_right hi] at h1
    rw [List.getElem?_append_right (by omega)] at h2
    rcases Nat.eq_zero_or_pos (i - ps.length) with e | e
    · rw [e] at h1
      rw [hl, e] at h2
      cases h1; cases h2
      exact ⟨T, t1, t2, t3, rfl, .head _⟩
    · rw [List.getElem?_eq_none (by simpa using Nat.succ_le_of_lt e)] at h1
      cases h1
noncomputable def colRv (k : Int) (v1 v2 v3 : Value) : Prop := ∃ t1 t2 t3, v1 = .float (colF k).1 t1 ∧ v2 = .float (colF k).2.1 t2 ∧ v3 = .float (colF k).2.2 t3 ∧ 0 ≤ k ∧ k < 6
theorem Paints.items {p : List Int} {us : List Value} {ex : List (Addr × Obj)} (h : Paints p us ex) (hp : ∀ k ∈ p, 0 ≤ k ∧ k < 6) (i : Nat) (k : Int) (v : Value) (h1 : p[i]? = some k) (h2 : us[i]? = some v) :
    ∃ (T : Addr) (v1 v2 v3 : Value), v = .ref T ∧ (T, ({ cls := .type "tuple", data := .seq #[v1, v2, v3] } : Obj)) ∈ ex ∧ colRv k v1 v2 v3 := by
  obtain ⟨T, a, b, c, e, hm⟩ := h.2 i k v h1 h2
  have hk := hp k (List.mem_of_getElem? h1)
  exact ⟨T, _, _, _, e, hm, a, b, c, rfl, rfl, rfl, hk.1, hk.2⟩
theorem neg_tab : ∀ n : Fin 6, Float64.sub 4607182418800017408 (colF ((n.val : Nat) : Int)).1 = (colF ((((n.val : Nat) : Int) + 3).fmod 6)).1 ∧ Float64.sub 4607182418800017408 (colF ((n.val : Nat) : Int)).2.1 = (colF ((((n.val : Nat) : Int) + 3).fmod 6)).2.1 ∧ Float64.sub 4607182418800017408 (colF ((n.val : Nat) : Int)).2.2 = (colF ((((n.val : Nat) : Int) + 3).fmod 6)).2.2 := by decide +kernel
theorem neg_col (k : Int) (h0 : 0 ≤ k) (h1 : k < 6) : Float64.sub 4607182418800017408 (colF k).1 = (colF ((k + 3).fmod 6)).1 ∧ Float64.sub 4607182418800017408 (colF k).2.1 = (colF ((k + 3).fmod 6)).2.1 ∧ Float64.sub 4607182418800017408 (colF k).2.2 = (colF ((k + 3).fmod 6)).2.2 := by
  have h := neg_tab ⟨k.toNat, by omega⟩
  rwa [Int.toNat_of_nonneg h0] at h
theorem hsv_tab : ∀ n : Fin 6, hsv2Ok (colF ((n.val : Nat) : Int)).1 (colF ((n.val : Nat) : Int)).2.1 (colF ((n.val : Nat) : Int)).2.2 = true ∧ Float64.isNaN (cornX (hueF (colF ((n.val : Nat) : Int)).1 (colF ((n.val : Nat) : Int)).2.1 (colF ((n.val : Nat) : Int)).2.2)) = false ∧ Float64.isInf (cornX (hueF (colF ((n.val : Nat) : Int)).1 (colF ((n.val : Nat) : Int)).2.1 (colF ((n.val : Nat) : Int)).2.2)) = false ∧ cornF (hueF (colF ((n.val : Nat) : Int)).1 (colF ((n.val : Nat) : Int)).2.1 (colF ((n.val : Nat) : Int)).2.2) = ((n.val : Nat) : Int) ∧ hlsOk (colF ((n.val : Nat) : Int)).1 (colF ((n.val : Nat) : Int)).2.1 (colF ((n.val : Nat) : Int)).2.2 = true := by decide +kernel
theorem hsv_col (k : Int) (h0 : 0 ≤ k) (h1 : k < 6) : hsv2Ok (colF k).1 (colF k).2.1 (colF k).2.2 = true ∧ Float64.isNaN (cornX (hueF (colF k).1 (colF k).2.1 (colF k).2.2)) = false ∧ Float64.isInf (cornX (hueF (colF k).1 (colF k).2.1 (colF k).2.2)) = false ∧ cornF (hueF (colF k).1 (colF k).2.1 (colF k).2.2) = k ∧ hlsOk (colF k).1 (colF k).2.1 (colF k).2.2 = true := by
  have h := hsv_tab ⟨k.toNat, by omega⟩
  rwa [Int.toNat_of_nonneg h0] at h
theorem six_all : ∀ k ∈ ([0, 1, 2, 3, 4, 5] : List Int), 0 ≤ k ∧ k < 6 := by decide
theorem six_in (k : Int) (h : k ∈ ([0, 1, 2, 3, 4, 5] : List Int)) : 0 ≤ k ∧ k < 6 := six_all k h
theorem nameD_K {M : Model} {A : Around} {E : Value → Shared → Prop} {s : Shared} {env : Env} {K : Frag} {h₀ : Heap} {L : Addr} {m mg mb : Str → Option Value} {p : Program} {loose : List Str} {mean : ExcName → Option Value} {x : Str} {pos : Pos} {v : Value} {Q : Value → Shared → Prop}
    (F : Fr h₀ L s.heap m) (X : K.In h₀) (T : Top p loose mean mg mb h₀) (e : nsIn K mainGlobals x = some (some v)) (hg : env.globals = mainGlobals)
    (hk : env.scope.kind = .function) (hx : env.kindOf x = some .globalImplicit) (hd : (x == ("__debug__" : Str)) = false) (h : Q v s) : wpAny M A (eval (.Name x pos) env) Q E s :=
  Name_function_global hk hx (loadGlobal_global (env := env) (by rw [hg]; exact T.g.keeps F.keep) (mg_of X T.g e) h) hd
theorem off1_mem {D : Addr} : ∀ {l : List (Addr × Obj)}, LCg.Off1 D l → ∀ p ∈ l, p.1 ≠ D
  | [], _, _, h => nomatch h
  | _ :: _, x, p, h => by
    rcases List.mem_cons.mp h with rfl | h
    · exact x.1
    · exact off1_mem x.2 p h
theorem IntsAre_take : ∀ {vs : List Value} {ns : List Int} (k : Nat), IntsAre vs ns → IntsAre (vs.take k) (ns.take k)
  | _, _, 0, _ => by simpa using IntsAre.nil
  | _, _, k + 1, .nil => by simpa using IntsAre.nil
  | _, _, k + 1, .cons n t h => by
    rw [List.take_succ_cons, List.take_succ_cons]
    exact .cons n t (IntsAre_take k h)
theorem pick_four (vs : List Value) : kms_pick vs none (some 4) = vs.take 4 := by
  unfold kms_pick kms_lo kms_hi
  simp
theorem made_news {h₀ h : Heap} {L D : Addr} {m : Str → Option Value} {news : List (Addr × Obj)} {ys : List Value} (F : Fr h₀ L h m) (N : News h₀ L h news) (hp : NewPlain h news D ys.toArray) (h0 : h₀.get? D = none) : ∃ n, News h₀ L h ((D, listOf ys.toArray n) :: news) ∧ ∀ p ∈ news, p.1 ≠ D := by
  have hL := hp.ne_locals F
  obtain ⟨⟨n, e⟩, hn⟩ := hp
  refine ⟨n, fun p hp => ?_, hn⟩
  rcases List.mem_cons.mp hp with rfl | hp
  · exact ⟨e, hL, h0⟩
  · exact N p hp
theorem ints_carried {vs : List Value} {ns : List Int} (h : CarriedAll vs (ns.map PyData.int)) : IntsAre vs ns := by
  have h1 := CarriedAll.intsOf (f := fun a : Int => a) h
  rwa [List.map_id'] at h1
noncomputable def OffC (L a : Nat) : Prop := a ≠ L + 1 ∧ a ≠ L + 1 + 1 ∧ a ≠ L + 1 + 1 + 1 ∧ a ≠ L + 1 + 1 + 1 + 1 ∧ a ≠ L + 1 + 1 + 1 + 1 + 1 ∧ a ≠ L + 1 + 1 + 1 + 1 + 1 + 1 ∧ a ≠ L + 1 + 1 + 1 + 1 + 1 + 1 + 1 ∧ a ≠ L + 1 + 1 + 1 + 1 + 1 + 1 + 1 + 1 ∧ a ≠ L + 1 + 1 + 1 + 1 + 1 + 1 + 1 + 1 + 1 ∧ a ≠ L + 1 + 1 + 1 + 1 + 1 + 1 + 1 + 1 + 1 + 1 ∧ a ≠ L + 1 + 1 + 1 + 1 + 1 + 1 + 1 + 1 + 1 + 1 + 1 ∧ a ≠ L + 1 + 1 + 1 + 1 + 1 + 1 + 1 + 1 + 1 + 1 + 1 + 1
noncomputable def IsPerm (p : List Int) : Prop := p.length = 6 ∧ (∀ k ∈ p, 0 ≤ k ∧ k < 6) ∧ p.Nodup
theorem isPerm_id : IsPerm [0, 1, 2, 3, 4, 5] := ⟨rfl, by decide, by decide⟩
theorem nodup_map {f : Int → Int} : ∀ {p : List Int}, (∀ k ∈ p, 0 ≤ k ∧ k < 6) → (∀ a b, 0 ≤ a ∧ a < 6 → 0 ≤ b ∧ b < 6 → f a = f b → a = b) → p.Nodup → (p.map f).Nodup
  | [], _, _, _ => List.nodup_nil
  | a :: p, hb, hi, hn => by
    obtain ⟨h1, h2⟩ := List.nodup_cons.mp hn
    refine List.nodup_cons.mpr ⟨fun hm => ?_, nodup_map (fun k hk => hb k (.tail _ hk)) hi h2⟩
    obtain ⟨b, hbm, e⟩ := List.mem_map.mp hm
    rw [hi b a (hb b (.tail _ hbm)) (hb a (.head _)) e] at hbm
    exact h1 hbm
theorem perm_map {p : List Int} {f : Int → Int} (hp : IsPerm p) (hf : ∀ k, 0 ≤ k ∧ k < 6 → 0 ≤ f k ∧ f k < 6) (hi : ∀ a b, 0 ≤ a ∧ a < 6 → 0 ≤ b ∧ b < 6 → f a = f b → a = b) : IsPerm (p.map f) := by
  refine ⟨by rw [List.length_map]; exact hp.1, fun k hk => ?_, nodup_map hp.2.1 hi hp.2.2⟩
  obtain ⟨b, hb, rfl⟩ := List.mem_map.mp hk
  exact hf b (hp.2.1 b hb)
theorem shift_inj {c a b : Int} (ha : 0 ≤ a ∧ a < 6) (hb : 0 ≤ b ∧ b < 6) (h : (a + c).fmod 6 = (b + c).fmod 6) : a = b := by
  rw [Int.fmod_eq_emod_of_nonneg _ (by decide), Int.fmod_eq_emod_of_nonneg _ (by decide)] at h
  omega
theorem shift_inj2 {c a b : Int} (ha : 0 ≤ a ∧ a < 6) (hb : 0 ≤ b ∧ b < 6) (h : (c - a).fmod 6 = (c - b).fmod 6) : a = b := by
  rw [Int.fmod_eq_emod_of_nonneg _ (by decide), Int.fmod_eq_emod_of_nonneg _ (by decide)] at h
  omega
theorem head_tup {h₀ h : Heap} {L T : Addr} {x y z : UInt64} {t1 t2 t3 : Tok} {r : List (Addr × Obj)} (N : News h₀ L h ((T, ({ cls := .type "tuple", data := .seq #[.float x t1, .float y t2, .float z t3] } : Obj)) :: r)) : ∃ ta tb tc, News h₀ L h ((T, tup3 x ta y tb z tc) :: r) := ⟨t1, t2, t3, N⟩
theorem Paints.pick {p o : List Int} {us : List Value} {ex : List (Addr × Obj)} (h : Paints p us ex) (hp : p.length = 6) (ho : ∀ k ∈ o, 0 ≤ k ∧ k < 6) : Paints (o.map fun k => p.getD k.toNat 0) (o.map fun k => us.getD k.toNat .none) ex := by
  refine ⟨by rw [List.length_map, List.length_map], fun i k v h1 h2 => ?_⟩
  rw [List.getElem?_map] at h1 h2
  cases e : o[i]? with
  | none => rw [e] at h1; cases h1
  | some z =>
    rw [e] at h1 h2
    have hz := ho z (List.mem_of_getElem? e)
    have hl := h.1
    have l1 : z.toNat < p.length := by omega
    have l2 : z.toNat < us.length := by omega
    refine h.2 z.toNat k v ?_ ?_
    · rw [← Option.some.inj h1]; show _ = some (p.getD z.toNat 0); rw [List.getD_eq_getElem?_getD, List.getElem?_eq_getElem l1]; rfl
    · rw [← Option.some.inj h2]; show _ = some (us.getD z.toNat .none); rw [List.getD_eq_getElem?_getD, List.getElem?_eq_getElem l2]; rfl
theorem perm_pick {o p : List Int} (ho : IsPerm o) (hp : IsPerm p) : IsPerm (o.map fun k => p.getD k.toNat 0) := by
  have hl := hp.1
  have g : ∀ k : Int, 0 ≤ k ∧ k < 6 → ∃ h : k.toNat < p.length, p.getD k.toNat 0 = p[k.toNat] := fun k hk => by
    have h : k.toNat < p.length := by omega
    exact ⟨h, by rw [List.getD_eq_getElem?_getD, List.getElem?_eq_getElem h]; rfl⟩
  refine perm_map ho (fun k hk => ?_) (fun a b ha hb e => ?_)
  · obtain ⟨h, e⟩ := g k hk
    show 0 ≤ p.getD k.toNat 0 ∧ _
    rw [e]
    exact hp.2.1 _ (List.getElem_mem h)
  · obtain ⟨h1, e1⟩ := g a ha
    obtain ⟨h2, e2⟩ := g b hb
    have e : p.getD a.toNat 0 = p.getD b.toNat 0 := e
    rw [e1, e2] at e
    have hpw := List.pairwise_iff_getElem.mp (show p.Pairwise (· ≠ ·) from hp.2.2)
    rcases Nat.lt_trichotomy a.toNat b.toNat with hlt | heq | hgt
    · exact absurd e (hpw _ _ h1 h2 hlt)
    · omega
    · exact absurd e.symm (hpw _ _ h2 h1 hgt)
noncomputable def swapF (a b k : Int) : Int := if k = a then b else if k = b then a else k
theorem swap_tab : ∀ a b : Fin 6, ((rangeKs 0 6).map (swapF (a.val : Int) (b.val : Int))).length = 6 ∧ (∀ k ∈ (rangeKs 0 6).map (swapF (a.val : Int) (b.val : Int)), 0 ≤ k ∧ k < 6) ∧ ((rangeKs 0 6).map (swapF (a.val : Int) (b.val : Int))).Nodup := by decide +kernel
theorem swap_perm {a b : Int} (ha : 0 ≤ a ∧ a < 6) (hb : 0 ≤ b ∧ b < 6) : IsPerm ((rangeKs 0 6).map (swapF a b)) := by
  obtain ⟨a, rfl⟩ := Int.eq_ofNat_of_zero_le ha.1
  obtain ⟨b, rfl⟩ := Int.eq_ofNat_of_zero_le hb.1
  exact swap_tab ⟨a, Int.ofNat_lt.mp ha.2⟩ ⟨b, Int.ofNat_lt.mp hb.2⟩
theorem getD_at {us : List Value} {i : Nat} (h : i < us.length) : us.toArray[i]? = some (us.getD i .none) := by
  rw [List.getElem?_toArray, List.getD_eq_getElem?_getD, List.getElem?_eq_getElem h]; rfl
noncomputable def mir (y a b c : Int) : Prop := (y = 0 ∧ a = 1 ∧ b = 0 ∧ c = 2) ∨ (y = 1 ∧ a = 2 ∧ b = 1 ∧ c = 0) ∨ (y = 2 ∧ a = 0 ∧ b = 2 ∧ c = 1)
noncomputable def mirC (y : Int) : Int := ([2, 4, 0] : List Int).getD y.toNat 0
noncomputable def selV (a : Int) (v1 v2 v3 : Value) : Value := if a = 0 then v1 else if a = 1 then v2 else v3
theorem mir_in {y a b c : Int} (h : mir y a b c) : (0 ≤ a ∧ a < 3) ∧ (0 ≤ b ∧ b < 3) ∧ (0 ≤ c ∧ c < 3) := by
  rcases h with ⟨_, rfl, rfl, rfl⟩ | ⟨_, rfl, rfl, rfl⟩ | ⟨_, rfl, rfl, rfl⟩ <;> decide
theorem pick3_tail {prog : Program} {w : World} {A : Around} {E : Value → Shared → Prop} {s : Shared} {value slice : PySem.Expr} {h₀ : Heap} {L LL T1 T2 T3 : Addr} {n : Nat} {t1 t2 t3 t4 t5 t6 t7 t8 t9 u : Tok} {y : Int} {r : List (Addr × Obj)} {Q : Value → Shared → Prop}
    (N : News h₀ L s.heap ((LL, listOf #[Value.ref T1, Value.ref T2, Value.ref T3] n) :: (T3, ({ cls := .type "tuple", data := .seq #[.int 0 t7, .int 2 t8, .int 1 t9] } : Obj)) :: (T2, ({ cls := .type "tuple", data := .seq #[.int 2 t4, .int 1 t5, .int 0 t6] } : Obj)) :: (T1, ({ cls := .type "tuple", data := .seq #[.int 1 t1, .int 0 t2, .int 2 t3] } : Obj)) :: r)) (hy : 0 ≤ y ∧ y < 3)
    (h : ∀ T a b c ta tb tc, News h₀ L s.heap ((T, ({ cls := .type "tuple", data := .seq #[.int a ta, .int b tb, .int c tc] } : Obj)) :: r) → mir y a b c → Q (.ref T) s)
    (hs : subscripted slice false (.ref LL) (.int y u) = operate [.ref LL, .int y u] (getItem (.ref LL) (.int y u)) := by with_unfolding_all rfl) : wpAny (model prog w) A (subscriptTail value slice (.ref LL) (.int y u)) Q E s := by
  have hl : s.heap.IsList LL [Value.ref T1, Value.ref T2, Value.ref T3].toArray := News.isList N (.head _)
  rcases (show y = 0 ∨ y = 1 ∨ y = 2 by omega) with rfl | rfl | rfl
  · exact Mine2.item_list hl (by decide) (by decide) (by rfl) hs (h T1 1 0 2 t1 t2 t3 (cb_drop N (fun p hp => by
      rcases List.mem_cons.mp hp with rfl | hp
      · exact .tail _ (.tail _ (.tail _ (.head _)))
      · exact .tail _ (.tail _ (.tail _ (.tail _ hp))))) (.inl ⟨rfl, rfl, rfl, rfl⟩))
  · exact Mine2.item_list hl (by decide) (by decide) (by rfl) hs (h T2 2 1 0 t4 t5 t6 (cb_drop N (fun p hp => by
      rcases List.mem_cons.mp hp with rfl | hp
      · exact .tail _ (.tail _ (.head _))
      · exact .tail _ (.tail _ (.tail _ (.tail _ hp))))) (.inr (.inl ⟨rfl, rfl, rfl, rfl⟩)))
  · exact Mine2.item_list hl (by decide) (by decide) (by rfl) hs (h T3 0 2 1 t7 t8 t9 (cb_drop N (fun p hp => by
      rcases List.mem_cons.mp hp with rfl | hp
      · exact .tail _ (.head _)
      · exact .tail _ (.tail _ (.tail _ (.tail _ hp))))) (.inr (.inr ⟨rfl, rfl, rfl, rfl⟩)))
theorem tup_item {prog : Program} {w : World} {A : Around} {E : Value → Shared → Prop} {s : Shared} {value slice : PySem.Expr} {T : Addr} {a : Int} {u : Tok} {v1 v2 v3 : Value} {Q : Value → Shared → Prop} (ht : IsTup s.heap T #[v1, v2, v3]) (ha : 0 ≤ a ∧ a < 3)
    (h : Q (selV a v1 v2 v3) s) (hs : subscripted slice false (.ref T) (.int a u) = operate [.ref T, .int a u] (getItem (.ref T) (.int a u)) := by with_unfolding_all rfl) : wpAny (model prog w) A (subscriptTail value slice (.ref T) (.int a u)) Q E s := by
  rcases (show a = 0 ∨ a = 1 ∨ a = 2 by omega) with rfl | rfl | rfl
  · exact tail_any ht.typeIs slot_tuple_getitem.lookup (getItem_tuple (j := 0) (x := v1) ht (by decide) (by decide) rfl rfl h) hs
  · exact tail_any ht.typeIs slot_tuple_getitem.lookup (getItem_tuple (j := 1) (x := v2) ht (by decide) (by decide) rfl rfl h) hs
  · exact tail_any ht.typeIs slot_tuple_getitem.lookup (getItem_tuple (j := 2) (x := v3) ht (by decide) (by decide) rfl rfl h) hs
theorem sel_tab : ∀ n : Fin 6, colF ((2 - (n.val : Int)).fmod 6) = ((colF (n.val : Int)).2.1, (colF (n.val : Int)).1, (colF (n.val : Int)).2.2) ∧ colF ((4 - (n.val : Int)).fmod 6) = ((colF (n.val : Int)).2.2, (colF (n.val : Int)).2.1, (colF (n.val : Int)).1) ∧ colF ((0 - (n.val : Int)).fmod 6) = ((colF (n.val : Int)).1, (colF (n.val : Int)).2.2, (colF (n.val : Int)).2.1) := by decide +kernel
theorem sel_col {k y a b c : Int} {t1 t2 t3 : Tok} (h0 : 0 ≤ k) (h1 : k < 6) (hm : mir y a b c) : ∃ ta tb tc, selV a (.float (colF k).1 t1) (.float (colF k).2.1 t2) (.float (colF k).2.2 t3) = .float (colF ((mirC y - k).fmod 6)).1 ta ∧ selV b (.float (colF k).1 t1) (.float (colF k).2.1 t2) (.float (colF k).2.2 t3) = .float (colF ((mirC y - k).fmod 6)).2.1 tb ∧ selV c (.float (colF k).1 t1) (.float (colF k).2.1 t2) (.float (colF k).2.2 t3) = .float (colF ((mirC y - k).fmod 6)).2.2 tc := by
  obtain ⟨n, rfl⟩ := Int.eq_ofNat_of_zero_le h0
  obtain ⟨e1, e2, e3⟩ := sel_tab ⟨n, Int.ofNat_lt.mp h1⟩
  rcases hm with ⟨rfl, rfl, rfl, rfl⟩ | ⟨rfl, rfl, rfl, rfl⟩ | ⟨rfl, rfl, rfl, rfl⟩
  · rw [show mirC 0 = 2 from rfl, e1]; exact ⟨_, _, _, rfl, rfl, rfl⟩
  · rw [show mirC 1 = 4 from rfl, e2]; exact ⟨_, _, _, rfl, rfl, rfl⟩
  · rw [show mirC 2 = 0 from rfl, e3]; exact ⟨_, _, _, rfl, rfl, rfl⟩
theorem xs_bound {l : List Int} (z : Int) (h : z ∈ [0] ++ List.map (fun k => k.fmod 720) l) : 0 ≤ z ∧ z < 720 := by
  rcases List.mem_append.mp h with h | h
  · rw [List.mem_singleton.mp h]; decide
  · obtain ⟨k, _, rfl⟩ := List.mem_map.mp h
    exact ⟨Int.fmod_nonneg_of_pos k (by decide), Int.fmod_lt_of_pos k (by decide)⟩
theorem ne_at {L : Nat} (i j : Nat) (h : i ≠ j) : L + i ≠ L + j := fun e => h (Nat.add_left_cancel e)
theorem gt_at {L n : Nat} (i : Nat) (hi : i ≤ 12) (h : L + 12 < n) : n ≠ L + i := Nat.ne_of_gt (Nat.lt_of_le_of_lt (Nat.add_le_add_left hi L) h)
theorem lt_at {L n : Nat} (i : Nat) (hi : i ≤ 12) (h : L + 12 < n) : L + i < n := Nat.lt_of_le_of_lt (Nat.add_le_add_left hi L) h
theorem offC_lt {L a : Nat} (h : L + 1 + 1 + 1 + 1 + 1 + 1 + 1 + 1 + 1 + 1 + 1 + 1 < a) : OffC L a :=
  ⟨gt_at 1 (by decide) h, gt_at 2 (by decide) h, gt_at 3 (by decide) h, gt_at 4 (by decide) h, gt_at 5 (by decide) h, gt_at 6 (by decide) h, gt_at 7 (by decide) h, gt_at 8 (by decide) h, gt_at 9 (by decide) h, gt_at 10 (by decide) h, gt_at 11 (by decide) h, gt_at 12 (by decide) h⟩
theorem offC_of {L D : Addr} {o1 o2 o3 o4 o5 o6 o7 o8 o9 o10 o11 o12 : Obj} (h : ∀ p ∈ [(L + 1 + 1 + 1 + 1 + 1 + 1 + 1 + 1 + 1 + 1 + 1 + 1, o12), (L + 1 + 1 + 1 + 1 + 1 + 1 + 1 + 1 + 1 + 1 + 1, o11), (L + 1 + 1 + 1 + 1 + 1 + 1 + 1 + 1 + 1 + 1, o10), (L + 1 + 1 + 1 + 1 + 1 + 1 + 1 + 1 + 1, o9), (L + 1 + 1 + 1 + 1 + 1 + 1 + 1 + 1, o8), (L + 1 + 1 + 1 + 1 + 1 + 1 + 1, o7), (L + 1 + 1 + 1 + 1 + 1 + 1, o6), (L + 1 + 1 + 1 + 1 + 1, o5), (L + 1 + 1 + 1 + 1, o4), (L + 1 + 1 + 1, o3), (L + 1 + 1, o2), (L + 1, o1)], p.1 ≠ D) : OffC L D :=
  ⟨Ne.symm (h (L + 1, o1) (.tail _ (.tail _ (.tail _ (.tail _ (.tail _ (.tail _ (.tail _ (.tail _ (.tail _ (.tail _ (.tail _ (.head _))))))))))))), Ne.symm (h (L + 1 + 1, o2) (.tail _ (.tail _ (.tail _ (.tail _ (.tail _ (.tail _ (.tail _ (.tail _ (.tail _ (.tail _ (.head _)))))))))))), Ne.symm (h (L + 1 + 1 + 1, o3) (.tail _ (.tail _ (.tail _ (.tail _ (.tail _ (.tail _ (.tail _ (.tail _ (.tail _ (.head _))))))))))), Ne.symm (h (L + 1 + 1 + 1 + 1, o4) (.tail _ (.tail _ (.tail _ (.tail _ (.tail _ (.tail _ (.tail _ (.tail _ (.head _)))))))))), Ne.symm (h (L + 1 + 1 + 1 + 1 + 1, o5) (.tail _ (.tail _ (.tail _ (.tail _ (.tail _ (.tail _ (.tail _ (.head _))))))))), Ne.symm (h (L + 1 + 1 + 1 + 1 + 1 + 1, o6) (.tail _ (.tail _ (.tail _ (.tail _ (.tail _ (.tail _ (.head _)))))))), Ne.symm (h (L + 1 + 1 + 1 + 1 + 1 + 1 + 1, o7) (.tail _ (.tail _ (.tail _ (.tail _ (.tail _ (.head _))))))), Ne.symm (h (L + 1 + 1 + 1 + 1 + 1 + 1 + 1 + 1, o8) (.tail _ (.tail _ (.tail _ (.tail _ (.head _)))))), Ne.symm (h (L + 1 + 1 + 1 + 1 + 1 + 1 + 1 + 1 + 1, o9) (.tail _ (.tail _ (.tail _ (.head _))))), Ne.symm (h (L + 1 + 1 + 1 + 1 + 1 + 1 + 1 + 1 + 1 + 1, o10) (.tail _ (.tail _ (.head _)))), Ne.symm (h (L + 1 + 1 + 1 + 1 + 1 + 1 + 1 + 1 + 1 + 1 + 1, o11) (.tail _ (.head _))), Ne.symm (h (L + 1 + 1 + 1 + 1 + 1 + 1 + 1 + 1 + 1 + 1 + 1 + 1, o12) (.head _))⟩
theorem cells_lt {L n : Nat} {o1 o2 o3 o4 o5 o6 o7 o8 o9 o10 o11 o12 : Obj} (h : L + 1 + 1 + 1 + 1 + 1 + 1 + 1 + 1 + 1 + 1 + 1 + 1 < n) : ∀ q ∈ ([(L + 1 + 1 + 1 + 1 + 1 + 1 + 1 + 1 + 1 + 1 + 1 + 1, o12), (L + 1 + 1 + 1 + 1 + 1 + 1 + 1 + 1 + 1 + 1 + 1, o11), (L + 1 + 1 + 1 + 1 + 1 + 1 + 1 + 1 + 1 + 1, o10), (L + 1 + 1 + 1 + 1 + 1 + 1 + 1 + 1 + 1, o9), (L + 1 + 1 + 1 + 1 + 1 + 1 + 1 + 1, o8), (L + 1 + 1 + 1 + 1 + 1 + 1 + 1, o7), (L + 1 + 1 + 1 + 1 + 1 + 1, o6), (L + 1 + 1 + 1 + 1 + 1, o5), (L + 1 + 1 + 1 + 1, o4), (L + 1 + 1 + 1, o3), (L + 1 + 1, o2), (L + 1, o1)] : List (Addr × Obj)), q.1 < n :=
  List.forall_mem_cons.mpr ⟨lt_at 12 (by decide) h, List.forall_mem_cons.mpr ⟨lt_at 11 (by decide) h, List.forall_mem_cons.mpr ⟨lt_at 10 (by decide) h, List.forall_mem_cons.mpr ⟨lt_at 9 (by decide) h, List.forall_mem_cons.mpr ⟨lt_at 8 (by decide) h, List.forall_mem_cons.mpr ⟨lt_at 7 (by decide) h, List.forall_mem_cons.mpr ⟨lt_at 6 (by decide) h, List.forall_mem_cons.mpr ⟨lt_at 5 (by decide) h, List.forall_mem_cons.mpr ⟨lt_at 4 (by decide) h, List.forall_mem_cons.mpr ⟨lt_at 3 (by decide) h, List.forall_mem_cons.mpr ⟨lt_at 2 (by decide) h, List.forall_mem_cons.mpr ⟨lt_at 1 (by decide) h, fun _ hq => nomatch hq⟩⟩⟩⟩⟩⟩⟩⟩⟩⟩⟩⟩
section
variable {M : Model} {A : Around} {E : Value → Shared → Prop} {s : Shared} {h₀ : Heap} {L a : Addr} {m : Str → Option Value} {cn : Str} {cs : Scope} {ccd : Value} {cl : List (Str × Addr)} {x : Str} {v : Value} {Q : Unit → Shared → Prop}
variable {o1 o2 o3 o4 o5 o6 o7 o8 o9 o10 o11 o12 : Obj} {rest : List (Addr × Obj)} {v₀ : Option Value}
theorem store_1 (F : Fr h₀ L s.heap m) (N : News h₀ L s.heap ((L + 1 + 1 + 1 + 1 + 1 + 1 + 1 + 1 + 1 + 1 + 1 + 1, o12) :: (L + 1 + 1 + 1 + 1 + 1 + 1 + 1 + 1 + 1 + 1 + 1, o11) :: (L + 1 + 1 + 1 + 1 + 1 + 1 + 1 + 1 + 1 + 1, o10) :: (L + 1 + 1 + 1 + 1 + 1 + 1 + 1 + 1 + 1, o9) :: (L + 1 + 1 + 1 + 1 + 1 + 1 + 1 + 1, o8) :: (L + 1 + 1 + 1 + 1 + 1 + 1 + 1, o7) :: (L + 1 + 1 + 1 + 1 + 1 + 1, o6) :: (L + 1 + 1 + 1 + 1 + 1, o5) :: (L + 1 + 1 + 1 + 1, o4) :: (L + 1 + 1 + 1, o3) :: (L + 1 + 1, o2) :: (L + 1, o1) :: rest)) (hr : ∀ p ∈ rest, OffC L p.1) (hc : cl.lookup x = some (L + 1)) (hd : o1.data = .cell v₀)
    (h : ∀ h' o', Fr h₀ L h' m → News h₀ L h' ((L + 1 + 1 + 1 + 1 + 1 + 1 + 1 + 1 + 1 + 1 + 1 + 1, o12) :: (L + 1 + 1 + 1 + 1 + 1 + 1 + 1 + 1 + 1 + 1 + 1, o11) :: (L + 1 + 1 + 1 + 1 + 1 + 1 + 1 + 1 + 1 + 1, o10) :: (L + 1 + 1 + 1 + 1 + 1 + 1 + 1 + 1 + 1, o9) :: (L + 1 + 1 + 1 + 1 + 1 + 1 + 1 + 1, o8) :: (L + 1 + 1 + 1 + 1 + 1 + 1 + 1, o7) :: (L + 1 + 1 + 1 + 1 + 1 + 1, o6) :: (L + 1 + 1 + 1 + 1 + 1, o5) :: (L + 1 + 1 + 1 + 1, o4) :: (L + 1 + 1 + 1, o3) :: (L + 1 + 1, o2) :: (L + 1, o') :: rest) → o'.data = .cell (some v) → Q () { s with heap := h' })
    (hk : cs.kind = .function := by rfl) (hx : (envX cn cs L a ccd cl).kindOf x = some .cell := by rfl) : wpAny M A (storeName (envX cn cs L a ccd cl) x v) Q E s := by
  exact storeX_C F N hc (UpdF.tail (ne_at 12 1 (by decide)) (UpdF.tail (ne_at 11 1 (by decide)) (UpdF.tail (ne_at 10 1 (by decide)) (UpdF.tail (ne_at 9 1 (by decide)) (UpdF.tail (ne_at 8 1 (by decide)) (UpdF.tail (ne_at 7 1 (by decide)) (UpdF.tail (ne_at 6 1 (by decide)) (UpdF.tail (ne_at 5 1 (by decide)) (UpdF.tail (ne_at 4 1 (by decide)) (UpdF.tail (ne_at 3 1 (by decide)) (UpdF.tail (ne_at 2 1 (by decide)) (UpdF.head (fun p hp => (hr p hp).1))))))))))))) hd h hk hx
theorem store_2 (F : Fr h₀ L s.heap m) (N : News h₀ L s.heap ((L + 1 + 1 + 1 + 1 + 1 + 1 + 1 + 1 + 1 + 1 + 1 + 1, o12) :: (L + 1 + 1 + 1 + 1 + 1 + 1 + 1 + 1 + 1 + 1 + 1, o11) :: (L + 1 + 1 + 1 + 1 + 1 + 1 + 1 + 1 + 1 + 1, o10) :: (L + 1 + 1 + 1 + 1 + 1 + 1 + 1 + 1 + 1, o9) :: (L + 1 + 1 + 1 + 1 + 1 + 1 + 1 + 1, o8) :: (L + 1 + 1 + 1 + 1 + 1 + 1 + 1, o7) :: (L + 1 + 1 + 1 + 1 + 1 + 1, o6) :: (L + 1 + 1 + 1 + 1 + 1, o5) :: (L + 1 + 1 + 1 + 1, o4) :: (L + 1 + 1 + 1, o3) :: (L + 1 + 1, o2) :: (L + 1, o1) :: rest)) (hr : ∀ p ∈ rest, OffC L p.1) (hc : cl.lookup x = some (L + 1 + 1)) (hd : o2.data = .cell v₀)
    (h : ∀ h' o', Fr h₀ L h' m → News h₀ L h' ((L + 1 + 1 + 1 + 1 + 1 + 1 + 1 + 1 + 1 + 1 + 1 + 1, o12) :: (L + 1 + 1 + 1 + 1 + 1 + 1 + 1 + 1 + 1 + 1 + 1, o11) :: (L + 1 + 1 + 1 + 1 + 1 + 1 + 1 + 1 + 1 + 1, o10) :: (L + 1 + 1 + 1 + 1 + 1 + 1 + 1 + 1 + 1, o9) :: (L + 1 + 1 + 1 + 1 + 1 + 1 + 1 + 1, o8) :: (L + 1 + 1 + 1 + 1 + 1 + 1 + 1, o7) :: (L + 1 + 1 + 1 + 1 + 1 + 1, o6) :: (L + 1 + 1 + 1 + 1 + 1, o5) :: (L + 1 + 1 + 1 + 1, o4) :: (L + 1 + 1 + 1, o3) :: (L + 1 + 1, o') :: (L + 1, o1) :: rest) → o'.data = .cell (some v) → Q () { s with heap := h' })
    (hk : cs.kind = .function := by rfl) (hx : (envX cn cs L a ccd cl).kindOf x = some .cell := by rfl) : wpAny M A (storeName (envX cn cs L a ccd cl) x v) Q E s := by
  exact storeX_C F N hc (UpdF.tail (ne_at 12 2 (by decide)) (UpdF.tail (ne_at 11 2 (by decide)) (UpdF.tail (ne_at 10 2 (by decide)) (UpdF.tail (ne_at 9 2 (by decide)) (UpdF.tail (ne_at 8 2 (by decide)) (UpdF.tail (ne_at 7 2 (by decide)) (UpdF.tail (ne_at 6 2 (by decide)) (UpdF.tail (ne_at 5 2 (by decide)) (UpdF.tail (ne_at 4 2 (by decide)) (UpdF.tail (ne_at 3 2 (by decide)) (UpdF.head (List.forall_mem_cons.mpr ⟨ne_at 1 2 (by decide), fun p hp => (hr p hp).2.1⟩)))))))))))) hd h hk hx
theorem store_3 (F : Fr h₀ L s.heap m) (N : News h₀ L s.heap ((L + 1 + 1 + 1 + 1 + 1 + 1 + 1 + 1 + 1 + 1 + 1 + 1, o12) :: (L + 1 + 1 + 1 + 1 + 1 + 1 + 1 + 1 + 1 + 1 + 1, o11) :: (L + 1 + 1 + 1 + 1 + 1 + 1 + 1 + 1 + 1 + 1, o10) :: (L + 1 + 1 + 1 + 1 + 1 + 1 + 1 + 1 + 1, o9) :: (L + 1 + 1 + 1 + 1 + 1 + 1 + 1 + 1, o8) :: (L + 1 + 1 + 1 + 1 + 1 + 1 + 1, o7) :: (L + 1 + 1 + 1 + 1 + 1 + 1, o6) :: (L + 1 + 1 + 1 + 1 + 1, o5) :: (L + 1 + 1 + 1 + 1, o4) :: (L + 1 + 1 + 1, o3) :: (L + 1 + 1, o2) :: (L + 1, o1) :: rest)) (hr : ∀ p ∈ rest, OffC L p.1) (hc : cl.lookup x = some (L + 1 + 1 + 1)) (hd : o3.data = .cell v₀)
    (h : ∀ h' o', Fr h₀ L h' m → News h₀ L h' ((L + 1 + 1 + 1 + 1 + 1 + 1 + 1 + 1 + 1 + 1 + 1 + 1, o12) :: (L + 1 + 1 + 1 + 1 + 1 + 1 + 1 + 1 + 1 + 1 + 1, o11) :: (L + 1 + 1 + 1 + 1 + 1 + 1 + 1 + 1 + 1 + 1, o10) :: (L + 1 + 1 + 1 + 1 + 1 + 1 + 1 + 1 + 1, o9) :: (L + 1 + 1 + 1 + 1 + 1 + 1 + 1 + 1, o8) :: (L + 1 + 1 + 1 + 1 + 1 + 1 + 1, o7) :: (L + 1 + 1 + 1 + 1 + 1 + 1, o6) :: (L + 1 + 1 + 1 + 1 + 1, o5) :: (L + 1 + 1 + 1 + 1, o4) :: (L + 1 + 1 + 1, o') :: (L + 1 + 1, o2) :: (L + 1, o1) :: rest) → o'.data = .cell (some v) → Q () { s with heap := h' })
    (hk : cs.kind = .function := by rfl) (hx : (envX cn cs L a ccd cl).kindOf x = some .cell := by rfl) : wpAny M A (storeName (envX cn cs L a ccd cl) x v) Q E s := by
  exact storeX_C F N hc (UpdF.tail (ne_at 12 3 (by decide)) (UpdF.tail (ne_at 11 3 (by decide)) (UpdF.tail (ne_at 10 3 (by decide)) (UpdF.tail (ne_at 9 3 (by decide)) (UpdF.tail (ne_at 8 3 (by decide)) (UpdF.tail (ne_at 7 3 (by decide)) (UpdF.tail (ne_at 6 3 (by decide)) (UpdF.tail (ne_at 5 3 (by decide)) (UpdF.tail (ne_at 4 3 (by decide)) (UpdF.head (List.forall_mem_cons.mpr ⟨ne_at 2 3 (by decide), List.forall_mem_cons.mpr ⟨ne_at 1 3 (by decide), fun p hp => (hr p hp).2.2.1⟩⟩))))))))))) hd h hk hx
theorem store_4 (F : Fr h₀ L s.heap m) (N : News h₀ L s.heap ((L + 1 + 1 + 1 + 1 + 1 + 1 + 1 + 1 + 1 + 1 + 1 + 1, o12) :: (L + 1 + 1 + 1 + 1 + 1 + 1 + 1 + 1 + 1 + 1 + 1, o11) :: (L + 1 + 1 + 1 + 1 + 1 + 1 + 1 + 1 + 1 + 1, o10) :: (L + 1 + 1 + 1 + 1 + 1 + 1 + 1 + 1 + 1, o9) :: (L + 1 + 1 + 1 + 1 + 1 + 1 + 1 + 1, o8) :: (L + 1 + 1 + 1 + 1 + 1 + 1 + 1, o7) :: (L + 1 + 1 + 1 + 1 + 1 + 1, o6) :: (L + 1 + 1 + 1 + 1 + 1, o5) :: (L + 1 + 1 + 1 + 1, o4) :: (L + 1 + 1 + 1, o3) :: (L + 1 + 1, o2) :: (L + 1, o1) :: rest)) (hr : ∀ p ∈ rest, OffC L p.1) (hc : cl.lookup x = some (L + 1 + 1 + 1 + 1)) (hd : o4.data = .cell v₀)
    (h : ∀ h' o', Fr h₀ L h' m → News h₀ L h' ((L + 1 + 1 + 1 + 1 + 1 + 1 + 1 + 1 + 1 + 1 + 1 + 1, o12) :: (L + 1 + 1 + 1 + 1 + 1 + 1 + 1 + 1 + 1 + 1 + 1, o11) :: (L + 1 + 1 + 1 + 1 + 1 + 1 + 1 + 1 + 1 + 1, o10) :: (L + 1 + 1 + 1 + 1 + 1 + 1 + 1 + 1 + 1, o9) :: (L + 1 + 1 + 1 + 1 + 1 + 1 + 1 + 1, o8) :: (L + 1 + 1 + 1 + 1 + 1 + 1 + 1, o7) :: (L + 1 + 1 + 1 + 1 + 1 + 1, o6) :: (L + 1 + 1 + 1 + 1 + 1, o5) :: (L + 1 + 1 + 1 + 1, o') :: (L + 1 + 1 + 1, o3) :: (L + 1 + 1, o2) :: (L + 1, o1) :: rest) → o'.data = .cell (some v) → Q () { s with heap := h' })
    (hk : cs.kind = .function := by rfl) (hx : (envX cn cs L a ccd cl).kindOf x = some .cell := by rfl) : wpAny M A (storeName (envX cn cs L a ccd cl) x v) Q E s := by
  exact storeX_C F N hc (UpdF.tail (ne_at 12 4 (by decide)) (UpdF.tail (ne_at 11 4 (by decide)) (UpdF.tail (ne_at 10 4 (by decide)) (UpdF.tail (ne_at 9 4 (by decide)) (UpdF.tail (ne_at 8 4 (by decide)) (UpdF.tail (ne_at 7 4 (by decide)) (UpdF.tail (ne_at 6 4 (by decide)) (UpdF.tail (ne_at 5 4 (by decide)) (UpdF.head (List.forall_mem_cons.mpr ⟨ne_at 3 4 (by decide), List.forall_mem_cons.mpr ⟨ne_at 2 4 (by decide), List.forall_mem_cons.mpr ⟨ne_at 1 4 (by decide), fun p hp => (hr p hp).2.2.2.1⟩⟩⟩)))))))))) hd h hk hx
theorem store_5 (F : Fr h₀ L s.heap m) (N : News h₀ L s.heap ((L + 1 + 1 + 1 + 1 + 1 + 1 + 1 + 1 + 1 + 1 + 1 + 1, o12) :: (L + 1 + 1 + 1 + 1 + 1 + 1 + 1 + 1 + 1 + 1 + 1, o11) :: (L + 1 + 1 + 1 + 1 + 1 + 1 + 1 + 1 + 1 + 1, o10) :: (L + 1 + 1 + 1 + 1 + 1 + 1 + 1 + 1 + 1, o9) :: (L + 1 + 1 + 1 + 1 + 1 + 1 + 1 + 1, o8) :: (L + 1 + 1 + 1 + 1 + 1 + 1 + 1, o7) :: (L + 1 + 1 + 1 + 1 + 1 + 1, o6) :: (L + 1 + 1 + 1 + 1 + 1, o5) :: (L + 1 + 1 + 1 + 1, o4) :: (L + 1 + 1 + 1, o3) :: (L + 1 + 1, o2) :: (L + 1, o1) :: rest)) (hr : ∀ p ∈ rest, OffC L p.1) (hc : cl.lookup x = some (L + 1 + 1 + 1 + 1 + 1)) (hd : o5.data = .cell v₀)
    (h : ∀ h' o', Fr h₀ L h' m → News h₀ L h' ((L + 1 + 1 + 1 + 1 + 1 + 1 + 1 + 1 + 1 + 1 + 1 + 1, o12) :: (L + 1 + 1 + 1 + 1 + 1 + 1 + 1 + 1 + 1 + 1 + 1, o11) :: (L + 1 + 1 + 1 + 1 + 1 + 1 + 1 + 1 + 1 + 1, o10) :: (L + 1 + 1 + 1 + 1 + 1 + 1 + 1 + 1 + 1, o9) :: (L + 1 + 1 + 1 + 1 + 1 + 1 + 1 + 1, o8) :: (L + 1 + 1 + 1 + 1 + 1 + 1 + 1, o7) :: (L + 1 + 1 + 1 + 1 + 1 + 1, o6) :: (L + 1 + 1 + 1 + 1 + 1, o') :: (L + 1 + 1 + 1 + 1, o4) :: (L + 1 + 1 + 1, o3) :: (L + 1 + 1, o2) :: (L + 1, o1) :: rest) → o'.data = .cell (some v) → Q () { s with heap := h' })
    (hk : cs.kind = .function := by rfl) (hx : (envX cn cs L a ccd cl).kindOf x = some .cell := by rfl) : wpAny M A (storeName (envX cn cs L a ccd cl) x v) Q E s := by
  exact storeX_C F N hc (UpdF.tail (ne_at 12 5 (by decide)) (UpdF.tail (ne_at 11 5 (by decide)) (UpdF.tail (ne_at 10 5 (by decide)) (UpdF.tail (ne_at 9 5 (by decide)) (UpdF.tail (ne_at 8 5 (by decide)) (UpdF.tail (ne_at 7 5 (by decide)) (UpdF.tail (ne_at 6 5 (by decide)) (UpdF.head (List.forall_mem_cons.mpr ⟨ne_at 4 5 (by decide), List.forall_mem_cons.mpr ⟨ne_at 3 5 (by decide), List.forall_mem_cons.mpr ⟨ne_at 2 5 (by decide), List.forall_mem_cons.mpr ⟨ne_at 1 5 (by decide), fun p hp => (hr p hp).2.2.2.2.1⟩⟩⟩⟩))))))))) hd h hk hx
theorem store_6 (F : Fr h₀ L s.heap m) (N : News h₀ L s.heap ((L + 1 + 1 + 1 + 1 + 1 + 1 + 1 + 1 + 1 + 1 + 1 + 1, o12) :: (L + 1 + 1 + 1 + 1 + 1 + 1 + 1 + 1 + 1 + 1 + 1, o11) :: (L + 1 + 1 + 1 + 1 + 1 + 1 + 1 + 1 + 1 + 1, o10) :: (L + 1 + 1 + 1 + 1 + 1 + 1 + 1 + 1 + 1, o9) :: (L + 1 + 1 + 1 + 1 + 1 + 1 + 1 + 1, o8) :: (L + 1 + 1 + 1 + 1 + 1 + 1 + 1, o7) :: (L + 1 + 1 + 1 + 1 + 1 + 1, o6) :: (L + 1 + 1 + 1 + 1 + 1, o5) :: (L + 1 + 1 + 1 + 1, o4) :: (L + 1 + 1 + 1, o3) :: (L + 1 + 1, o2) :: (L + 1, o1) :: rest)) (hr : ∀ p ∈ rest, OffC L p.1) (hc : cl.lookup x = some (L + 1 + 1 + 1 + 1 + 1 + 1)) (hd : o6.data = .cell v₀)
    (h : ∀ h' o', Fr h₀ L h' m → News h₀ L h' ((L + 1 + 1 + 1 + 1 + 1 + 1 + 1 + 1 + 1 + 1 + 1 + 1, o12) :: (L + 1 + 1 + 1 + 1 + 1 + 1 + 1 + 1 + 1 + 1 + 1, o11) :: (L + 1 + 1 + 1 + 1 + 1 + 1 + 1 + 1 + 1 + 1, o10) :: (L + 1 + 1 + 1 + 1 + 1 + 1 + 1 + 1 + 1, o9) :: (L + 1 + 1 + 1 + 1 + 1 + 1 + 1 + 1, o8) :: (L + 1 + 1 + 1 + 1 + 1 + 1 + 1, o7) :: (L + 1 + 1 + 1 + 1 + 1 + 1, o') :: (L + 1 + 1 + 1 + 1 + 1, o5) :: (L + 1 + 1 + 1 + 1, o4) :: (L + 1 + 1 + 1, o3) :: (L + 1 + 1, o2) :: (L + 1, o1) :: rest) → o'.data = .cell (some v) → Q () { s with heap := h' })
    (hk : cs.kind = .function := by rfl) (hx : (envX cn cs L a ccd cl).kindOf x = some .cell := by rfl) : wpAny M A (storeName (envX cn cs L a ccd cl) x v) Q E s := by
  exact storeX_C F N hc (UpdF.tail (ne_at 12 6 (by decide)) (UpdF.tail (ne_at 11 6 (by decide)) (UpdF.tail (ne_at 10 6 (by decide)) (UpdF.tail (ne_at 9 6 (by decide)) (UpdF.tail (ne_at 8 6 (by decide)) (UpdF.tail (ne_at 7 6 (by decide)) (UpdF.head (List.forall_mem_cons.mpr ⟨ne_at 5 6 (by decide), List.forall_mem_cons.mpr ⟨ne_at 4 6 (by decide), List.forall_mem_cons.mpr ⟨ne_at 3 6 (by decide), List.forall_mem_cons.mpr ⟨ne_at 2 6 (by decide), List.forall_mem_cons.mpr ⟨ne_at 1 6 (by decide), fun p hp => (hr p hp).2.2.2.2.2.1⟩⟩⟩⟩⟩)))))))) hd h hk hx
theorem store_7 (F : Fr h₀ L s.heap m) (N : News h₀ L s.heap ((L + 1 + 1 + 1 + 1 + 1 + 1 + 1 + 1 + 1 + 1 + 1 + 1, o12) :: (L + 1 + 1 + 1 + 1 + 1 + 1 + 1 + 1 + 1 + 1 + 1, o11) :: (L + 1 + 1 + 1 + 1 + 1 + 1 + 1 + 1 + 1 + 1, o10) :: (L + 1 + 1 + 1 + 1 + 1 + 1 + 1 + 1 + 1, o9) :: (L + 1 + 1 + 1 + 1 + 1 + 1 + 1 + 1, o8) :: (L + 1 + 1 + 1 + 1 + 1 + 1 + 1, o7) :: (L + 1 + 1 + 1 + 1 + 1 + 1, o6) :: (L + 1 + 1 + 1 + 1 + 1, o5) :: (L + 1 + 1 + 1 + 1, o4) :: (L + 1 + 1 + 1, o3) :: (L + 1 + 1, o2) :: (L + 1, o1) :: rest)) (hr : ∀ p ∈ rest, OffC L p.1) (hc : cl.lookup x = some (L + 1 + 1 + 1 + 1 + 1 + 1 + 1)) (hd : o7.data = .cell v₀)
    (h : ∀ h' o', Fr h₀ L h' m → News h₀ L h' ((L + 1 + 1 + 1 + 1 + 1 + 1 + 1 + 1 + 1 + 1 + 1 + 1, o12) :: (L + 1 + 1 + 1 + 1 + 1 + 1 + 1 + 1 + 1 + 1 + 1, o11) :: (L + 1 + 1 + 1 + 1 + 1 + 1 + 1 + 1 + 1 + 1, o10) :: (L + 1 + 1 + 1 + 1 + 1 + 1 + 1 + 1 + 1, o9) :: (L + 1 + 1 + 1 + 1 + 1 + 1 + 1 + 1, o8) :: (L + 1 + 1 + 1 + 1 + 1 + 1 + 1, o') :: (L + 1 + 1 + 1 + 1 + 1 + 1, o6) :: (L + 1 + 1 + 1 + 1 + 1, o5) :: (L + 1 + 1 + 1 + 1, o4) :: (L + 1 + 1 + 1, o3) :: (L + 1 + 1, o2) :: (L + 1, o1) :: rest) → o'.data = .cell (some v) → Q () { s with heap := h' })
    (hk : cs.kind = .function := by rfl) (hx : (envX cn cs L a ccd cl).kindOf x = some .cell := by rfl) : wpAny M A (storeName (envX cn cs L a ccd cl) x v) Q E s := by
  exact storeX_C F N hc (UpdF.tail (ne_at 12 7 (by decide)) (UpdF.tail (ne_at 11 7 (by decide)) (UpdF.tail (ne_at 10 7 (by decide)) (UpdF.tail (ne_at 9 7 (by decide)) (UpdF.tail (ne_at 8 7 (by decide)) (UpdF.head (List.forall_mem_cons.mpr ⟨ne_at 6 7 (by decide), List.forall_mem_cons.mpr ⟨ne_at 5 7 (by decide), List.forall_mem_cons.mpr ⟨ne_at 4 7 (by decide), List.forall_mem_cons.mpr ⟨ne_at 3 7 (by decide), List.forall_mem_cons.mpr ⟨ne_at 2 7 (by decide), List.forall_mem_cons.mpr ⟨ne_at 1 7 (by decide), fun p hp => (hr p hp).2.2.2.2.2.2.1⟩⟩⟩⟩⟩⟩))))))) hd h hk hx
theorem store_8 (F : Fr h₀ L s.heap m) (N : News h₀ L s.heap ((L + 1 + 1 + 1 + 1 + 1 + 1 + 1 + 1 + 1 + 1 + 1 + 1, o12) :: (L + 1 + 1 + 1 + 1 + 1 + 1 + 1 + 1 + 1 + 1 + 1, o11) :: (L + 1 + 1 + 1 + 1 + 1 + 1 + 1 + 1 + 1 + 1, o10) :: (L + 1 + 1 + 1 + 1 + 1 + 1 + 1 + 1 + 1, o9) :: (L + 1 + 1 + 1 + 1 + 1 + 1 + 1 + 1, o8) :: (L + 1 + 1 + 1 + 1 + 1 + 1 + 1, o7) :: (L + 1 + 1 + 1 + 1 + 1 + 1, o6) :: (L + 1 + 1 + 1 + 1 + 1, o5) :: (L + 1 + 1 + 1 + 1, o4) :: (L + 1 + 1 + 1, o3) :: (L + 1 + 1, o2) :: (L + 1, o1) :: rest)) (hr : ∀ p ∈ rest, OffC L p.1) (hc : cl.lookup x = some (L + 1 + 1 + 1 + 1 + 1 + 1 + 1 + 1)) (hd : o8.data = .cell v₀)
    (h : ∀ h' o', Fr h₀ L h' m → News h₀ L h' ((L + 1 + 1 + 1 + 1 + 1 + 1 + 1 + 1 + 1 + 1 + 1 + 1, o12) :: (L + 1 + 1 + 1 + 1 + 1 + 1 + 1 + 1 + 1 + 1 + 1, o11) :: (L + 1 + 1 + 1 + 1 + 1 + 1 + 1 + 1 + 1 + 1, o10) :: (L + 1 + 1 + 1 + 1 + 1 + 1 + 1 + 1 + 1, o9) :: (L + 1 + 1 + 1 + 1 + 1 + 1 + 1 + 1, o') :: (L + 1 + 1 + 1 + 1 + 1 + 1 + 1, o7) :: (L + 1 + 1 + 1 + 1 + 1 + 1, o6) :: (L + 1 + 1 + 1 + 1 + 1, o5) :: (L + 1 + 1 + 1 + 1, o4) :: (L + 1 + 1 + 1, o3) :: (L + 1 + 1, o2) :: (L + 1, o1) :: rest) → o'.data = .cell (some v) → Q () { s with heap := h' })
    (hk : cs.kind = .function := by rfl) (hx : (envX cn cs L a ccd cl).kindOf x = some .cell := by rfl) : wpAny M A (storeName (envX cn cs L a ccd cl) x v) Q E s := by
  exact storeX_C F N hc (UpdF.tail (ne_at 12 8 (by decide)) (UpdF.tail (ne_at 11 8 (by decide)) (UpdF.tail (ne_at 10 8 (by decide)) (UpdF.tail (ne_at 9 8 (by decide)) (UpdF.head (List.forall_mem_cons.mpr ⟨ne_at 7 8 (by decide), List.forall_mem_cons.mpr ⟨ne_at 6 8 (by decide), List.forall_mem_cons.mpr ⟨ne_at 5 8 (by decide), List.forall_mem_cons.mpr ⟨ne_at 4 8 (by decide), List.forall_mem_cons.mpr ⟨ne_at 3 8 (by decide), List.forall_mem_cons.mpr ⟨ne_at 2 8 (by decide), List.forall_mem_cons.mpr ⟨ne_at 1 8 (by decide), fun p hp => (hr p hp).2.2.2.2.2.2.2.1⟩⟩⟩⟩⟩⟩⟩)))))) hd h hk hx
theorem store_9 (F : Fr h₀ L s.heap m) (N : News h₀ L s.heap ((L + 1 + 1 + 1 + 1 + 1 + 1 + 1 + 1 + 1 + 1 + 1 + 1, o12) :: (L + 1 + 1 + 1 + 1 + 1 + 1 + 1 + 1 + 1 + 1 + 1, o11) :: (L + 1 + 1 + 1 + 1 + 1 + 1 + 1 + 1 + 1 + 1, o10) :: (L + 1 + 1 + 1 + 1 + 1 + 1 + 1 + 1 + 1, o9) :: (L + 1 + 1 + 1 + 1 + 1 + 1 + 1 + 1, o8) :: (L + 1 + 1 + 1 + 1 + 1 + 1 + 1, o7) :: (L + 1 + 1 + 1 + 1 + 1 + 1, o6) :: (L + 1 + 1 + 1 + 1 + 1, o5) :: (L + 1 + 1 + 1 + 1, o4) :: (L + 1 + 1 + 1, o3) :: (L + 1 + 1, o2) :: (L + 1, o1) :: rest)) (hr : ∀ p ∈ rest, OffC L p.1) (hc : cl.lookup x = some (L + 1 + 1 + 1 + 1 + 1 + 1 + 1 + 1 + 1)) (hd : o9.data = .cell v₀)
    (h : ∀ h' o', Fr h₀ L h' m → News h₀ L h' ((L + 1 + 1 + 1 + 1 + 1 + 1 + 1 + 1 + 1 + 1 + 1 + 1, o12) :: (L + 1 + 1 + 1 + 1 + 1 + 1 + 1 + 1 + 1 + 1 + 1, o11) :: (L + 1 + 1 + 1 + 1 + 1 + 1 + 1 + 1 + 1 + 1, o10) :: (L + 1 + 1 + 1 + 1 + 1 + 1 + 1 + 1 + 1, o') :: (L + 1 + 1 + 1 + 1 + 1 + 1 + 1 + 1, o8) :: (L + 1 + 1 + 1 + 1 + 1 + 1 + 1, o7) :: (L + 1 + 1 + 1 + 1 + 1 + 1, o6) :: (L + 1 + 1 + 1 + 1 + 1, o5) :: (L + 1 + 1 + 1 + 1, o4) :: (L + 1 + 1 + 1, o3) :: (L + 1 + 1, o2) :: (L + 1, o1) :: rest) → o'.data = .cell (some v) → Q () { s with heap := h' })
    (hk : cs.kind = .function := by rfl) (hx : (envX cn cs L a ccd cl).kindOf x = some .cell := by rfl) : wpAny M A (storeName (envX cn cs L a ccd cl) x v) Q E s := by
  exact storeX_C F N hc (UpdF.tail (ne_at 12 9 (by decide)) (UpdF.tail (ne_at 11 9 (by decide)) (UpdF.tail (ne_at 10 9 (by decide)) (UpdF.head (List.forall_mem_cons.mpr ⟨ne_at 8 9 (by decide), List.forall_mem_cons.mpr ⟨ne_at 7 9 (by decide), List.forall_mem_cons.mpr ⟨ne_at 6 9 (by decide), List.forall_mem_cons.mpr ⟨ne_at 5 9 (by decide), List.forall_mem_cons.mpr ⟨ne_at 4 9 (by decide), List.forall_mem_cons.mpr ⟨ne_at 3 9 (by decide), List.forall_mem_cons.mpr ⟨ne_at 2 9 (by decide), List.forall_mem_cons.mpr ⟨ne_at 1 9 (by decide), fun p hp => (hr p hp).2.2.2.2.2.2.2.2.1⟩⟩⟩⟩⟩⟩⟩⟩))))) hd h hk hx
theorem store_10 (F : Fr h₀ L s.heap m) (N : News h₀ L s.heap ((L + 1 + 1 + 1 + 1 + 1 + 1 + 1 + 1 + 1 + 1 + 1 + 1, o12) :: (L + 1 + 1 + 1 + 1 + 1 + 1 + 1 + 1 + 1 + 1 + 1, o11) :: (L + 1 + 1 + 1 + 1 + 1 + 1 + 1 + 1 + 1 + 1, o10) :: (L + 1 + 1 + 1 + 1 + 1 + 1 + 1 + 1 + 1, o9) :: (L + 1 + 1 + 1 + 1 + 1 + 1 + 1 + 1, o8) :: (L + 1 + 1 + 1 + 1 + 1 + 1 + 1, o7) :: (L + 1 + 1 + 1 + 1 + 1 + 1, o6) :: (L + 1 + 1 + 1 + 1 + 1, o5) :: (L + 1 + 1 + 1 + 1, o4) :: (L + 1 + 1 + 1, o3) :: (L + 1 + 1, o2) :: (L + 1, o1) :: rest)) (hr : ∀ p ∈ rest, OffC L p.1) (hc : cl.lookup x = some (L + 1 + 1 + 1 + 1 + 1 + 1 + 1 + 1 + 1 + 1)) (hd : o10.data = .cell v₀)
    (h : ∀ h' o', Fr h₀ L h' m → News h₀ L h' ((L + 1 + 1 + 1 + 1 + 1 + 1 + 1 + 1 + 1 + 1 + 1 + 1, o12) :: (L + 1 + 1 + 1 + 1 + 1 + 1 + 1 + 1 + 1 + 1 + 1, o11) :: (L + 1 + 1 + 1 + 1 + 1 + 1 + 1 + 1 + 1 + 1, o') :: (L + 1 + 1 + 1 + 1 + 1 + 1 + 1 + 1 + 1, o9) :: (L + 1 + 1 + 1 + 1 + 1 + 1 + 1 + 1, o8) :: (L + 1 + 1 + 1 + 1 + 1 + 1 + 1, o7) :: (L + 1 + 1 + 1 + 1 + 1 + 1, o6) :: (L + 1 + 1 + 1 + 1 + 1, o5) :: (L + 1 + 1 + 1 + 1, o4) :: (L + 1 + 1 + 1, o3) :: (L + 1 + 1, o2) :: (L + 1, o1) :: rest) → o'.data = .cell (some v) → Q () { s with heap := h' })
    (hk : cs.kind = .function := by rfl) (hx : (envX cn cs L a ccd cl).kindOf x = some .cell := by rfl) : wpAny M A (storeName (envX cn cs L a ccd cl) x v) Q E s := by
  exact storeX_C F N hc (UpdF.tail (ne_at 12 10 (by decide)) (UpdF.tail (ne_at 11 10 (by decide)) (UpdF.head (List.forall_mem_cons.mpr ⟨ne_at 9 10 (by decide), List.forall_mem_cons.mpr ⟨ne_at 8 10 (by decide), List.forall_mem_cons.mpr ⟨ne_at 7 10 (by decide), List.forall_mem_cons.mpr ⟨ne_at 6 10 (by decide), List.forall_mem_cons.mpr ⟨ne_at 5 10 (by decide), List.forall_mem_cons.mpr ⟨ne_at 4 10 (by decide), List.forall_mem_cons.mpr ⟨ne_at 3 10 (by decide), List.forall_mem_cons.mpr ⟨ne_at 2 10 (by decide), List.forall_mem_cons.mpr ⟨ne_at 1 10 (by decide), fun p hp => (hr p hp).2.2.2.2.2.2.2.2.2.1⟩⟩⟩⟩⟩⟩⟩⟩⟩)))) hd h hk hx
theorem store_11 (F : Fr h₀ L s.heap m) (N : News h₀ L s.heap ((L + 1 + 1 + 1 + 1 + 1 + 1 + 1 + 1 + 1 + 1 + 1 + 1, o12) :: (L + 1 + 1 + 1 + 1 + 1 + 1 + 1 + 1 + 1 + 1 + 1, o11) :: (L + 1 + 1 + 1 + 1 + 1 + 1 + 1 + 1 + 1 + 1, o10) :: (L + 1 + 1 + 1 + 1 + 1 + 1 + 1 + 1 + 1, o9) :: (L + 1 + 1 + 1 + 1 + 1 + 1 + 1 + 1, o8) :: (L + 1 + 1 + 1 + 1 + 1 + 1 + 1, o7) :: (L + 1 + 1 + 1 + 1 + 1 + 1, o6) :: (L + 1 + 1 + 1 + 1 + 1, o5) :: (L + 1 + 1 + 1 + 1, o4) :: (L + 1 + 1 + 1, o3) :: (L + 1 + 1, o2) :: (L + 1, o1) :: rest)) (hr : ∀ p ∈ rest, OffC L p.1) (hc : cl.lookup x = some (L + 1 + 1 + 1 + 1 + 1 + 1 + 1 + 1 + 1 + 1 + 1)) (hd : o11.data = .cell v₀)
    (h : ∀ h' o', Fr h₀ L h' m → News h₀ L h' ((L + 1 + 1 + 1 + 1 + 1 + 1 + 1 + 1 + 1 + 1 + 1 + 1, o12) :: (L + 1 + 1 + 1 + 1 + 1 + 1 + 1 + 1 + 1 + 1 + 1, o') :: (L + 1 + 1 + 1 + 1 + 1 + 1 + 1 + 1 + 1 + 1, o10) :: (L + 1 + 1 + 1 + 1 + 1 + 1 + 1 + 1 + 1, o9) :: (L + 1 + 1 + 1 + 1 + 1 + 1 + 1 + 1, o8) :: (L + 1 + 1 + 1 + 1 + 1 + 1 + 1, o7) :: (L + 1 + 1 + 1 + 1 + 1 + 1, o6) :: (L + 1 + 1 + 1 + 1 + 1, o5) :: (L + 1 + 1 + 1 + 1, o4) :: (L + 1 + 1 + 1, o3) :: (L + 1 + 1, o2) :: (L + 1, o1) :: rest) → o'.data = .cell (some v) → Q () { s with heap := h' })
    (hk : cs.kind = .function := by rfl) (hx : (envX cn cs L a ccd cl).kindOf x = some .cell := by rfl) : wpAny M A (storeName (envX cn cs L a ccd cl) x v) Q E s := by
  exact storeX_C F N hc (UpdF.tail (ne_at 12 11 (by decide)) (UpdF.head (List.forall_mem_cons.mpr ⟨ne_at 10 11 (by decide), List.forall_mem_cons.mpr ⟨ne_at 9 11 (by decide), List.forall_mem_cons.mpr ⟨ne_at 8 11 (by decide), List.forall_mem_cons.mpr ⟨ne_at 7 11 (by decide), List.forall_mem_cons.mpr ⟨ne_at 6 11 (by decide), List.forall_mem_cons.mpr ⟨ne_at 5 11 (by decide), List.forall_mem_cons.mpr ⟨ne_at 4 11 (by decide), List.forall_mem_cons.mpr ⟨ne_at 3 11 (by decide), List.forall_mem_cons.mpr ⟨ne_at 2 11 (by decide), List.forall_mem_cons.mpr ⟨ne_at 1 11 (by decide), fun p hp => (hr p hp).2.2.2.2.2.2.2.2.2.2.1⟩⟩⟩⟩⟩⟩⟩⟩⟩⟩))) hd h hk hx
theorem store_12 (F : Fr h₀ L s.heap m) (N : News h₀ L s.heap ((L + 1 + 1 + 1 + 1 + 1 + 1 + 1 + 1 + 1 + 1 + 1 + 1, o12) :: (L + 1 + 1 + 1 + 1 + 1 + 1 + 1 + 1 + 1 + 1 + 1, o11) :: (L + 1 + 1 + 1 + 1 + 1 + 1 + 1 + 1 + 1 + 1, o10) :: (L + 1 + 1 + 1 + 1 + 1 + 1 + 1 + 1 + 1, o9) :: (L + 1 + 1 + 1 + 1 + 1 + 1 + 1 + 1, o8) :: (L + 1 + 1 + 1 + 1 + 1 + 1 + 1, o7) :: (L + 1 + 1 + 1 + 1 + 1 + 1, o6) :: (L + 1 + 1 + 1 + 1 + 1, o5) :: (L + 1 + 1 + 1 + 1, o4) :: (L + 1 + 1 + 1, o3) :: (L + 1 + 1, o2) :: (L + 1, o1) :: rest)) (hr : ∀ p ∈ rest, OffC L p.1) (hc : cl.lookup x = some (L + 1 + 1 + 1 + 1 + 1 + 1 + 1 + 1 + 1 + 1 + 1 + 1)) (hd : o12.data = .cell v₀)
    (h : ∀ h' o', Fr h₀ L h' m → News h₀ L h' ((L + 1 + 1 + 1 + 1 + 1 + 1 + 1 + 1 + 1 + 1 + 1 + 1, o') :: (L + 1 + 1 + 1 + 1 + 1 + 1 + 1 + 1 + 1 + 1 + 1, o11) :: (L + 1 + 1 + 1 + 1 + 1 + 1 + 1 + 1 + 1 + 1, o10) :: (L + 1 + 1 + 1 + 1 + 1 + 1 + 1 + 1 + 1, o9) :: (L + 1 + 1 + 1 + 1 + 1 + 1 + 1 + 1, o8) :: (L + 1 + 1 + 1 + 1 + 1 + 1 + 1, o7) :: (L + 1 + 1 + 1 + 1 + 1 + 1, o6) :: (L + 1 + 1 + 1 + 1 + 1, o5) :: (L + 1 + 1 + 1 + 1, o4) :: (L + 1 + 1 + 1, o3) :: (L + 1 + 1, o2) :: (L + 1, o1) :: rest) → o'.data = .cell (some v) → Q () { s with heap := h' })
    (hk : cs.kind = .function := by rfl) (hx : (envX cn cs L a ccd cl).kindOf x = some .cell := by rfl) : wpAny M A (storeName (envX cn cs L a ccd cl) x v) Q E s := by
  exact storeX_C F N hc (UpdF.head (List.forall_mem_cons.mpr ⟨ne_at 11 12 (by decide), List.forall_mem_cons.mpr ⟨ne_at 10 12 (by decide), List.forall_mem_cons.mpr ⟨ne_at 9 12 (by decide), List.forall_mem_cons.mpr ⟨ne_at 8 12 (by decide), List.forall_mem_cons.mpr ⟨ne_at 7 12 (by decide), List.forall_mem_cons.mpr ⟨ne_at 6 12 (by decide), List.forall_mem_cons.mpr ⟨ne_at 5 12 (by decide), List.forall_mem_cons.mpr ⟨ne_at 4 12 (by decide), List.forall_mem_cons.mpr ⟨ne_at 3 12 (by decide), List.forall_mem_cons.mpr ⟨ne_at 2 12 (by decide), List.forall_mem_cons.mpr ⟨ne_at 1 12 (by decide), fun p hp => (hr p hp).2.2.2.2.2.2.2.2.2.2.2⟩⟩⟩⟩⟩⟩⟩⟩⟩⟩⟩)) hd h hk hx
end
theorem toNat6 {k : Int} {n m : Nat} (hk : 0 ≤ k ∧ k < 6) (e : n = m) (h : m = 6) : k.toNat < n := by
  rw [e, h]; exact (Int.toNat_lt hk.1).mpr hk.2
theorem hue_off {k y : Int} (h0 : 0 ≤ k) (h6 : k < 6) (y0 : 0 ≤ y) (y5 : y < 5) : 0 ≤ k + 1 + y ∧ k + 1 + y < 12 := by omega
theorem ints_at6 {prog : Program} {w : World} {A : Around} {E : Value → Shared → Prop} {s : Shared} {value slice : PySem.Expr} {l : Addr} {ys : List Value} {ns : List Int} {k : Int} {u : Tok} {Q : Value → Shared → Prop} (hl : s.heap.IsList l ys.toArray) (hy : IntsAre ys ns) (hn : ns.length = 6) (h0 : 0 ≤ k) (h6 : k < 6)
    (h : ∀ t, Q (.int (ns.getD k.toNat 0) t) s) (hs : subscripted slice false (.ref l) (.int k u) = operate [.ref l, .int k u] (getItem (.ref l) (.int k u)) := by with_unfolding_all rfl) : wpAny (model prog w) A (subscriptTail value slice (.ref l) (.int k u)) Q E s :=
  ints_item hl hy h0 (by rw [hn]; exact h6) (Int.lt_trans h6 (by decide)) h hs
/-- what the loop of the deeds keeps -/
inductive DeedJ (L : Nat) (oW oD oI oG : Obj) (DS : Addr) (ws : List Value) (I : Nat) (nw : List (Addr × Obj)) : Prop
  | mk (aP aQ aY ai aJ aM aO aT : Obj) (Dp Dq : Addr) (us qs : List Value) (ex : List (Addr × Obj)) (cp cq : Nat) (p : List Int) (e : nw = [(L + 1 + 1 + 1 + 1 + 1 + 1 + 1 + 1 + 1 + 1 + 1 + 1, oW), (L + 1 + 1 + 1 + 1 + 1 + 1 + 1 + 1 + 1 + 1 + 1, oD), (L + 1 + 1 + 1 + 1 + 1 + 1 + 1 + 1 + 1 + 1, oI), (L + 1 + 1 + 1 + 1 + 1 + 1 + 1 + 1 + 1, oG), (L + 1 + 1 + 1 + 1 + 1 + 1 + 1 + 1, aT), (L + 1 + 1 + 1 + 1 + 1 + 1 + 1, aO), (L + 1 + 1 + 1 + 1 + 1 + 1, aM), (L + 1 + 1 + 1 + 1 + 1, aJ), (L + 1 + 1 + 1 + 1, ai), (L + 1 + 1 + 1, aY), (L + 1 + 1, aQ), (L + 1, aP)] ++ ((DS, listOf ws.toArray 0) :: (Dq, listOf (List.toArray qs) cq) :: (Dp, listOf (List.toArray us) cp) :: ex))
    (hP : aP.data = Data.cell (some (Value.ref Dp))) (hQ : aQ.data = Data.cell (some (Value.ref Dq))) (hY : ∃ v, aY.data = Data.cell v) (hi : ∃ v, ai.data = Data.cell v) (hJ : ∃ v, aJ.data = Data.cell v) (hM : ∃ v, aM.data = Data.cell v) (hO : ∃ v, aO.data = Data.cell v) (hT : ∃ v, aT.data = Data.cell v)
    (pa : Paints p us ex) (qi : IntsAre qs p) (pp : IsPerm p) (off : ∀ q ∈ (Dq, listOf (List.toArray qs) cq) :: (Dp, listOf (List.toArray us) cp) :: ex, OffC L q.1 ∧ q.1 ≠ I)
end Mine2
namespace Mine2
theorem ints_same : ∀ {vs : List Value} {a b : List Int}, IntsAre vs a → IntsAre vs b → a = b
  | _, _, _, .nil, h => by cases h; rfl
  | _, _, _, .cons n t r, h => by
    cases h with
    | cons n' t' r' => rw [ints_same r r']
/-- where a row stands -/
noncomputable def rowIdx (key : List Int) : List (List Int) → Nat
  | [] => 0
  | r :: rs => if r = key then 0 else rowIdx key rs + 1
theorem rowIdx_at {key : List Int} : ∀ {rs : List (List Int)}, key ∈ rs → rs[rowIdx key rs]? = some key
  | [], h => nomatch h
  | r :: rs, h => by
    unfold rowIdx
    split
    · rename_i e; rw [e]; rfl
    · rename_i e
      rcases List.mem_cons.mp h with rfl | h
      · exact absurd rfl e
      · rw [List.getElem?_cons_succ]; exact rowIdx_at h
theorem rowIdx_no {key : List Int} : ∀ {rs : List (List Int)} {i : Nat}, i < rowIdx key rs → rs[i]? ≠ some key
  | [], i, _ => by simp
  | r :: rs, i, h => by
    unfold rowIdx at h
    split at h
    · omega
    · rename_i e
      cases i with
      | zero => intro q; exact e (Option.some.inj q)
      | succ i => rw [List.getElem?_cons_succ]; exact rowIdx_no (by omega)
section
variable {prog : Program} {w : World} {A : Around} {E : Value → Shared → Prop} {s : Shared} {h₀ : Heap} {L : Addr} {news : List (Addr × Obj)}
theorem row_same {us : List Value} {os : List (Addr × Obj)} {rs : List (List Int)} (N : News h₀ L s.heap news) (hr : RowsAre us os rs) (hos : ∀ q ∈ os, q ∈ news) {i j : Nat} {a b : List Int} {v : Value} (h1 : us[i]? = some v) (h2 : rs[i]? = some a) (h3 : us[j]? = some v) (h4 : rs[j]? = some b) : a = b := by
  obtain ⟨D, vs, n, rfl, hm, hi⟩ := RowsAre_get hr h2 h1
  obtain ⟨D', vs', n', e, hm', hi'⟩ := RowsAre_get hr h4 h3
  cases e
  have g1 := (N _ (hos _ hm)).1
  have g2 := (N _ (hos _ hm')).1
  rw [g1] at g2
  have e2 : vs = vs' := by
    have := Option.some.inj g2
    injection this with _ _ hd
    injection hd with hd
    simpa using hd
  subst e2
  exact ints_same hi hi'
/-- list.index of a list of ints among lists of ints -/
theorem rows_index {Dr Dx : Addr} {us ks : List Value} {os : List (Addr × Obj)} {rs : List (List Int)} {key : List Int} {n nk : Nat} {Q : Value → Shared → Prop} (N : News h₀ L s.heap news) (hl : (Dr, listOf us.toArray n) ∈ news) (hr : RowsAre us os rs) (hos : ∀ q ∈ os, q ∈ news)
    (hx : (Dx, listOf ks.toArray nk) ∈ news) (hk : IntsAre ks key) (hmem : key ∈ rs) (hsz : rs.length ≤ 100) (hu : A.in1.units + 64 < cLine)
    (h : Q (.int (rowIdx key rs : Nat) s.toks) { s with toks := s.toks + 1 }) : wpAny (model prog w) A (call (.builtin "list.index") [.ref Dr, .ref Dx]) Q E s := by
  classical
  have hlen := RowsAre_len hr
  have hat := rowIdx_at hmem
  have hj : rowIdx key rs < rs.length := by
    rcases Nat.lt_or_ge (rowIdx key rs) rs.length with h | h
    · exact h
    · rw [List.getElem?_eq_none h] at hat; cases hat
  refine call_meets PySem.F.slot_list_index ⟨_, (N _ hl).1, rfl⟩ PySem.F.entry_list_index (PySem.F.args_list_index_2 _ _)
    (SeqAt.list_indexAt Dr us.toArray n none #[] (.ref Dx) (fun y => decide (∃ i : Nat, us[i]? = some y ∧ rs[i]? = some key)) (rowIdx key rs) (by rw [List.size_toArray]; omega) (by omega) ?_ ?_) ⟨(N _ hl).1, fun y hy => ?_, h⟩
  · refine decide_eq_true ⟨rowIdx key rs, ?_, hat⟩
    rw [List.getElem?_eq_getElem (by omega)]; simp
  · intro i hi hlt
    refine decide_eq_false ?_
    rintro ⟨i', e1, e2⟩
    have hi2 : i < us.length := by simpa using hi
    have hi3 : i < rs.length := by omega
    have e3 : us[i]? = some (us.toArray[i]) := by rw [List.getElem?_eq_getElem hi2]; simp
    have e4 := row_same N hr hos e1 e2 e3 (List.getElem?_eq_getElem hi3)
    exact rowIdx_no hlt (by rw [List.getElem?_eq_getElem hi3, ← e4])
  · obtain ⟨i, hi, rfl⟩ := List.mem_iff_getElem.mp (show y ∈ us by simpa using hy)
    have hi3 : i < rs.length := by omega
    have e1 : us[i]? = some us[i] := List.getElem?_eq_getElem hi
    have e2 : rs[i]? = some rs[i] := List.getElem?_eq_getElem hi3
    obtain ⟨D, vs, n', ev, hm, hv⟩ := RowsAre_get hr e2 e1
    have hq := keq_ints (A := A) (News.isList N (hos _ hm)) hv (News.isList N hx) hk hu
    rw [ev]
    have e5 : decide (∃ i : Nat, us[i]? = some (Value.ref D) ∧ rs[i]? = some key) = decide (rs[i] = key) := by
      rw [decide_eq_decide]
      constructor
      · rintro ⟨i', q1, q2⟩
        exact (row_same N hr hos q1 q2 (ev ▸ e1) e2).symm
      · intro q
        exact ⟨i, ev ▸ e1, by rw [e2, q]⟩
    rw [e5]
    exact hq
end
/-- pairs of ints, as they lie -/
noncomputable def Pairs2 (l : List (Int × Int)) (us : List Value) (ex : List (Addr × Obj)) : Prop :=
  us.length = l.length ∧ ∀ (i : Nat) (k : Int × Int) (v : Value), l[i]? = some k → us[i]? = some v → ∃ T ta tb, v = .ref T ∧ (T, ({ cls := .type "tuple", data := .seq #[.int k.1 ta, .int k.2 tb] } : Obj)) ∈ ex
theorem Pairs2.nil : Pairs2 [] [] [] := ⟨rfl, fun i k v h => by simp at h⟩
theorem Pairs2.snoc {ps : List (Int × Int)} {us : List Value} {ex : List (Addr × Obj)} {k : Int × Int} {T : Addr} {ta tb : Tok} (h : Pairs2 ps us ex) : Pairs2 (ps ++ [k]) (us ++ [.ref T]) ((T, ({ cls := .type "tuple", data := .seq #[.int k.1 ta, .int k.2 tb] } : Obj)) :: ex) := by
  refine ⟨by rw [List.length_append, List.length_append, h.1]; rfl, fun i k' v h1 h2 => ?_⟩
  have hl := h.1
  rcases Nat.lt_or_ge i ps.length with hi | hi
  · rw [List.getElem?_append_left hi] at h1
    rw [List.getElem?_append_left (by omega)] at h2
    obtain ⟨T', a, b, e, hm⟩ := h.2 i k' v h1 h2
    exact ⟨T', a, b, e, .tail _ hm⟩
  · rw [List.getElem?_append_right hi] at h1
    rw [List.getElem?_append_right (by omega)] at h2
    rcases Nat.eq_zero_or_pos (i - ps.length) with e | e
    · rw [e] at h1
      rw [hl, e] at h2
      cases h1; cases h2
      exact ⟨T, ta, tb, rfl, .head _⟩
    · rw [List.getElem?_eq_none (by simpa using Nat.succ_le_of_lt e)] at h1
      cases h1
noncomputable def pairF (p : List Int) (x : Int) : Int × Int := (p.getD (x.fdiv 10).toNat 0, p.getD (x.fmod 10).toNat 0)
noncomputable def codeF (k : Int × Int) : Int := 10 * min k.1 k.2 + max k.1 k.2
noncomputable def imgF (p : List Int) (r : List Int) : Int := (rowIdx (isort (r.map fun x => codeF (pairF p x))) rowsTab : Nat)
theorem rows_digits : ∀ r ∈ rowsTab, ∀ x ∈ r, (0 ≤ x.fdiv 10 ∧ x.fdiv 10 < 6) ∧ (0 ≤ x.fmod 10 ∧ x.fmod 10 < 6) := by decide
theorem rows_three : ∀ r ∈ rowsTab, r.length = 3 := by decide
theorem min_tup2 {prog : Program} {w : World} {A : Around} {E : Value → Shared → Prop} {s : Shared} {h₀ : Heap} {L T : Addr} {m : Str → Option Value} {news : List (Addr × Obj)} {a b : Int} {t u : Tok} {Q : Value → Shared → Prop} (hh : A.handled = none) (F : Fr h₀ L s.heap m) (N : News h₀ L s.heap news)
    (ht : s.heap.IsTuple T #[Value.int a t, Value.int b u]) (h : ∀ h' tk z, Fr h₀ L h' m → News h₀ L h' news → Q (.int (min a b) z) { s with heap := h', toks := tk }) : wpAny (model prog w) A (call (.builtin "min") [.ref T]) Q E s := by
  have ht2 : s.heap.IsTuple T (intItems #[(a, t), (b, u)]) := by simpa [intItems] using ht
  have hlt : T < s.heap.objs.size := by obtain ⟨_, e, _⟩ := ht; exact Heap.lt_size e
  refine call_min_walk (wpAny_pyIter_tuple ht2 ?_)
  refine ⟨_, [_, T], [_], _, _, _, _, rfl, Walks.tuple (A := A.in1) hh _ T (Nat.ne_of_lt hlt) (intItems #[(a, t), (b, u)]),
    ⟨⟨_, Heap.get?_push_size _ rfl, rfl, rfl⟩, ht2.push _⟩, fun c hc => ?_, by simp [intItems], CmpOf.ints_lt (numAt #[(a, t), (b, u)]) (fun _ _ => intItems_at), fun v h' tk hP hk => ?_⟩
  · show c < (s.heap.push _).objs.size
    rw [Heap.size_push]
    rcases List.mem_cons.mp hc with rfl | hc
    · exact Nat.lt_succ_self _
    · rcases List.mem_cons.mp hc with rfl | hc
      · exact Nat.lt_succ_of_lt hlt
      · cases hc
  · have hold : ∀ c o, s.heap.get? c = some o → h'.get? c = some o := fun c o e => by
      refine hk c o (fun hm => ?_) (Heap.get?_push_of_some _ e)
      rcases List.mem_cons.mp hm with e1 | hm
      · have := Heap.lt_size e; rw [e1] at this; exact Nat.lt_irrefl _ this
      · cases hm
    have hP' : (intItems #[(a, t), (b, u)])[argBest (fun i j => decide (numAt #[(a, t), (b, u)] i < numAt #[(a, t), (b, u)] j)) 1]? = some v := by
      have hsz2 : (intItems #[(a, t), (b, u)]).size - 1 = 1 := by simp [intItems]
      rw [← hsz2]; exact hP
    by_cases hba : b < a
    · have e : argBest (fun i j => decide (numAt #[(a, t), (b, u)] i < numAt #[(a, t), (b, u)] j)) 1 = 1 := by simp [argBest, numAt, hba]
      rw [e] at hP'
      have hv : v = Value.int b u := by simpa [intItems] using hP'.symm
      rw [hv, show b = min a b by omega]
      exact h h' tk u (F.grownK hold) (N.grown hold)
    · have e : argBest (fun i j => decide (numAt #[(a, t), (b, u)] i < numAt #[(a, t), (b, u)] j)) 1 = 0 := by simp [argBest, numAt, hba]
      rw [e] at hP'
      have hv : v = Value.int a t := by simpa [intItems] using hP'.symm
      rw [hv, show a = min a b by omega]
      exact h h' tk t (F.grownK hold) (N.grown hold)
theorem max_tup2 {prog : Program} {w : World} {A : Around} {E : Value → Shared → Prop} {s : Shared} {h₀ : Heap} {L T : Addr} {m : Str → Option Value} {news : List (Addr × Obj)} {a b : Int} {t u : Tok} {Q : Value → Shared → Prop} (hh : A.handled = none) (F : Fr h₀ L s.heap m) (N : News h₀ L s.heap news)
    (ht : s.heap.IsTuple T #[Value.int a t, Value.int b u]) (h : ∀ h' tk z, Fr h₀ L h' m → News h₀ L h' news → Q (.int (max a b) z) { s with heap := h', toks := tk }) : wpAny (model prog w) A (call (.builtin "max") [.ref T]) Q E s := by
  have ht2 : s.heap.IsTuple T (intItems #[(a, t), (b, u)]) := by simpa [intItems] using ht
  have hlt : T < s.heap.objs.size := by obtain ⟨_, e, _⟩ := ht; exact Heap.lt_size e
  refine call_max_walk (wpAny_pyIter_tuple ht2 ?_)
  refine ⟨_, [_, T], [_], _, _, _, _, rfl, Walks.tuple (A := A.in1) hh _ T (Nat.ne_of_lt hlt) (intItems #[(a, t), (b, u)]),
    ⟨⟨_, Heap.get?_push_size _ rfl, rfl, rfl⟩, ht2.push _⟩, fun c hc => ?_, by simp [intItems], CmpOf.ints_gt (numAt #[(a, t), (b, u)]) (fun _ _ => intItems_at), fun v h' tk hP hk => ?_⟩
  · show c < (s.heap.push _).objs.size
    rw [Heap.size_push]
    rcases List.mem_cons.mp hc with rfl | hc
    · exact Nat.lt_succ_self _
    · rcases List.mem_cons.mp hc with rfl | hc
      · exact Nat.lt_succ_of_lt hlt
      · cases hc
  · have hold : ∀ c o, s.heap.get? c = some o → h'.get? c = some o := fun c o e => by
      refine hk c o (fun hm => ?_) (Heap.get?_push_of_some _ e)
      rcases List.mem_cons.mp hm with e1 | hm
      · have := Heap.lt_size e; rw [e1] at this; exact Nat.lt_irrefl _ this
      · cases hm
    have hP' : (intItems #[(a, t), (b, u)])[argBest (fun i j => decide (numAt #[(a, t), (b, u)] i > numAt #[(a, t), (b, u)] j)) 1]? = some v := by
      have hsz2 : (intItems #[(a, t), (b, u)]).size - 1 = 1 := by simp [intItems]
      rw [← hsz2]; exact hP
    by_cases hba : b > a
    · have e : argBest (fun i j => decide (numAt #[(a, t), (b, u)] i > numAt #[(a, t), (b, u)] j)) 1 = 1 := by simp [argBest, numAt, hba]
      rw [e] at hP'
      have hv : v = Value.int b u := by simpa [intItems] using hP'.symm
      rw [hv, show b = max a b by omega]
      exact h h' tk u (F.grownK hold) (N.grown hold)
    · have e : argBest (fun i j => decide (numAt #[(a, t), (b, u)] i > numAt #[(a, t), (b, u)] j)) 1 = 0 := by simp [argBest, numAt, hba]
      rw [e] at hP'
      have hv : v = Value.int a t := by simpa [intItems] using hP'.symm
      rw [hv, show a = max a b by omega]
      exact h h' tk t (F.grownK hold) (N.grown hold)
theorem offC_ne {L D : Addr} {o1 o2 o3 o4 o5 o6 o7 o8 o9 o10 o11 o12 : Obj} (h : OffC L D) : ∀ q ∈ ([(L + 1 + 1 + 1 + 1 + 1 + 1 + 1 + 1 + 1 + 1 + 1 + 1, o12), (L + 1 + 1 + 1 + 1 + 1 + 1 + 1 + 1 + 1 + 1 + 1, o11), (L + 1 + 1 + 1 + 1 + 1 + 1 + 1 + 1 + 1 + 1, o10), (L + 1 + 1 + 1 + 1 + 1 + 1 + 1 + 1 + 1, o9), (L + 1 + 1 + 1 + 1 + 1 + 1 + 1 + 1, o8), (L + 1 + 1 + 1 + 1 + 1 + 1 + 1, o7), (L + 1 + 1 + 1 + 1 + 1 + 1, o6), (L + 1 + 1 + 1 + 1 + 1, o5), (L + 1 + 1 + 1 + 1, o4), (L + 1 + 1 + 1, o3), (L + 1 + 1, o2), (L + 1, o1)] : List (Addr × Obj)), q.1 ≠ D := by
  obtain ⟨a1, a2, a3, a4, a5, a6, a7, a8, a9, a10, a11, a12⟩ := h
  intro q hq
  simp only [List.mem_cons, List.not_mem_nil, or_false] at hq
  rcases hq with rfl | rfl | rfl | rfl | rfl | rfl | rfl | rfl | rfl | rfl | rfl | rfl
  · exact Ne.symm a12
  · exact Ne.symm a11
  · exact Ne.symm a10
  · exact Ne.symm a9
  · exact Ne.symm a8
  · exact Ne.symm a7
  · exact Ne.symm a6
  · exact Ne.symm a5
  · exact Ne.symm a4
  · exact Ne.symm a3
  · exact Ne.symm a2
  · exact Ne.symm a1
theorem strs_snoc : ∀ {vs : List Value} {ss : List Str} {x : Str} {t : Tok}, StrsAre vs ss → StrsAre (vs ++ [.str x t]) (ss ++ [x])
  | _, _, _, _, .nil => .cons _ _ .nil
  | _, _, _, _, .cons _ _ r => .cons _ _ (strs_snoc r)
theorem totals_five : ∀ r ∈ totalsTab, r.length = 5 ∧ ∀ k ∈ r, 0 ≤ k ∧ k < 15 := by decide
/-- where a total goes -/
noncomputable def mvF (p r : List Int) : Int := ((totalsTab.map wordF).findIdx (fun w => w == wordF (r.map fun k => (rowsTab.map (imgF p)).getD k.toNat 0)) : Nat)
theorem wordF_len {ns : List Int} (h : ns.length = 5) : (wordF ns).length = 5 := by
  unfold wordF
  show (List.toArray _).size = 5
  rw [List.size_toArray, List.length_map, (isort_perm ns).length_eq, h]
end Mine2
namespace Mine2
/-- a list of numbers, worked out ahead of what is done with it -/
noncomputable def forceAll : List Nat → (List Nat → Bool) → Bool
  | [], k => k []
  | 0 :: l, k => forceAll l fun m => k (0 :: m)
  | (n + 1) :: l, k => forceAll l fun m => k ((n + 1) :: m)
theorem forceAll_eq : ∀ (l : List Nat) (k : List Nat → Bool), forceAll l k = k l
  | [], _ => rfl
  | 0 :: l, k => forceAll_eq l fun m => k (0 :: m)
  | (n + 1) :: l, k => forceAll_eq l fun m => k ((n + 1) :: m)
noncomputable def imgN (p r : List Int) : Nat := rowIdx (isort (r.map fun x => codeF (pairF p x))) rowsTab
noncomputable def wordsW : List Str := totalsTab.map wordF
noncomputable def wordIdx (p r : List Int) : Nat := wordsW.findIdx (fun w => w == wordF (r.map fun k => (rowsTab.map (imgF p)).getD k.toNat 0))
noncomputable def wordsL : List Str := [⟨#[66, 70, 74, 76, 78]⟩, ⟨#[66, 71, 73, 75, 79]⟩, ⟨#[67, 69, 73, 77, 78]⟩, ⟨#[67, 71, 72, 76, 80]⟩, ⟨#[68, 69, 74, 75, 80]⟩, ⟨#[68, 70, 72, 77, 79]⟩]
theorem wordsL_eq : wordsL = wordsW := by decide +kernel
noncomputable def wordAt (im : List Nat) (r : List Int) : Nat := wordsL.findIdx (fun w => w == wordF (r.map fun k => ((im.getD k.toNat 0 : Nat) : Int)))
/-- each total comes to a total, and the totals go in the partner's rings -/
noncomputable def goodM (p : List Int) : Bool := (totalsTab.all fun r => decide (wordIdx p r < 6)) && decide (ringsF (totalsTab.map fun r => (wordIdx p r : Int)) = partnerF (ringsF p))
/-- the same, and a permutation sends a pairing off to a pairing off; nothing is worked out twice -/
noncomputable def goodA (p : List Int) : Bool := forceAll (rowsTab.map (imgN p)) fun im => (im.all fun x => Nat.blt x 15) && forceAll (totalsTab.map (wordAt im)) fun ix => (ix.all fun x => Nat.blt x 6) && decide (ringsF (ix.map fun (x : Nat) => (x : Int)) = partnerF (ringsF p))
noncomputable def six : List Int := [0, 1, 2, 3, 4, 5]
noncomputable def sliceOk (good : List Int → Bool) (a b : Int) : Bool := six.all fun c => (c == a || c == b) || six.all fun d => (d == a || d == b || d == c) || six.all fun e => (e == a || e == b || e == c || e == d) || six.all fun f => (f == a || f == b || f == c || f == d || f == e) || good [a, b, c, d, e, f]
theorem sA01 : sliceOk goodA 0 1 = true := by decide +kernel
theorem sA02 : sliceOk goodA 0 2 = true := by decide +kernel
theorem sA03 : sliceOk goodA 0 3 = true := by decide +kernel
theorem sA04 : sliceOk goodA 0 4 = true := by decide +kernel
theorem sA05 : sliceOk goodA 0 5 = true := by decide +kernel
theorem sA10 : sliceOk goodA 1 0 = true := by decide +kernel
theorem sA12 : sliceOk goodA 1 2 = true := by decide +kernel
theorem sA13 : sliceOk goodA 1 3 = true := by decide +kernel
theorem sA14 : sliceOk goodA 1 4 = true := by decide +kernel
theorem sA15 : sliceOk goodA 1 5 = true := by decide +kernel
theorem sA20 : sliceOk goodA 2 0 = true := by decide +kernel
theorem sA21 : sliceOk goodA 2 1 = true := by decide +kernel
theorem sA23 : sliceOk goodA 2 3 = true := by decide +kernel
theorem sA24 : sliceOk goodA 2 4 = true := by decide +kernel
theorem sA25 : sliceOk goodA 2 5 = true := by decide +kernel
theorem sA30 : sliceOk goodA 3 0 = true := by decide +kernel
theorem sA31 : sliceOk goodA 3 1 = true := by decide +kernel
theorem sA32 : sliceOk goodA 3 2 = true := by decide +kernel
theorem sA34 : sliceOk goodA 3 4 = true := by decide +kernel
theorem sA35 : sliceOk goodA 3 5 = true := by decide +kernel
theorem sA40 : sliceOk goodA 4 0 = true := by decide +kernel
theorem sA41 : sliceOk goodA 4 1 = true := by decide +kernel
theorem sA42 : sliceOk goodA 4 2 = true := by decide +kernel
theorem sA43 : sliceOk goodA 4 3 = true := by decide +kernel
theorem sA45 : sliceOk goodA 4 5 = true := by decide +kernel
theorem sA50 : sliceOk goodA 5 0 = true := by decide +kernel
theorem sA51 : sliceOk goodA 5 1 = true := by decide +kernel
theorem sA52 : sliceOk goodA 5 2 = true := by decide +kernel
theorem sA53 : sliceOk goodA 5 3 = true := by decide +kernel
theorem sA54 : sliceOk goodA 5 4 = true := by decide +kernel
theorem or_out {p q : Bool} (h : (p || q) = true) (hp : p = false) : q = true := by
  rw [hp, Bool.false_or] at h
  exact h
theorem slice_get {good : List Int → Bool} {a b c d e f : Int} (h : sliceOk good a b = true) (hc : c ∈ six) (hd : d ∈ six) (he : e ∈ six) (hf : f ∈ six) (hn : [a, b, c, d, e, f].Nodup) : good [a, b, c, d, e, f] = true := by
  simp only [List.nodup_cons, List.mem_cons, List.not_mem_nil, or_false, not_or] at hn
  obtain ⟨⟨_, ac, ad, ae, af⟩, ⟨bc, bd, be, bf⟩, ⟨cd, ce, cf⟩, ⟨de, df⟩, ef, _⟩ := hn
  have ne : ∀ {x y : Int}, x ≠ y → (y == x) = false := fun h => beq_false_of_ne (Ne.symm h)
  have h1 := or_out (List.all_eq_true.mp h c hc) (by rw [ne ac, ne bc]; rfl)
  have h2 := or_out (List.all_eq_true.mp h1 d hd) (by rw [ne ad, ne bd, ne cd]; rfl)
  have h3 := or_out (List.all_eq_true.mp h2 e he) (by rw [ne ae, ne be, ne ce, ne de]; rfl)
  exact or_out (List.all_eq_true.mp h3 f hf) (by rw [ne af, ne bf, ne cf, ne df, ne ef]; rfl)
theorem six_tab : ∀ n : Fin 6, (n.val : Int) ∈ six := by decide
theorem in_six {k : Int} (h : 0 ≤ k ∧ k < 6) : k ∈ six := by
  obtain ⟨n, rfl⟩ := Int.eq_ofNat_of_zero_le h.1
  exact six_tab ⟨n, Int.ofNat_lt.mp h.2⟩
theorem all_good {good : List Int → Bool} (hs : ∀ a ∈ six, ∀ b ∈ six, a ≠ b → sliceOk good a b = true) {p : List Int} (hp : IsPerm p) : good p = true := by
  obtain ⟨hl, hb, hn⟩ := hp
  rcases p with _ | ⟨a, _ | ⟨b, _ | ⟨c, _ | ⟨d, _ | ⟨e, _ | ⟨f, _ | ⟨g, r⟩⟩⟩⟩⟩⟩⟩ <;> try (simp at hl; done)
  refine slice_get (hs a (in_six (hb a (by simp))) b (in_six (hb b (by simp))) (fun q => ?_)) (in_six (hb c (by simp))) (in_six (hb d (by simp))) (in_six (hb e (by simp))) (in_six (hb f (by simp))) hn
  exact (List.nodup_cons.mp hn).1 (by rw [q]; exact .head _)
theorem allA : ∀ a ∈ six, ∀ b ∈ six, a ≠ b → sliceOk goodA a b = true := by
  intro a ha b hb hab
  simp only [six, List.mem_cons, List.not_mem_nil, or_false] at ha hb
  rcases ha with rfl | rfl | rfl | rfl | rfl | rfl <;> rcases hb with rfl | rfl | rfl | rfl | rfl | rfl
  · exact absurd rfl hab
  · exact sA01
  · exact sA02
  · exact sA03
  · exact sA04
  · exact sA05
  · exact sA10
  · exact absurd rfl hab
  · exact sA12
  · exact sA13
  · exact sA14
  · exact sA15
  · exact sA20
  · exact sA21
  · exact absurd rfl hab
  · exact sA23
  · exact sA24
  · exact sA25
  · exact sA30
  · exact sA31
  · exact sA32
  · exact absurd rfl hab
  · exact sA34
  · exact sA35
  · exact sA40
  · exact sA41
  · exact sA42
  · exact sA43
  · exact absurd rfl hab
  · exact sA45
  · exact sA50
  · exact sA51
  · exact sA52
  · exact sA53
  · exact sA54
  · exact absurd rfl hab
theorem getD_cast (l : List Nat) (i : Nat) : (l.map fun (x : Nat) => (x : Int)).getD i 0 = ((l.getD i 0 : Nat) : Int) := by
  rw [List.getD_eq_getElem?_getD, List.getD_eq_getElem?_getD, List.getElem?_map]
  cases l[i]? <;> rfl
theorem wordAt_eq (p r : List Int) : wordAt (rowsTab.map (imgN p)) r = wordIdx p r := by
  unfold wordAt wordIdx
  rw [wordsL_eq]
  have e : (fun k : Int => (((rowsTab.map (imgN p)).getD k.toNat 0 : Nat) : Int)) = fun k => (rowsTab.map (imgF p)).getD k.toNat 0 := by
    funext k
    rw [← getD_cast, List.map_map]
    rfl
  rw [e]
theorem rowIdx_in {key : List Int} : ∀ {rs : List (List Int)}, rowIdx key rs < rs.length → key ∈ rs
  | [], h => absurd h (Nat.not_lt_zero _)
  | r :: rs, h => by
    unfold rowIdx at h
    split at h
    · rename_i e; rw [e]; exact .head _
    · exact .tail _ (rowIdx_in (Nat.lt_of_succ_lt_succ h))
theorem good_A {p : List Int} (hp : IsPerm p) : ((rowsTab.map (imgN p)).all fun x => Nat.blt x 15) = true ∧ goodM p = true := by
  have h := all_good allA hp
  unfold goodA at h
  rw [forceAll_eq] at h
  obtain ⟨h1, h2⟩ := Bool.and_eq_true_iff.mp h
  rw [forceAll_eq, funext (wordAt_eq p)] at h2
  obtain ⟨h3, h4⟩ := Bool.and_eq_true_iff.mp h2
  refine ⟨h1, Bool.and_eq_true_iff.mpr ⟨List.all_eq_true.mpr fun r hr => decide_eq_true ?_, ?_⟩⟩
  · have := List.all_eq_true.mp h3 _ (List.mem_map_of_mem hr)
    exact Nat.blt_eq.mp this
  · rw [List.map_map] at h4
    exact h4
theorem images_in {p : List Int} (hp : IsPerm p) : ∀ r ∈ rowsTab, isort (r.map fun x => codeF (pairF p x)) ∈ rowsTab := fun r hr => by
  have h := List.all_eq_true.mp (good_A hp).1 _ (List.mem_map_of_mem hr)
  exact rowIdx_in (Nat.blt_eq.mp h)
theorem good_M {p : List Int} (hp : IsPerm p) : goodM p = true := (good_A hp).2
end Mine2
namespace Mine2
theorem img_bnd {p : List Int} (hp : IsPerm p) {r : List Int} (hr : r ∈ rowsTab) : 0 ≤ imgF p r ∧ imgF p r < 15 := by
  have h := rowIdx_at (images_in hp r hr)
  refine ⟨Int.natCast_nonneg _, ?_⟩
  unfold imgF
  rcases Nat.lt_or_ge (rowIdx (isort (r.map fun x => codeF (pairF p x))) rowsTab) 15 with h2 | h2
  · exact Int.ofNat_lt.mpr h2
  · rw [List.getElem?_eq_none (show rowsTab.length ≤ _ from h2)] at h; cases h
theorem imgs_ok {p : List Int} (hp : IsPerm p) {r : List Int} (hr : r ∈ totalsTab) : (r.map fun k => (rowsTab.map (imgF p)).getD k.toNat 0).length = 5 ∧ ∀ z ∈ (r.map fun k => (rowsTab.map (imgF p)).getD k.toNat 0), 0 ≤ z ∧ z < 15 := by
  refine ⟨by rw [List.length_map]; exact (totals_five r hr).1, fun z hz => ?_⟩
  obtain ⟨k, hk, rfl⟩ := List.mem_map.mp hz
  have hb := (totals_five r hr).2 k hk
  have hl : k.toNat < (rowsTab.map (imgF p)).length := by rw [List.length_map]; show k.toNat < 15; omega
  have hm := getD_mem hl
  obtain ⟨r', hr', e⟩ := List.mem_map.mp hm
  rw [← e]
  exact img_bnd hp hr'
theorem wordIdx_lt {p : List Int} (hp : IsPerm p) {r : List Int} (hr : r ∈ totalsTab) : wordIdx p r < 6 :=
  of_decide_eq_true (List.all_eq_true.mp (Bool.and_eq_true_iff.mp (good_M hp)).1 r hr)
theorem rings_good {p : List Int} (hp : IsPerm p) : ringsF (totalsTab.map (mvF p)) = partnerF (ringsF p) :=
  of_decide_eq_true (Bool.and_eq_true_iff.mp (good_M hp)).2
theorem wordIdx_at {p : List Int} (hp : IsPerm p) {r : List Int} (hr : r ∈ totalsTab) : wordsW[wordIdx p r]? = some (wordF (r.map fun k => (rowsTab.map (imgF p)).getD k.toNat 0)) := by
  have h := wordIdx_lt hp hr
  have hl : wordIdx p r < wordsW.length := h
  have e := List.findIdx_getElem (p := fun w => w == wordF (r.map fun k => (rowsTab.map (imgF p)).getD k.toNat 0)) (xs := wordsW) (w := hl)
  rw [List.getElem?_eq_getElem hl]
  exact congrArg some (eq_of_beq e)
/-- the text sought for a word -/
noncomputable def wantOf (wd : Str) : Str := Str.ofString "..." ++ Txt.item wd 1 ++ Str.ofString "..." ++ Txt.item wd 3 ++ Str.ofString "..."
theorem want_ok : ∀ wd ∈ wordsW, (Builtin.Str.occurrences (wantOf wd) (Str.ofString "...") 0 (wantOf wd).length 1).isEmpty = false ∧ Txt.split (wantOf wd) (Str.ofString "...") = [⟨#[]⟩, Txt.item wd 1, Txt.item wd 3, ⟨#[]⟩] ∧ (wantOf wd).length ≤ 100 ∧ (Txt.item wd 1).length ≤ 100 ∧ (Txt.item wd 3).length ≤ 100 ∧ wd.length ≤ 100 := by decide +kernel
noncomputable def takeG (wd : Str) (l : List Int) (k : Int) : List Int := if ellRun (wordsW.getD k.toNat Str.empty) [⟨#[]⟩, Txt.item wd 1, Txt.item wd 3, ⟨#[]⟩] 0 = true then l ++ [k] else l
theorem taken_ok : ∀ j < 6, (rangeKs 0 6).foldl (takeG (wordsW.getD j Str.empty)) [] = [(j : Int)] := by decide +kernel
end Mine2
namespace Mine2
theorem word_strOk : ∀ wd ∈ wordsW, PyData.strOk wd = true := by decide +kernel
theorem one_shaped {x : Str} (ho : PyData.strOk x = true) : SeqAt.shaped (.list ([x].map PyData.str)) = true := by
  simp [SeqAt.shaped, PyData.canLay0, PyData.depth, PyData.canLayAll0, PyData.depthAll, ho]
theorem ne_word {prog : Program} {w : World} {A : Around} {E : Value → Shared → Prop} {s : Shared} {a b : Addr} {us vs : List Value} {x : Str} {Q : Value → Shared → Prop} (ho : PyData.strOk x = true) (ha : s.heap.IsList a us.toArray) (hb : s.heap.IsList b vs.toArray) (hi : StrsAre us [x]) (hj : StrsAre vs [x]) (hu : A.units + 64 < cLine) (h : Q (.bool false) s) :
    wpAny (model prog w) A (compareOp .NotEq (.ref a) (.ref b)) Q E s :=
  ne_dataH_same (reads_newData ha (StrsAre.carried hi)) (reads_newData hb (StrsAre.carried hj)) (one_shaped ho) (one_shaped ho) hu (SeqAt.noMix_of_shape (.list .str) rfl _ _ (list_map_has fun _ => rfl) (list_map_has fun _ => rfl)) (by
    have e : PySem.Spec.same (.list ([x].map PyData.str)) (.list ([x].map PyData.str)) = true := by
      simp [PySem.Spec.same, PySem.Spec.sameAll]
    rw [e]; exact h)
theorem strs_one {us : List Value} {x : Str} (h : StrsAre us [x]) : ∃ t, us = [.str x t] := by
  cases h with | cons _ t h => cases h; exact ⟨t, rfl⟩
theorem ints_one {us : List Value} {x : Int} (h : IntsAre us [x]) : ∃ t, us = [.int x t] := by
  cases h with | cons _ t h => cases h; exact ⟨t, rfl⟩
section
variable {p r : List Int} {wd : Str}
theorem word_idx (hp : IsPerm p) (hr : r ∈ totalsTab) (hwd : wd = wordF (r.map fun k => (rowsTab.map (imgF p)).getD k.toNat 0)) : ∃ jj : Nat, wordsW[jj]? = some wd ∧ jj < 6 ∧ mvF p r = (jj : Int) :=
  ⟨wordIdx p r, hwd ▸ wordIdx_at hp hr, wordIdx_lt hp hr, rfl⟩
theorem word_in (hp : IsPerm p) (hr : r ∈ totalsTab) (hwd : wd = wordF (r.map fun k => (rowsTab.map (imgF p)).getD k.toNat 0)) : wd ∈ wordsW := by
  obtain ⟨jj, h, _, _⟩ := word_idx hp hr hwd
  exact List.mem_of_getElem? h
theorem mv_bnd (hp : IsPerm p) (hr : r ∈ totalsTab) : 0 ≤ mvF p r ∧ mvF p r < 6 := by
  obtain ⟨jj, _, h, e⟩ := word_idx hp hr rfl
  omega
theorem mv_word (hp : IsPerm p) (hr : r ∈ totalsTab) (hwd : wd = wordF (r.map fun k => (rowsTab.map (imgF p)).getD k.toNat 0)) : wordsW.getD (mvF p r).toNat Str.empty = wd := by
  obtain ⟨jj, h, _, e⟩ := word_idx hp hr hwd
  rw [e, Int.toNat_natCast, List.getD_eq_getElem?_getD, h]; rfl
theorem taken_mv (hp : IsPerm p) (hr : r ∈ totalsTab) (hwd : wd = wordF (r.map fun k => (rowsTab.map (imgF p)).getD k.toNat 0)) : (rangeKs 0 6).foldl (takeG wd) [] = [mvF p r] := by
  obtain ⟨jj, h, h6, e⟩ := word_idx hp hr hwd
  have e2 : wordsW.getD jj Str.empty = wd := by rw [List.getD_eq_getElem?_getD, h]; rfl
  rw [e, ← e2]
  exact taken_ok jj h6
end
/-- what is sought for a word -/
structure WantOk (wd want : Str) : Prop where
  e : Str.ofString "..." ++ Txt.item wd 1 ++ Str.ofString "..." ++ Txt.item wd 3 ++ Str.ofString "..." = want
  o : (Builtin.Str.occurrences want (Str.ofString "...") 0 want.length 1).isEmpty = false
  s : Txt.split want (Str.ofString "...") = [⟨#[]⟩, Txt.item wd 1, Txt.item wd 3, ⟨#[]⟩]
  l0 : want.length ≤ 100
  l1 : (Txt.item wd 1).length ≤ 100
  l2 : (Txt.item wd 3).length ≤ 100
theorem want_at {wd : Str} (h : wd ∈ wordsW) : ∃ want, WantOk wd want := by
  obtain ⟨h1, h2, h3, h4, h5, _⟩ := want_ok wd h
  exact ⟨wantOf wd, rfl, h1, h2, h3, h4, h5⟩
theorem words_tab : ∀ n : Fin 6, (wordsW.getD n.val Str.empty).length ≤ 100 := by decide +kernel
theorem words_short (j : Nat) : (wordsW.getD j Str.empty).length ≤ 100 := by
  rcases Nat.lt_or_ge j 6 with h | h
  · exact words_tab ⟨j, h⟩
  · rw [List.getD_eq_getElem?_getD, List.getElem?_eq_none (show wordsW.length ≤ j from h)]
    decide
theorem takeG_grows (wd : Str) : ∀ l k, (takeG wd l k).length ≤ l.length + 1 := by
  intro l k
  unfold takeG
  split
  · rw [List.length_append]; exact Nat.le_refl _
  · exact Nat.le_succ _
theorem takeG_yes {wd : Str} {l : List Int} {k : Int} (h : ellRun (wordsW.getD k.toNat Str.empty) [⟨#[]⟩, Txt.item wd 1, Txt.item wd 3, ⟨#[]⟩] 0 = true) : takeG wd l k = l ++ [k] := if_pos h
theorem takeG_no {wd : Str} {l : List Int} {k : Int} (h : ellRun (wordsW.getD k.toNat Str.empty) [⟨#[]⟩, Txt.item wd 1, Txt.item wd 3, ⟨#[]⟩] 0 = false) : takeG wd l k = l := if_neg (by rw [h]; decide)
/-- what is known of the total's image -/
structure MvOk (p r : List Int) (wd : Str) (jv : Int) : Prop where
  t : (rangeKs 0 6).foldl (takeG wd) [] = [jv]
  b : 0 ≤ jv ∧ jv < 6
  w : wordsW.getD jv.toNat Str.empty = wd
  o : PyData.strOk wd = true
  v : mvF p r = jv
theorem word_all {p r : List Int} {wd : Str} (hp : IsPerm p) (hr : r ∈ totalsTab) (hwd : wd = wordF (r.map fun k => (rowsTab.map (imgF p)).getD k.toNat 0)) : ∃ want jv, WantOk wd want ∧ MvOk p r wd jv := by
  obtain ⟨want, h⟩ := want_at (word_in hp hr hwd)
  exact ⟨want, mvF p r, h, taken_mv hp hr hwd, mv_bnd hp hr, mv_word hp hr hwd, word_strOk _ (word_in hp hr hwd), rfl⟩
section
variable {w : World} {mean : ExcName → Option Value} {mg mb : Str → Option Value} {dp un : Nat} {gd : Option (List Code)} {cn : Str} {cs : Scope} {a : Addr} {ccd : Value} {cl : List (Str × Addr)} {outer : List Env} {A₀ : Around} {base h₀ : Heap} {L : Addr} {m : Str → Option Value} {news : List (Addr × Obj)} {s : Shared} {Q E : Value → Shared → Prop}
theorem ell_two {wd want y : Str} {tx ty : Tok} (H : Here 5 w mean mg mb dp un cs outer A₀ base h₀ L m news s.heap) (hw : WantOk wd want) (hy : y.length ≤ 100)
  (hT : ellRun y [⟨#[]⟩, Txt.item wd 1, Txt.item wd 3, ⟨#[]⟩] 0 = true → ∀ h' tk', Fr h₀ L h' m → News h₀ L h' news → Q (.bool true) { s with heap := h', toks := tk' })
  (hF : ellRun y [⟨#[]⟩, Txt.item wd 1, Txt.item wd 3, ⟨#[]⟩] 0 = false → ∀ h' tk', Fr h₀ L h' m → News h₀ L h' news → Q (.bool false) { s with heap := h', toks := tk' }) :
  wpAny (model PySem.Challenge.rw_sn0021_02.row.prog w) (ktrTop dp un gd cn cs L a ccd cl outer) (call (.ref 42) [.str want tx, .str y ty]) Q E s := by
  refine ell_ok H hw.o hw.s hw.l0 hy hw.l1 hw.l2 fun h' tk' F N => ?_
  cases e : ellRun y [⟨#[]⟩, Txt.item wd 1, Txt.item wd 3, ⟨#[]⟩] 0 with
  | true => exact hT e h' tk' F N
  | false => exact hF e h' tk' F N
end
theorem words_item {prog : Program} {w : World} {A : Around} {E : Value → Shared → Prop} {s : Shared} {value slice : PySem.Expr} {l : Addr} {wds : List Value} {k : Int} {u : Tok} {Q : Value → Shared → Prop} (hl : s.heap.IsList l wds.toArray) (hw : StrsAre wds (totalsTab.map wordF)) (h0 : 0 ≤ k) (h6 : k < 6)
    (h : ∀ t, Q (.str (wordsW.getD k.toNat Str.empty) t) s) (hs : subscripted slice false (.ref l) (.int k u) = operate [.ref l, .int k u] (getItem (.ref l) (.int k u)) := by with_unfolding_all rfl) : wpAny (model prog w) A (subscriptTail value slice (.ref l) (.int k u)) Q E s :=
  KTb.item_list hl hw h0 h6 (by omega) (fun t _ => h t) hs
end Mine2
namespace Mine2
theorem rings_six (g : List Int) : (ringsF g).length ≤ 6 := by
  unfold ringsF
  rw [(isort_perm _).length_eq]
  have e := rings_len g (rangeKs 0 6) []
  rw [rangeKs_length] at e
  simpa using e
theorem mv_all {p : List Int} (hp : IsPerm p) : ∀ k ∈ totalsTab.map (mvF p), 0 ≤ k ∧ k < 6 := fun k hk => by
  obtain ⟨r, hr, rfl⟩ := List.mem_map.mp hk
  exact mv_bnd hp hr
theorem mv_len (p : List Int) : (totalsTab.map (mvF p)).length = 6 := by rw [List.length_map]; rfl
theorem good_end {cl : Str → Option Addr} {mean : ExcName → Option Value} {ns : List Int} {s₁ : Shared} {h : Heap} {L : Addr} {m : Str → Option Value} {tk : Nat} (F : Fr s₁.heap L h m) (hg : s₁.gens = #[]) :
    GoodW PySem.Challenge.rw_sn0021_02.row.claim cl mean [ofPy (PyData.list (List.map PyData.int ns))] s₁ (Except.ok (Flow.ret (Value.bool true))) { heap := h, gens := s₁.gens, drawn := s₁.drawn, toks := tk, os := s₁.os } := by
  refine goodW_bool (by assumption) (by assumption) (raisesW_false ?_) ?_
  · wrow_none_raised
  · wrow_post
theorem first_item {prog : Program} {w : World} {A : Around} {E : Value → Shared → Prop} {s : Shared} {value slice : PySem.Expr} {l : Addr} {ys : List Value} {jv : Int} {u : Tok} {Q : Value → Shared → Prop} (hl : s.heap.IsList l ys.toArray) (hy : IntsAre ys [jv])
    (h : ∀ t, Q (.int jv t) s) (hs : subscripted slice false (.ref l) (.int 0 u) = operate [.ref l, .int 0 u] (getItem (.ref l) (.int 0 u)) := by with_unfolding_all rfl) : wpAny (model prog w) A (subscriptTail value slice (.ref l) (.int 0 u)) Q E s :=
  ints_item hl hy (by decide) (by simp) (by decide) h hs
/-- what the loop of the images keeps -/
inductive ImgJ (L : Nat) (oW oD aI aG aT aO aM aJ ai aY aQ aP : Obj) (Di Dr : Addr) (rvs : List Value) (cr : Nat) (Dg : Addr) (gs : List Value) (ros : List (Addr × Obj)) (p : List Int) (i : Nat) (m : Str → Option Value) (nw : List (Addr × Obj)) : Prop
  | mk (vis : List Value) (ci : Nat) (e : nw = [(L + 1 + 1 + 1 + 1 + 1 + 1 + 1 + 1 + 1 + 1 + 1 + 1, oW), (L + 1 + 1 + 1 + 1 + 1 + 1 + 1 + 1 + 1 + 1 + 1, oD), (L + 1 + 1 + 1 + 1 + 1 + 1 + 1 + 1 + 1 + 1, aI), (L + 1 + 1 + 1 + 1 + 1 + 1 + 1 + 1 + 1, aG), (L + 1 + 1 + 1 + 1 + 1 + 1 + 1 + 1, aT), (L + 1 + 1 + 1 + 1 + 1 + 1 + 1, aO), (L + 1 + 1 + 1 + 1 + 1 + 1, aM), (L + 1 + 1 + 1 + 1 + 1, aJ), (L + 1 + 1 + 1 + 1, ai), (L + 1 + 1 + 1, aY), (L + 1 + 1, aQ), (L + 1, aP)] ++ ((Di, listOf (List.toArray vis) ci) :: ((Dr, listOf (List.toArray rvs) cr) :: (Dg, LCg.lst gs) :: ros))) (hi : IntsAre vis ((rowsTab.take i).map (imgF p))) (hm : m (Str.ofString "rows") = some (Value.ref Dr))
/-- what the loop of the totals keeps -/
inductive MvJ (L : Nat) (aW aI aG aT aO aM aJ ai aY aQ aP : Obj) (Dm Dw : Addr) (wds : List Value) (Dt : Addr) (tus : List Value) (tc : Nat) (tos : List (Addr × Obj)) (Di : Addr) (vis : List Value) (ci : Nat) (Dr : Addr) (rvs : List Value) (cr : Nat) (Dg : Addr) (gs : List Value) (ros : List (Addr × Obj)) (p : List Int) (i : Nat) (m : Str → Option Value) (nw : List (Addr × Obj)) : Prop
  | mk (oW2 : Obj) (v2 : Option Value) (mus : List Value) (cm : Nat) (e : nw = [(L + 1 + 1 + 1 + 1 + 1 + 1 + 1 + 1 + 1 + 1 + 1 + 1, oW2), (L + 1 + 1 + 1 + 1 + 1 + 1 + 1 + 1 + 1 + 1 + 1, aW), (L + 1 + 1 + 1 + 1 + 1 + 1 + 1 + 1 + 1 + 1, aI), (L + 1 + 1 + 1 + 1 + 1 + 1 + 1 + 1 + 1, aG), (L + 1 + 1 + 1 + 1 + 1 + 1 + 1 + 1, aT), (L + 1 + 1 + 1 + 1 + 1 + 1 + 1, aO), (L + 1 + 1 + 1 + 1 + 1 + 1, aM), (L + 1 + 1 + 1 + 1 + 1, aJ), (L + 1 + 1 + 1 + 1, ai), (L + 1 + 1 + 1, aY), (L + 1 + 1, aQ), (L + 1, aP)] ++ ((Dm, listOf (List.toArray mus) cm) :: ((Dw, LCg.lst wds) :: (Dt, listOf (List.toArray tus) tc) :: (tos ++ ((Di, listOf (List.toArray vis) ci) :: (Dr, listOf (List.toArray rvs) cr) :: (Dg, LCg.lst gs) :: ros))))) (hd : oW2.data = Data.cell v2) (hi : IntsAre mus ((totalsTab.take i).map (mvF p))) (hm : m (Str.ofString "moved") = some (Value.ref Dm))
end Mine2
namespace Mine2
local macro_rules | `(tactic| kat_tups) => `(tactic| first | assumption | exact List.Mem.head _ | (refine in_r ?_; kat_tups) | (refine List.Mem.tail _ ?_; kat_tups) | (refine in_l ?_; kat_tups))
local macro_rules | `(tactic| k_places) => `(tactic| first | exact sub_nil | exact fun _ hp => hp | (refine sub_move0 ?_; k_places) | (refine sub_move1 ?_; k_places) | (refine sub_move2 ?_; k_places) | (refine sub_move3 ?_; k_places) | (refine sub_keep ?_; k_places) | (refine sub_cons ?_ ?_; (focus kat_tups); k_places) | (refine sub_app ?_ ?_; (focus k_places); k_places) | (intro p hp; kat_tups))
theorem wordsX : True := by
  k_with_none
  k_with "st" => (repeat' ((fail_if_success (with_reducible show wpAny _ _ (pyIter _) _ _ _)); (fail_if_success (with_reducible show InvEndN _ _ _ _ _ _ _)); (fail_if_success (with_reducible show KswEnd _ _ _ _ _ _ _ _ _ _ _ _)); (fail_if_success (with_reducible show wpAny _ _ (call (Value.builtin "list.append") _) _ _ _)); (fail_if_success (with_reducible show wpAny _ _ (call (Value.ref _) _) _ _ _)); (fail_if_success (with_reducible show wpAny _ _ (exec (Stmt.For _ _ _ _ _) _) _ _ _)); (fail_if_success (with_reducible show wpAny _ _ (exec (Stmt.While _ _ _ _) _) _ _ _)); first | (k_unfold; (try dsimp only)) | (k_end; wrow_close) | walk1 | (dsimp only; walk1) | (leave1; walk_say "STEP leave1"; try dsimp only) | fail "no step"))
  k_with "lt" => (repeat' ((fail_if_success (with_reducible show wpAny _ _ (eval (Expr.ListComp _ _ _ _) _) _ _ _)); (fail_if_success (with_reducible show wpAny _ _ (exec (Stmt.Assign [_] (Expr.ListComp _ _ _ _) _) _) _ _ _)); (fail_if_success (with_reducible show LCg.CompEnd _ _ _ _ _ _ _ _ _ _ _ _ _ _)); (fail_if_success (with_reducible show LCt.CompSrcT _ _ _ _ _ _ _ _ _ _ _ _ _ _ _)); (fail_if_success (with_reducible show wpAny _ _ (pyIter _) _ _ _)); (fail_if_success (with_reducible show wpAny _ _ (call (Value.builtin "list.append") _) _ _ _)); (fail_if_success (with_reducible show wpAny _ _ (call (Value.ref _) _) _ _ _)); (fail_if_success (with_reducible show wpAny _ _ (exec (Stmt.For _ _ _ _ _) _) _ _ _)); (fail_if_success (with_reducible show wpAny _ _ (exec (Stmt.While _ _ _ _) _) _ _ _)); first | (k_unfold; (try dsimp only)) | (k_end; wrow_close) | walk1 | (dsimp only; walk1) | (leave1; walk_say "STEP leave1"; try dsimp only) | fail "no step"))
  k_with "lx" => (repeat' ((fail_if_success (with_reducible show wpAny _ _ (compareOp _ (Value.ref _) (Value.ref _)) _ _ _)); (fail_if_success (with_reducible show wpAny _ _ (call (Value.builtin "list.index") _) _ _ _)); (fail_if_success (with_reducible show wpAny _ _ (call (Value.builtin "sorted") _) _ _ _)); (fail_if_success (with_reducible show LCg.CompSrc _ _ _ _ _ _ _ _ _ _ _ _ _ _)); (fail_if_success (with_reducible show wpAny _ _ (subscriptTail _ _ _ _) _ _ _)); (fail_if_success (with_reducible show wpAny _ _ (eval (Expr.ListComp _ _ _ _) _) _ _ _)); (fail_if_success (with_reducible show wpAny _ _ (exec (Stmt.Assign [_] (Expr.ListComp _ _ _ _) _) _) _ _ _)); (fail_if_success (with_reducible show LCg.CompEnd _ _ _ _ _ _ _ _ _ _ _ _ _ _)); (fail_if_success (with_reducible show LCt.CompSrcT _ _ _ _ _ _ _ _ _ _ _ _ _ _ _)); (fail_if_success (with_reducible show wpAny _ _ (pyIter _) _ _ _)); (fail_if_success (with_reducible show wpAny _ _ (call (Value.builtin "list.append") _) _ _ _)); (fail_if_success (with_reducible show wpAny _ _ (call (Value.ref _) _) _ _ _)); (fail_if_success (with_reducible show wpAny _ _ (exec (Stmt.For _ _ _ _ _) _) _ _ _)); (fail_if_success (with_reducible show wpAny _ _ (exec (Stmt.While _ _ _ _) _) _ _ _)); first | (k_unfold; (try dsimp only)) | (k_end; wrow_close) | walk1 | (dsimp only; walk1) | (leave1; walk_say "STEP leave1"; try dsimp only) | fail "no step"))
  k_with "one" => (first | (k_unfold; (try dsimp only)) | (k_end; wrow_close) | walk1 | (dsimp only; walk1) | (leave1; walk_say "STEP leave1"; try dsimp only) | fail "no step")
  trivial
theorem hide_post {M : Model} {A : Around} {c : Code} {s : Shared} {P : Except Value Flow → Shared → Prop} (h : ∀ R : Except Value Flow → Shared → Prop, (∀ r s', P r s' → R r s') → codeAny M A c R s) : codeAny M A c P s := h P fun _ _ x => x
theorem lawHolds : PySem.Challenge.rw_sn0021_02.Holds := hd2 (by
  k_fill
  intro w s₀ s₁ mg mb G Y fa o pm cd doc dV kV ho hd hcd hD hmg hg args vals as hpre hlay hrd hwl hlo
  have KX := kIn_of Y
  have X := (Ground.X G).1
  have V := (Ground.X G).2
  try w_nolog (first | (have GL := glob_more (Ground.glob G (by first | k_qdec | decide +kernel) (by first | k_qdec | decide +kernel)) V) | (have GL := glob_more (Ground.glob G (by decide +kernel)) V))
  refine Ground.open G ?_
  intro T B D TE TW
  try (refine guard_noD D (by decide +kernel) ?_; clear D)
  obtain ⟨_, _, M⟩ := bmod_of_top T
  have TA := at_of_top T
  try (obtain ⟨_, _, he, B0⟩ := based_of_top T rfl hmg ho hd; have he' : cd = _ := he; subst he'; clear he)
  clear hmg
  wrow_args hpre hlay hrd hwl hlo
  all_goals (
    first | refine callC_kw (enter_call ?_) | refine enter_call ?_ | refine callC_kw (enter_callW ?_) | refine enter_callW ?_ | w_how
    w_top on
    try refine codeAny_mono ?_ (fun _ _ g => GoodW.toG g)
    refine hide_post fun R hR => ?_
    have K0 := below_caller (Top.heap T)
    have he := Dflts.none hD rfl; subst he; have he := Dflts.noKw hD; subst he
    refine call_cellsN (by decide) ho (fd_plain hd) (Top.nolimit T) hcd rfl (kinds_of (by kinds_ok)) (by decide) fun h₁ tk₁ cells F N0 X0 => ?_
    repeat (have X1 := X0; clear X0; obtain ⟨_, _, he, _, X0⟩ := kc_more X1; subst he; clear X1)
    have he := kc_last X0; subst he
    clear X0
    clear hd TA
    k_drop
    skip)
  all_goals try k_fold
  rename IntsAre _ _ => hI
  rename_i ns _ _ _ _ _ _ _ la vs _ hla _ _ _ _ h63 _ oW hW oD hD1 oI hI1 oG hG1 oT hT oO hO oM hM oJ hJ oi hi1 oY hY oQ hQ oP hP
  obtain ⟨us4, hus⟩ : ∃ us, us = vs.take 4 := ⟨_, rfl⟩
  have hpick : kms_pick vs.toArray.toList none (some 4) = us4 := by rw [hus]; exact pick_four vs
  have hI4 : IntsAre us4 (ns.take 4) := hus ▸ IntsAre_take 4 hI
  have hl4 : us4.length ≤ 4 := by rw [hus]; exact List.length_take_le 4 vs
  clear hus
  change oW.data = Data.cell none at hW
  change oD.data = Data.cell none at hD1
  change oI.data = Data.cell none at hI1
  change oG.data = Data.cell none at hG1
  change oT.data = Data.cell none at hT
  change oO.data = Data.cell none at hO
  change oM.data = Data.cell none at hM
  change oJ.data = Data.cell none at hJ
  change oi.data = Data.cell none at hi1
  change oY.data = Data.cell none at hY
  change oQ.data = Data.cell none at hQ
  change oP.data = Data.cell none at hP
  change Fr s₁.heap s₁.heap.objs.size h₁ (fun y => if y = Str.ofString "script" then some (Value.ref la) else none) at F
  k_extra "lx"
  refine wpAny_Assign_Name ?_ (by with_unfolding_all rfl)
  k_dflt (refine LCg.ListComp_U (F₀ := by k_asm) (by with_unfolding_all rfl) (by decide) (by rfl) (by decide) (by rfl) ?_)
  k_extra "lx"
  refine LCg.CompSrc.range (n := 6) (by rfl) (by k_asm) (by k_asm) (by assumption) (by decide) (by rfl) (by exact Nat.le_of_ble_eq_true rfl) ?_
  intro g2
  refine comp_gen (xs := ([0, 1, 2, 3, 4, 5] : List Int)) (fun k v => ∃ t, v = .int k t) rfl (fun i k v h1 h2 => ?_) (fun pre ys ex => Paints pre ys ex ∧ ∀ p ∈ ex, OffC s₁.heap.objs.size p.1) ⟨Paints.nil, fun p hp => nomatch hp⟩ ?_ ?_
  · obtain ⟨t, rfl⟩ := h2
    refine ⟨t, ?_⟩
    rcases i with _ | _ | _ | _ | _ | _ | i <;> first | (cases h1; rfl) | (simp at h1)
  · rintro pre k v I oI' C oC D m2 ys ex h tk E' hmem ⟨t, rfl⟩ ⟨hO', hex⟩ hoC hx fE nE off ne
    dsimp only
    have hk06 := six_in k hmem
    obtain ⟨hok, hval⟩ := hue_col k hk06.1 (Int.lt_trans hk06.2 (by decide))
    rw [Int.fmod_eq_of_lt hk06.1 hk06.2] at hval
    k_extra "lx"
    refine' hsv_ok (x := hueK k) ⟨by k_asm, by k_asm, by k_asm, by k_asm, by k_asm, by first | exact rfl | assumption, by ktr_room, by ktr_units⟩ hok ?_
    intro D9 t1 t2 t3 h9 tk9 F9 N9 l9
    rw [hval] at N9
    refine LCg.CompEnd.intro F9 N9 ((D9, tup3 (colF k).1 t1 (colF k).2.1 t2 (colF k).2.2 t3) :: ex ++ _) (sub_cons (.tail _ (.head _)) (sub_cons (.tail _ (.tail _ (.head _))) (sub_cons (.tail _ (.tail _ (.tail _ (.head _)))) (sub_cons (.head _) fun p hp => .tail _ (.tail _ (.tail _ (.tail _ hp))))))) ⟨⟨?_, ?_, ?_⟩, off⟩ trivial ⟨(D9, tup3 (colF k).1 t1 (colF k).2.1 t2 (colF k).2.2 t3) :: ex, rfl, Paints.snoc hO', List.forall_mem_cons.mpr ⟨offC_lt (l9 (s₁.heap.objs.size + 1 + 1 + 1 + 1 + 1 + 1 + 1 + 1 + 1 + 1 + 1 + 1, oW) (by kat_tups)), hex⟩⟩
    · exact Nat.ne_of_gt (l9 (I, oI') (.head _))
    · exact Nat.ne_of_gt (l9 (C, oC) (.tail _ (.head _)))
    · exact Nat.ne_of_gt (l9 (D, LCg.lst ys) (.tail _ (.tail _ (.head _))))
  · rintro pus ex ⟨hO', hex⟩
    k_extra "lx"
    rename_i Dp hp1 tkp fP nP offP
    have hDp : OffC s₁.heap.objs.size Dp := offC_of (o1 := oP) (o2 := oQ) (o3 := oY) (o4 := oi) (o5 := oJ) (o6 := oM) (o7 := oO) (o8 := oT) (o9 := oG) (o10 := oI) (o11 := oD) (o12 := oW) (fun p hp => off1_mem offP p (List.mem_append_right _ hp))
    refine store_1 fP (cb_drop (news := [(s₁.heap.objs.size + 1 + 1 + 1 + 1 + 1 + 1 + 1 + 1 + 1 + 1 + 1 + 1, oW), (s₁.heap.objs.size + 1 + 1 + 1 + 1 + 1 + 1 + 1 + 1 + 1 + 1 + 1, oD), (s₁.heap.objs.size + 1 + 1 + 1 + 1 + 1 + 1 + 1 + 1 + 1 + 1, oI), (s₁.heap.objs.size + 1 + 1 + 1 + 1 + 1 + 1 + 1 + 1 + 1, oG), (s₁.heap.objs.size + 1 + 1 + 1 + 1 + 1 + 1 + 1 + 1, oT), (s₁.heap.objs.size + 1 + 1 + 1 + 1 + 1 + 1 + 1, oO), (s₁.heap.objs.size + 1 + 1 + 1 + 1 + 1 + 1, oM), (s₁.heap.objs.size + 1 + 1 + 1 + 1 + 1, oJ), (s₁.heap.objs.size + 1 + 1 + 1 + 1, oi), (s₁.heap.objs.size + 1 + 1 + 1, oY), (s₁.heap.objs.size + 1 + 1, oQ), (s₁.heap.objs.size + 1, oP)] ++ ((Dp, LCg.lst pus) :: ex)) nP (by k_places)) (List.forall_mem_cons.mpr ⟨hDp, hex⟩) (by rfl) hP ?_
    intro h2 oP2 f2 n2 hP2
    clear fP nP offP
    k_extra "lx"
    rename NewPlain _ _ _ _ => np
    rename Fr _ _ _ _ => fQ
    rename News _ _ _ _ => nQ
    rename CarriedAll _ _ => hcq
    rename _ = none => hq0
    rename MadeMark => mk9
    clear mk9
    have hQi : IntsAre _ [0, 1, 2, 3, 4, 5] := ints_carried hcq
    clear hcq
    obtain ⟨nq, nQ2, neq⟩ := made_news fQ nQ np hq0
    have hDq : OffC s₁.heap.objs.size _ := offC_of (o1 := oP2) (o2 := oQ) (o3 := oY) (o4 := oi) (o5 := oJ) (o6 := oM) (o7 := oO) (o8 := oT) (o9 := oG) (o10 := oI) (o11 := oD) (o12 := oW) (fun p hp => neq p (List.mem_append_left (_ :: _) hp))
    refine store_2 fQ (cb_drop (news := [(s₁.heap.objs.size + 1 + 1 + 1 + 1 + 1 + 1 + 1 + 1 + 1 + 1 + 1 + 1, oW), (s₁.heap.objs.size + 1 + 1 + 1 + 1 + 1 + 1 + 1 + 1 + 1 + 1 + 1, oD), (s₁.heap.objs.size + 1 + 1 + 1 + 1 + 1 + 1 + 1 + 1 + 1 + 1, oI), (s₁.heap.objs.size + 1 + 1 + 1 + 1 + 1 + 1 + 1 + 1 + 1, oG), (s₁.heap.objs.size + 1 + 1 + 1 + 1 + 1 + 1 + 1 + 1, oT), (s₁.heap.objs.size + 1 + 1 + 1 + 1 + 1 + 1 + 1, oO), (s₁.heap.objs.size + 1 + 1 + 1 + 1 + 1 + 1, oM), (s₁.heap.objs.size + 1 + 1 + 1 + 1 + 1, oJ), (s₁.heap.objs.size + 1 + 1 + 1 + 1, oi), (s₁.heap.objs.size + 1 + 1 + 1, oY), (s₁.heap.objs.size + 1 + 1, oQ), (s₁.heap.objs.size + 1, oP2)] ++ ((_, listOf _ nq) :: (Dp, LCg.lst pus) :: ex)) nQ2 (by k_places)) (List.forall_mem_cons.mpr ⟨hDq, List.forall_mem_cons.mpr ⟨hDp, hex⟩⟩) (by rfl) hQ ?_
    intro h3 oQ2 f3 n3 hQ2
    clear fQ nQ nQ2 np neq
    k_extra "lx"
    rename IntsAre _ [0, 1, 2, 3, 4, 5] => hqs
    obtain ⟨Dq, qs, n4, hQ3, hDq2, hqs2⟩ : ∃ Dq qs, News s₁.heap s₁.heap.objs.size h3 ([(s₁.heap.objs.size + 1 + 1 + 1 + 1 + 1 + 1 + 1 + 1 + 1 + 1 + 1 + 1, oW), (s₁.heap.objs.size + 1 + 1 + 1 + 1 + 1 + 1 + 1 + 1 + 1 + 1 + 1, oD), (s₁.heap.objs.size + 1 + 1 + 1 + 1 + 1 + 1 + 1 + 1 + 1 + 1, oI), (s₁.heap.objs.size + 1 + 1 + 1 + 1 + 1 + 1 + 1 + 1 + 1, oG), (s₁.heap.objs.size + 1 + 1 + 1 + 1 + 1 + 1 + 1 + 1, oT), (s₁.heap.objs.size + 1 + 1 + 1 + 1 + 1 + 1 + 1, oO), (s₁.heap.objs.size + 1 + 1 + 1 + 1 + 1 + 1, oM), (s₁.heap.objs.size + 1 + 1 + 1 + 1 + 1, oJ), (s₁.heap.objs.size + 1 + 1 + 1 + 1, oi), (s₁.heap.objs.size + 1 + 1 + 1, oY), (s₁.heap.objs.size + 1 + 1, oQ2), (s₁.heap.objs.size + 1, oP2)] ++ ((Dq, listOf (List.toArray qs) nq) :: (Dp, LCg.lst pus) :: ex)) ∧ oQ2.data = Data.cell (some (Value.ref Dq)) ∧ OffC s₁.heap.objs.size Dq ∧ IntsAre qs [0, 1, 2, 3, 4, 5] := ⟨_, _, n3, hQ2, hDq, hqs⟩
    clear n3 hQ2 hDq hqs
    simp only [List.cons_append, List.nil_append] at n4
    refine forT ?_ (by intro _; rfl)
    k_extra "lx"
    rename_i DX hX fX nX lX
    k_dflt (refine LCg.ListComp_U (F₀ := by k_asm) (by with_unfolding_all rfl) (by decide) (by rfl) (by decide) (by rfl) ?_)
    k_extra "lx"
    refine' kms_slice_lit (by k_asm) (by k_asm) (by kmk_list) (by kmk_part) (by kmk_part) hpick ?_ (by with_unfolding_all rfl) (by kmk_pure) (by kmk_size)
    intro D4 h4 f4 n5 l4
    clear fX nX
    refine LCg.CompSrc.ledger (by rfl) (by k_asm) (by k_asm) (by k_mem) (by rw [List.size_toArray, sizeLine_eq]; exact Nat.le_trans hl4 (by decide)) ?_
    intro g3
    rename IntsAre us4 _ => hI4
    refine kcf_list (fun k => k.fmod 720) hI4 (fun k t I oI' C oC D m₂ ys h tk E' hk' hC hx fE nE off ne mk => ?_) ?_
    · dsimp only
      k_extra "lx"
      rename News _ _ _ _ => nE2
      exact LCg.CompEnd.intro (by assumption) nE2 _ (fun p hp => hp) off (.inr ⟨_, .head _, rfl, _, rfl⟩) (kcf_el rfl rfl rfl)
    · k_extra "lx"
      rename_i DS ws hS fS nS hIw lS
      have hDS : OffC s₁.heap.objs.size DS := offC_lt lS.2.2.2.1
      have nS2 := cb_drop (news := [(s₁.heap.objs.size + 1 + 1 + 1 + 1 + 1 + 1 + 1 + 1 + 1 + 1 + 1 + 1, oW), (s₁.heap.objs.size + 1 + 1 + 1 + 1 + 1 + 1 + 1 + 1 + 1 + 1 + 1, oD), (s₁.heap.objs.size + 1 + 1 + 1 + 1 + 1 + 1 + 1 + 1 + 1 + 1, oI), (s₁.heap.objs.size + 1 + 1 + 1 + 1 + 1 + 1 + 1 + 1 + 1, oG), (s₁.heap.objs.size + 1 + 1 + 1 + 1 + 1 + 1 + 1 + 1, oT), (s₁.heap.objs.size + 1 + 1 + 1 + 1 + 1 + 1 + 1, oO), (s₁.heap.objs.size + 1 + 1 + 1 + 1 + 1 + 1, oM), (s₁.heap.objs.size + 1 + 1 + 1 + 1 + 1, oJ), (s₁.heap.objs.size + 1 + 1 + 1 + 1, oi), (s₁.heap.objs.size + 1 + 1 + 1, oY), (s₁.heap.objs.size + 1 + 1, oQ2), (s₁.heap.objs.size + 1, oP2)] ++ ((DS, listOf ws.toArray 0) :: (Dq, listOf (List.toArray qs) nq) :: (Dp, LCg.lst pus) :: ex)) nS (by k_places)
      clear nS
      have hSI : ∀ p ∈ [(s₁.heap.objs.size + 1 + 1 + 1 + 1 + 1 + 1 + 1 + 1 + 1 + 1 + 1 + 1, oW), (s₁.heap.objs.size + 1 + 1 + 1 + 1 + 1 + 1 + 1 + 1 + 1 + 1 + 1, oD), (s₁.heap.objs.size + 1 + 1 + 1 + 1 + 1 + 1 + 1 + 1 + 1 + 1, oI), (s₁.heap.objs.size + 1 + 1 + 1 + 1 + 1 + 1 + 1 + 1 + 1, oG), (s₁.heap.objs.size + 1 + 1 + 1 + 1 + 1 + 1 + 1 + 1, oT), (s₁.heap.objs.size + 1 + 1 + 1 + 1 + 1 + 1 + 1, oO), (s₁.heap.objs.size + 1 + 1 + 1 + 1 + 1 + 1, oM), (s₁.heap.objs.size + 1 + 1 + 1 + 1 + 1, oJ), (s₁.heap.objs.size + 1 + 1 + 1 + 1, oi), (s₁.heap.objs.size + 1 + 1 + 1, oY), (s₁.heap.objs.size + 1 + 1, oQ2), (s₁.heap.objs.size + 1, oP2)] ++ ((DS, listOf ws.toArray 0) :: (Dq, listOf (List.toArray qs) nq) :: (Dp, LCg.lst pus) :: ex), p.1 ≠ hS.objs.size := fun p hp => Nat.ne_of_lt (Heap.lt_size (nS2 p hp).1)
      have hL12 : s₁.heap.objs.size + 1 + 1 + 1 + 1 + 1 + 1 + 1 + 1 + 1 + 1 + 1 + 1 < hS.objs.size := Heap.lt_size (nS2 (s₁.heap.objs.size + 1 + 1 + 1 + 1 + 1 + 1 + 1 + 1 + 1 + 1 + 1 + 1, oW) (.head _)).1
      have hI12 : OffC s₁.heap.objs.size hS.objs.size := offC_lt hL12
      refine iterG (nn := 0) (items := ws) (fun _ _ _ nw => DeedJ s₁.heap.objs.size oW oD oI oG DS ws hS.objs.size nw) (by rfl) fS nS2 ?_ ?_ ?_ ?_ ?_ (by passes_own)
      · exact ⟨oP2, oQ2, oY, oi, oJ, oM, oO, oT, Dp, Dq, pus, qs, ex, _, _, _, rfl, hP2, hQ3, ⟨_, hY⟩, ⟨_, hi1⟩, ⟨_, hJ⟩, ⟨_, hM⟩, ⟨_, hO⟩, ⟨_, hT⟩, hO', hqs2, isPerm_id, List.forall_mem_cons.mpr ⟨⟨hDq2, hSI (Dq, listOf (List.toArray qs) nq) (by kat_tups)⟩, List.forall_mem_cons.mpr ⟨⟨hDp, hSI (Dp, LCg.lst pus) (by kat_tups)⟩, fun q hq => ⟨hex q hq, hSI q (by kat_tups)⟩⟩⟩⟩
      · intro i t t' m nw _ h; exact h
      · rintro i t m nw ⟨aP, aQ, aY, ai, aJ, aM, aO, aT, Dp', Dq', us, qs', ex', cp, cq, p, rfl, _, _, _, _, _, _, _, _, _, _, _, hoff⟩
        refine ⟨by kat_tups, fun q hq => ?_⟩
        rcases List.mem_append.mp hq with hq | hq
        · exact Nat.ne_of_lt (cells_lt hL12 q hq)
        rcases List.mem_cons.mp hq with rfl | hq
        · exact hSI (DS, listOf ws.toArray 0) (by kat_tups)
        · exact (hoff q hq).2
      · rintro i v t h oX m2 nw hv ⟨aP, aQ, aY, ai, aJ, aM, aO, aT, Dp', Dq', us, qs', ex', cp, cq, p, rfl, haP, haQ, ⟨vY, haY⟩, ⟨vi, hai⟩, ⟨vJ, haJ⟩, ⟨vM, haM⟩, ⟨vO, haO⟩, ⟨vT, haT⟩, hpa, hpq, hperm, hoff⟩ fT nT
        clear fS nS2 hSI
        obtain ⟨xv, tx, hxv, rfl⟩ := intsAt hIw hv
        have hxb := xs_bound xv (List.mem_of_getElem? hxv)
        clear hv hxv
        simp only [List.cons_append, List.nil_append] at nT
        have hrest : ∀ q ∈ (DS, listOf ws.toArray 0) :: (Dq', listOf (List.toArray qs') cq) :: (Dp', listOf (List.toArray us) cp) :: (ex' ++ [(hS.objs.size, oX)]), OffC s₁.heap.objs.size q.1 := List.forall_mem_cons.mpr ⟨hDS, fun q hq => by
          rcases List.mem_cons.mp hq with rfl | hq
          · exact (hoff _ (.head _)).1
          rcases List.mem_cons.mp hq with rfl | hq
          · exact (hoff _ (.tail _ (.head _))).1
          rcases List.mem_append.mp hq with hq | hq
          · exact (hoff _ (.tail _ (.tail _ hq))).1
          · rw [List.mem_singleton.mp hq]; exact hI12⟩
        k_extra "lx"
        rename Fr _ _ _ _ => fB
        rename News _ _ _ _ => nB
        refine store_3 fB nB hrest (by rfl) haY ?_
        intro h2 aY2 fC nC haY2
        clear fB nB
        k_extra "lx"
        · refine wpAny_Assign_Name ?_ (by with_unfolding_all rfl)
          refine comp3 (h₀ := s₁.heap) (L := s₁.heap.objs.size) (m := fun y => if y = Str.ofString "x" then some (Value.int xv tx) else m2 y) colRv (fun pre ys ex2 => Paints (pre.map fun k => (k + 1 + (xv.fdiv 4).fmod 5).fmod 6) ys ex2 ∧ ∀ q ∈ ex2, OffC s₁.heap.objs.size q.1 ∧ q.1 ≠ hS.objs.size) (by with_unfolding_all rfl) (by decide) (by rfl) (by decide) (by rfl) (by rfl) (by rfl) (by decide) (by decide) (by decide) ?_
          k_extra "one"
          rename Fr _ _ _ _ => fC
          rename News _ _ _ _ => nC
          refine ⟨Dp', us, cp, _, p, rfl, rfl, fC, nC, (by kat_tups), hpa.1, (by rw [hpa.1, hperm.1]; exact Nat.le_of_ble_eq_true rfl), fun i k v h1 h2 => ?_, ⟨Paints.nil, fun q hq => nomatch hq⟩, ?_, ?_⟩
          · obtain ⟨T, v1, v2, v3, e, hm, hr⟩ := hpa.items hperm.2.1 i k v h1 h2
            exact ⟨T, v1, v2, v3, e, (by kat_tups), hr⟩
          · rintro pre k v1 v2 v3 I oI' C oC D m₂ ys ex2 h tk E' hmem ⟨t1, t2, t3, rfl, rfl, rfl, hk0, hk6⟩ ⟨hO2, hex2⟩ hoC hx1 hx2 hx3 fE nE off ne
            clear fC nC
            dsimp only
            have nE2 := cb_drop (news := (s₁.heap.objs.size + 1 + 1 + 1, aY2) :: _) nE (List.forall_mem_cons.mpr ⟨(by kat_tups), fun q hq => hq⟩)
            clear nE
            have y0 := Int.fmod_nonneg_of_pos (xv.fdiv 4) (show (0 : Int) < 5 by decide)
            have y5 := Int.fmod_lt_of_pos (xv.fdiv 4) (show (0 : Int) < 5 by decide)
            k_extra "lx"
            refine' hsv2_ok ⟨by k_asm, by k_asm, by k_asm, by k_asm, by k_asm, by first | exact rfl | assumption, by ktr_room, by ktr_units⟩ (hsv_col k hk0 hk6).1 ?_
            intro D8 b1 b2 b3 h8 tk8 F8 N8 l8
            k_extra "lx"
            refine' corner_ok ⟨by k_asm, by k_asm, by k_asm, by k_asm, by k_asm, by first | exact rfl | assumption, by ktr_room, by ktr_units⟩ (.head _) (hsv_col k hk0 hk6).2.1 (hsv_col k hk0 hk6).2.2.1 ?_
            intro b4 h7 tk7 F7 N7
            rw [(hsv_col k hk0 hk6).2.2.2.1]
            k_extra "lx"
            refine' hsv_ok (x := hueK (k + 1 + (xv.fdiv 4).fmod 5)) ⟨by k_asm, by k_asm, by k_asm, by k_asm, by k_asm, by first | exact rfl | assumption, by ktr_room, by ktr_units⟩ (hue_col (k + 1 + (xv.fdiv 4).fmod 5) (hue_off hk0 hk6 y0 y5).1 (hue_off hk0 hk6 y0 y5).2).1 ?_
            intro T9 ta tb tc h9 tk9 f9 n9 l9
            rw [(hue_col (k + 1 + (xv.fdiv 4).fmod 5) (hue_off hk0 hk6 y0 y5).1 (hue_off hk0 hk6 y0 y5).2).2] at n9
            refine LCg.CompEnd.intro f9 n9 ((T9, tup3 _ ta _ tb _ tc) :: ex2 ++ _) (sub_cons (.tail _ (.tail _ (.tail _ (.head _)))) (sub_cons (.tail _ (.tail _ (.tail _ (.tail _ (.head _))))) (sub_cons (.tail _ (.tail _ (.tail _ (.tail _ (.tail _ (.head _)))))) (sub_cons (.head _) fun q hq => .tail _ (.tail _ (.tail _ (.tail _ (.tail _ (.tail _ hq))))))))) ⟨⟨Nat.ne_of_gt (l9 (I, oI') (by kat_tups)), Nat.ne_of_gt (l9 (C, oC) (by kat_tups)), Nat.ne_of_gt (l9 (D, LCg.lst ys) (by kat_tups))⟩, off⟩ trivial ⟨(T9, tup3 _ ta _ tb _ tc) :: ex2, rfl, (by rw [List.map_append]; exact hO2.snoc), List.forall_mem_cons.mpr ⟨⟨offC_lt (l9 (s₁.heap.objs.size + 1 + 1 + 1 + 1 + 1 + 1 + 1 + 1 + 1 + 1 + 1 + 1, oW) (by kat_tups)), Nat.ne_of_gt (l9 (hS.objs.size, oX) (by kat_tups))⟩, hex2⟩⟩

          · rintro pus ex2 Dp2 h tk ⟨hO2, hex2⟩ fE nE offE
            clear fC nC
            have hDp2 : OffC s₁.heap.objs.size Dp2 ∧ Dp2 ≠ hS.objs.size := ⟨offC_of (o1 := aP) (o2 := aQ) (o3 := aY2) (o4 := ai) (o5 := aJ) (o6 := aM) (o7 := aO) (o8 := aT) (o9 := oG) (o10 := oI) (o11 := oD) (o12 := oW) (fun q hq => off1_mem offE q (List.mem_append_right _ (in_l hq))), Ne.symm (off1_mem offE (hS.objs.size, oX) (by kat_tups))⟩
            refine store_1 fE (cb_drop (news := [(s₁.heap.objs.size + 1 + 1 + 1 + 1 + 1 + 1 + 1 + 1 + 1 + 1 + 1 + 1, oW), (s₁.heap.objs.size + 1 + 1 + 1 + 1 + 1 + 1 + 1 + 1 + 1 + 1 + 1, oD), (s₁.heap.objs.size + 1 + 1 + 1 + 1 + 1 + 1 + 1 + 1 + 1 + 1, oI), (s₁.heap.objs.size + 1 + 1 + 1 + 1 + 1 + 1 + 1 + 1 + 1, oG), (s₁.heap.objs.size + 1 + 1 + 1 + 1 + 1 + 1 + 1 + 1, aT), (s₁.heap.objs.size + 1 + 1 + 1 + 1 + 1 + 1 + 1, aO), (s₁.heap.objs.size + 1 + 1 + 1 + 1 + 1 + 1, aM), (s₁.heap.objs.size + 1 + 1 + 1 + 1 + 1, aJ), (s₁.heap.objs.size + 1 + 1 + 1 + 1, ai), (s₁.heap.objs.size + 1 + 1 + 1, aY2), (s₁.heap.objs.size + 1 + 1, aQ), (s₁.heap.objs.size + 1, aP)] ++ ((DS, listOf ws.toArray 0) :: (Dq', listOf (List.toArray qs') cq) :: (Dp2, LCg.lst pus) :: (ex2 ++ [(hS.objs.size, oX)]))) nE (by k_places)) ?_ (by rfl) haP ?_
            · exact List.forall_mem_cons.mpr ⟨hDS, List.forall_mem_cons.mpr ⟨(hoff _ (.head _)).1, List.forall_mem_cons.mpr ⟨hDp2.1, List.forall_mem_append.mpr ⟨fun q hq => (hex2 q hq).1, List.forall_mem_cons.mpr ⟨hI12, fun q hq => nomatch hq⟩⟩⟩⟩⟩
            intro h3 aP2 fD nD haP2
            clear fE nE offE
            k_extra "lx"
            refine wpAny_Assign_Name ?_ (by with_unfolding_all rfl)
            k_dflt (refine LCg.ListComp_U (F₀ := by k_asm) (by with_unfolding_all rfl) (by decide) (by rfl) (by decide) (by rfl) ?_)
            k_extra "lx"
            rename IntsAre qs' p => hpq
            refine LCg.CompSrc.ledger (by rfl) (by k_asm) (by k_asm) (by k_mem) (by rw [List.size_toArray, hpq.length, hperm.1]; exact Nat.le_of_ble_eq_true rfl) ?_
            intro g4
            refine kcf_list (fun k => (k + 1 + (xv.fdiv 4).fmod 5).fmod 6) hpq (fun k t I oI' C oC D m₂ ys h tk E' hk' hC hx fE nE off ne mk => ?_) ?_
            · dsimp only
              k_extra "lx"
              rename News _ _ _ _ => nE2
              exact LCg.CompEnd.intro (by assumption) nE2 _ (fun p hp => hp) off (.inr ⟨listOf (List.toArray qs') cq, by kat_tups, rfl, _, rfl⟩) (kcf_el rfl rfl rfl)
            · k_extra "lx"
              rename_i _ Dq2 hq2 tkq fQ nQ offQ
              rename IntsAre ys _ => hqI
              have hDq2' : OffC s₁.heap.objs.size Dq2 ∧ Dq2 ≠ hS.objs.size := by
                have hal : ∀ q ∈ [(s₁.heap.objs.size + 1 + 1 + 1 + 1 + 1 + 1 + 1 + 1 + 1 + 1 + 1 + 1, oW), (s₁.heap.objs.size + 1 + 1 + 1 + 1 + 1 + 1 + 1 + 1 + 1 + 1 + 1, oD), (s₁.heap.objs.size + 1 + 1 + 1 + 1 + 1 + 1 + 1 + 1 + 1 + 1, oI), (s₁.heap.objs.size + 1 + 1 + 1 + 1 + 1 + 1 + 1 + 1 + 1, oG), (s₁.heap.objs.size + 1 + 1 + 1 + 1 + 1 + 1 + 1 + 1, aT), (s₁.heap.objs.size + 1 + 1 + 1 + 1 + 1 + 1 + 1, aO), (s₁.heap.objs.size + 1 + 1 + 1 + 1 + 1 + 1, aM), (s₁.heap.objs.size + 1 + 1 + 1 + 1 + 1, aJ), (s₁.heap.objs.size + 1 + 1 + 1 + 1, ai), (s₁.heap.objs.size + 1 + 1 + 1, aY2), (s₁.heap.objs.size + 1 + 1, aQ), (s₁.heap.objs.size + 1, aP2)] ++ ((DS, listOf ws.toArray 0) :: (Dq', listOf (List.toArray qs') cq) :: (Dp2, LCg.lst pus) :: (ex2 ++ [(hS.objs.size, oX)])), q.1 ≠ Dq2 := off1_mem offQ
                exact ⟨offC_of (o1 := aP2) (o2 := aQ) (o3 := aY2) (o4 := ai) (o5 := aJ) (o6 := aM) (o7 := aO) (o8 := aT) (o9 := oG) (o10 := oI) (o11 := oD) (o12 := oW) (fun q hq => hal q (List.mem_append_left _ hq)), Ne.symm (hal (hS.objs.size, oX) (by kat_tups))⟩
              refine store_2 fQ (cb_drop (news := [(s₁.heap.objs.size + 1 + 1 + 1 + 1 + 1 + 1 + 1 + 1 + 1 + 1 + 1 + 1, oW), (s₁.heap.objs.size + 1 + 1 + 1 + 1 + 1 + 1 + 1 + 1 + 1 + 1 + 1, oD), (s₁.heap.objs.size + 1 + 1 + 1 + 1 + 1 + 1 + 1 + 1 + 1 + 1, oI), (s₁.heap.objs.size + 1 + 1 + 1 + 1 + 1 + 1 + 1 + 1 + 1, oG), (s₁.heap.objs.size + 1 + 1 + 1 + 1 + 1 + 1 + 1 + 1, aT), (s₁.heap.objs.size + 1 + 1 + 1 + 1 + 1 + 1 + 1, aO), (s₁.heap.objs.size + 1 + 1 + 1 + 1 + 1 + 1, aM), (s₁.heap.objs.size + 1 + 1 + 1 + 1 + 1, aJ), (s₁.heap.objs.size + 1 + 1 + 1 + 1, ai), (s₁.heap.objs.size + 1 + 1 + 1, aY2), (s₁.heap.objs.size + 1 + 1, aQ), (s₁.heap.objs.size + 1, aP2)] ++ ((DS, listOf ws.toArray 0) :: (Dq2, LCg.lst ys) :: (Dp2, LCg.lst pus) :: (ex2 ++ [(hS.objs.size, oX)]))) nQ (by k_places)) ?_ (by rfl) haQ ?_
              · exact List.forall_mem_cons.mpr ⟨hDS, List.forall_mem_cons.mpr ⟨hDq2'.1, List.forall_mem_cons.mpr ⟨hDp2.1, List.forall_mem_append.mpr ⟨fun q hq => (hex2 q hq).1, List.forall_mem_cons.mpr ⟨hI12, fun q hq => nomatch hq⟩⟩⟩⟩⟩
              intro h4 aQ2 fZ nZ haQ2
              clear fQ nQ offQ
              k_extra "lx"
              exact ⟨_, _, _, [(s₁.heap.objs.size + 1 + 1 + 1 + 1 + 1 + 1 + 1 + 1 + 1 + 1 + 1 + 1, oW), (s₁.heap.objs.size + 1 + 1 + 1 + 1 + 1 + 1 + 1 + 1 + 1 + 1 + 1, oD), (s₁.heap.objs.size + 1 + 1 + 1 + 1 + 1 + 1 + 1 + 1 + 1 + 1, oI), (s₁.heap.objs.size + 1 + 1 + 1 + 1 + 1 + 1 + 1 + 1 + 1, oG), (s₁.heap.objs.size + 1 + 1 + 1 + 1 + 1 + 1 + 1 + 1, aT), (s₁.heap.objs.size + 1 + 1 + 1 + 1 + 1 + 1 + 1, aO), (s₁.heap.objs.size + 1 + 1 + 1 + 1 + 1 + 1, aM), (s₁.heap.objs.size + 1 + 1 + 1 + 1 + 1, aJ), (s₁.heap.objs.size + 1 + 1 + 1 + 1, ai), (s₁.heap.objs.size + 1 + 1 + 1, aY2), (s₁.heap.objs.size + 1 + 1, aQ2), (s₁.heap.objs.size + 1, aP2)] ++ ((DS, listOf ws.toArray 0) :: (Dq2, LCg.lst ys) :: (Dp2, LCg.lst pus) :: ex2), rfl, fZ, cb_drop nZ (by k_places), aP2, aQ2, aY2, ai, aJ, aM, aO, aT, Dp2, Dq2, pus, ys, ex2, _, _, p.map (fun k => (k + 1 + (xv.fdiv 4).fmod 5).fmod 6), rfl, haP2, haQ2, ⟨_, haY2⟩, ⟨_, hai⟩, ⟨_, haJ⟩, ⟨_, haM⟩, ⟨_, haO⟩, ⟨_, haT⟩, hO2, hqI, perm_map hperm (fun k h => ⟨Int.fmod_nonneg_of_pos _ (by decide), Int.fmod_lt_of_pos _ (by decide)⟩) (fun a b ha hb h => shift_inj ha hb (by rw [Int.add_assoc, Int.add_assoc] at h; exact h)), List.forall_mem_cons.mpr ⟨hDq2', List.forall_mem_cons.mpr ⟨hDp2, hex2⟩⟩⟩
        · have y3 : 0 ≤ ((xv.fdiv 4).fmod 3) ∧ ((xv.fdiv 4).fmod 3) < 3 := ⟨Int.fmod_nonneg_of_pos _ (by decide), Int.fmod_lt_of_pos _ (by decide)⟩
          rename Fr _ _ _ _ => fL
          rename News _ _ _ _ => nL
          dsimp only at nL ⊢
          refine pick3_tail nL y3 ?_
          intro TM a b c ta tb tc nM hmir
          obtain ⟨ha3, hb3, hc3⟩ := mir_in hmir
          clear nL
          k_extra "lx"
          rename Fr _ _ _ _ => fA
          rename News _ _ _ _ => nA
          refine store_4 fA (cb_drop (news := [(s₁.heap.objs.size + 1 + 1 + 1 + 1 + 1 + 1 + 1 + 1 + 1 + 1 + 1 + 1, oW), (s₁.heap.objs.size + 1 + 1 + 1 + 1 + 1 + 1 + 1 + 1 + 1 + 1 + 1, oD), (s₁.heap.objs.size + 1 + 1 + 1 + 1 + 1 + 1 + 1 + 1 + 1 + 1, oI), (s₁.heap.objs.size + 1 + 1 + 1 + 1 + 1 + 1 + 1 + 1 + 1, oG), (s₁.heap.objs.size + 1 + 1 + 1 + 1 + 1 + 1 + 1 + 1, aT), (s₁.heap.objs.size + 1 + 1 + 1 + 1 + 1 + 1 + 1, aO), (s₁.heap.objs.size + 1 + 1 + 1 + 1 + 1 + 1, aM), (s₁.heap.objs.size + 1 + 1 + 1 + 1 + 1, aJ), (s₁.heap.objs.size + 1 + 1 + 1 + 1, ai), (s₁.heap.objs.size + 1 + 1 + 1, aY2), (s₁.heap.objs.size + 1 + 1, aQ), (s₁.heap.objs.size + 1, aP)] ++ ((DS, listOf ws.toArray 0) :: (Dq', listOf (List.toArray qs') cq) :: (Dp', listOf (List.toArray us) cp) :: (ex' ++ [(hS.objs.size, oX)]))) nA (by k_places)) hrest (by rfl) hai ?_
          intro h3 ai2 fB nB hai2
          clear fA nA
          k_extra "lx"
          refine store_5 fB nB hrest (by rfl) haJ ?_
          intro h4 aJ2 fA nA haJ2
          clear fB nB
          k_extra "lx"
          refine store_6 fA nA hrest (by rfl) haM ?_
          intro h5 aM2 fB nB haM2
          clear fA nA
          k_extra "lx"
          refine wpAny_Assign_Name ?_ (by with_unfolding_all rfl)
          k_dflt (refine LCg.ListComp_U (F₀ := by k_asm) (by with_unfolding_all rfl) (by decide) (by rfl) (by decide) (by rfl) ?_)
          k_extra "lx"
          refine LCg.CompSrc.ledger (by rfl) (by k_asm) (by k_asm) (show (Dp', listOf (List.toArray us) cp) ∈ _ by kat_tups) (by rw [List.size_toArray, hpa.1, hperm.1]; exact Nat.le_of_ble_eq_true rfl) ?_
          intro g5
          refine comp_items (xs := p) (fun k v => ∃ (T : Addr) (v1 v2 v3 : Value), v = .ref T ∧ (T, ({ cls := .type "tuple", data := .seq #[v1, v2, v3] } : Obj)) ∈ ex' ∧ colRv k v1 v2 v3) hpa.1 (fun i k v h1 h2 => hpa.items hperm.2.1 i k v h1 h2) (fun pre ys ex2 => Paints (pre.map fun k => (mirC ((xv.fdiv 4).fmod 3) - k).fmod 6) ys ex2 ∧ ∀ q ∈ ex2, OffC s₁.heap.objs.size q.1 ∧ q.1 ≠ hS.objs.size) ⟨Paints.nil, fun q hq => nomatch hq⟩ ?_ ?_
          · rintro pre k v I oI' C oC D m₂ zs ex2 h tk E' hmem ⟨T, v1, v2, v3, rfl, hT, ⟨t1, t2, t3, rfl, rfl, rfl, hk0, hk6⟩⟩ ⟨hO2, hex2⟩ hoC hx fE nE off ne
            dsimp only
            have nE2 := cb_drop (news := (T, ({ cls := .type "tuple", data := .seq #[Value.float (colF k).1 t1, Value.float (colF k).2.1 t2, Value.float (colF k).2.2 t3] } : Obj)) :: (s₁.heap.objs.size + 1 + 1 + 1 + 1, ai2) :: (s₁.heap.objs.size + 1 + 1 + 1 + 1 + 1, aJ2) :: (s₁.heap.objs.size + 1 + 1 + 1 + 1 + 1 + 1, aM2) :: _) nE (List.forall_mem_cons.mpr ⟨(by kat_tups), List.forall_mem_cons.mpr ⟨(by kat_tups), List.forall_mem_cons.mpr ⟨(by kat_tups), List.forall_mem_cons.mpr ⟨(by kat_tups), fun q hq => hq⟩⟩⟩⟩)
            clear nE
            k_extra "lx"
            rename News _ _ _ _ => nT1
            refine tup_item (News.isTup nT1 (.head _)) ha3 ?_
            k_extra "lx"
            rename News _ _ _ _ => nT2
            refine tup_item (News.isTup nT2 (.head _)) hb3 ?_
            k_extra "lx"
            rename News _ _ _ _ => nT3
            refine tup_item (News.isTup nT3 (.head _)) hc3 ?_
            k_extra "lx"
            rename_i T9 h9 f9 n9 l9
            obtain ⟨u1, u2, u3, c1, c2, c3⟩ := sel_col (t1 := t1) (t2 := t2) (t3 := t3) hk0 hk6 hmir
            rw [c1, c2, c3] at n9
            have lo9 : s₁.heap.objs.size + 1 + 1 + 1 + 1 + 1 + 1 + 1 + 1 + 1 + 1 + 1 + 1 < T9 := kst_ltOf l9.2.2.2.2.2.2.2 (s₁.heap.objs.size + 1 + 1 + 1 + 1 + 1 + 1 + 1 + 1 + 1 + 1 + 1 + 1, oW) (by kat_tups)
            have li9 : hS.objs.size < T9 := kst_ltOf l9.2.2.2.2.2.2.2 (hS.objs.size, oX) (by kat_tups)
            exact LCg.CompEnd.intro f9 n9 ((T9, tup3 _ u1 _ u2 _ u3) :: ex2 ++ _) (sub_cons (.tail _ (.tail _ (.tail _ (.tail _ (.tail _ (.head _)))))) (sub_cons (.tail _ (.tail _ (.tail _ (.tail _ (.tail _ (.tail _ (.head _))))))) (sub_cons (.tail _ (.tail _ (.tail _ (.tail _ (.tail _ (.tail _ (.tail _ (.head _)))))))) (sub_cons (.head _) fun q hq => .tail _ (.tail _ (.tail _ (.tail _ (.tail _ (.tail _ (.tail _ (.tail _ hq))))))))))) ⟨⟨Nat.ne_of_gt l9.2.2.2.2.1, Nat.ne_of_gt l9.2.2.2.2.2.1, Nat.ne_of_gt l9.2.2.2.2.2.2.1⟩, off⟩ (Or.inr ⟨listOf (List.toArray us) cp, by kat_tups, rfl, _, rfl⟩) ⟨(T9, tup3 _ u1 _ u2 _ u3) :: ex2, rfl, (by rw [List.map_append]; exact hO2.snoc), List.forall_mem_cons.mpr ⟨⟨offC_lt lo9, Nat.ne_of_gt li9⟩, hex2⟩⟩
          · rintro zs ex2 ⟨hO2, hex2⟩
            k_extra "lx"
            rename_i Dp2 hp2 tkp fP nP offP
            have hDp2 : OffC s₁.heap.objs.size Dp2 ∧ Dp2 ≠ hS.objs.size := ⟨offC_of (o1 := aP) (o2 := aQ) (o3 := aY2) (o4 := ai2) (o5 := aJ2) (o6 := aM2) (o7 := aO) (o8 := aT) (o9 := oG) (o10 := oI) (o11 := oD) (o12 := oW) (fun q hq => off1_mem offP q (List.mem_append_right _ (List.mem_append_left ((DS, listOf ws.toArray 0) :: (Dq', listOf (List.toArray qs') cq) :: (Dp', listOf (List.toArray us) cp) :: (ex' ++ [(hS.objs.size, oX)])) hq))), Ne.symm (off1_mem offP (hS.objs.size, oX) (by kat_tups))⟩
            clear offP
            have hrest3 : ∀ q ∈ (Dp2, LCg.lst zs) :: (ex2 ++ ((DS, listOf ws.toArray 0) :: (Dq', listOf (List.toArray qs') cq) :: (Dp', listOf (List.toArray us) cp) :: (ex' ++ [(hS.objs.size, oX)]))), OffC s₁.heap.objs.size q.1 := List.forall_mem_cons.mpr ⟨hDp2.1, List.forall_mem_append.mpr ⟨fun q hq => (hex2 q hq).1, hrest⟩⟩
            refine store_1 fP (cb_drop (news := [(s₁.heap.objs.size + 1 + 1 + 1 + 1 + 1 + 1 + 1 + 1 + 1 + 1 + 1 + 1, oW), (s₁.heap.objs.size + 1 + 1 + 1 + 1 + 1 + 1 + 1 + 1 + 1 + 1 + 1, oD), (s₁.heap.objs.size + 1 + 1 + 1 + 1 + 1 + 1 + 1 + 1 + 1 + 1, oI), (s₁.heap.objs.size + 1 + 1 + 1 + 1 + 1 + 1 + 1 + 1 + 1, oG), (s₁.heap.objs.size + 1 + 1 + 1 + 1 + 1 + 1 + 1 + 1, aT), (s₁.heap.objs.size + 1 + 1 + 1 + 1 + 1 + 1 + 1, aO), (s₁.heap.objs.size + 1 + 1 + 1 + 1 + 1 + 1, aM2), (s₁.heap.objs.size + 1 + 1 + 1 + 1 + 1, aJ2), (s₁.heap.objs.size + 1 + 1 + 1 + 1, ai2), (s₁.heap.objs.size + 1 + 1 + 1, aY2), (s₁.heap.objs.size + 1 + 1, aQ), (s₁.heap.objs.size + 1, aP)] ++ ((Dp2, LCg.lst zs) :: (ex2 ++ ((DS, listOf ws.toArray 0) :: (Dq', listOf (List.toArray qs') cq) :: (Dp', listOf (List.toArray us) cp) :: (ex' ++ [(hS.objs.size, oX)]))))) nP (by k_places)) hrest3 (by rfl) haP ?_
            intro h6 aP2 fA nA haP2
            clear fP nP
            k_extra "lx"
            refine wpAny_Assign_Name ?_ (by with_unfolding_all rfl)
            k_dflt (refine LCg.ListComp_U (F₀ := by k_asm) (by with_unfolding_all rfl) (by decide) (by rfl) (by decide) (by rfl) ?_)
            k_extra "lx"
            rename IntsAre qs' p => hpq
            refine LCg.CompSrc.ledger (by rfl) (by k_asm) (by k_asm) (show (Dq', listOf (List.toArray qs') cq) ∈ _ by kat_tups) (by rw [List.size_toArray, hpq.length, hperm.1]; exact Nat.le_of_ble_eq_true rfl) ?_
            intro g6
            refine kcf_list (fun k => (mirC ((xv.fdiv 4).fmod 3) - k).fmod 6) hpq (fun k t I oI' C oC D m₂ ws2 h tk E' hk' hC hx fE nE off ne mk => ?_) ?_
            · dsimp only
              k_extra "lx"
              rename News _ _ _ _ => nE2
              try dsimp only at nE2 ⊢
              refine ints_item (ns := [2, 4, 0]) (News.isList nE2 (.head _)) (.cons 2 _ (.cons 4 _ (.cons 0 _ .nil))) y3.1 (by exact y3.2) (Int.lt_trans y3.2 (by decide)) ?_
              intro tq
              k_extra "lx"
              rename News _ _ _ _ => nE3
              exact LCg.CompEnd.intro (by assumption) nE3 _ (fun q hq => .tail _ hq) off (.inr ⟨listOf (List.toArray qs') cq, by kat_tups, rfl, _, rfl⟩) (kcf_el rfl rfl rfl)
            · k_extra "lx"
              rename_i _ Dq2 hq2 tkq fQ nQ offQ
              rename IntsAre _ (List.map _ _) => hqI
              have hDq2' : OffC s₁.heap.objs.size Dq2 ∧ Dq2 ≠ hS.objs.size := by
                have hal := off1_mem (l := [(s₁.heap.objs.size + 1 + 1 + 1 + 1 + 1 + 1 + 1 + 1 + 1 + 1 + 1 + 1, oW), (s₁.heap.objs.size + 1 + 1 + 1 + 1 + 1 + 1 + 1 + 1 + 1 + 1 + 1, oD), (s₁.heap.objs.size + 1 + 1 + 1 + 1 + 1 + 1 + 1 + 1 + 1 + 1, oI), (s₁.heap.objs.size + 1 + 1 + 1 + 1 + 1 + 1 + 1 + 1 + 1, oG), (s₁.heap.objs.size + 1 + 1 + 1 + 1 + 1 + 1 + 1 + 1, aT), (s₁.heap.objs.size + 1 + 1 + 1 + 1 + 1 + 1 + 1, aO), (s₁.heap.objs.size + 1 + 1 + 1 + 1 + 1 + 1, aM2), (s₁.heap.objs.size + 1 + 1 + 1 + 1 + 1, aJ2), (s₁.heap.objs.size + 1 + 1 + 1 + 1, ai2), (s₁.heap.objs.size + 1 + 1 + 1, aY2), (s₁.heap.objs.size + 1 + 1, aQ), (s₁.heap.objs.size + 1, aP2)] ++ ((Dp2, LCg.lst zs) :: (ex2 ++ ((DS, listOf ws.toArray 0) :: (Dq', listOf (List.toArray qs') cq) :: (Dp', listOf (List.toArray us) cp) :: (ex' ++ [(hS.objs.size, oX)]))))) offQ
                exact ⟨offC_of (o1 := aP2) (o2 := aQ) (o3 := aY2) (o4 := ai2) (o5 := aJ2) (o6 := aM2) (o7 := aO) (o8 := aT) (o9 := oG) (o10 := oI) (o11 := oD) (o12 := oW) (fun q hq => hal q (List.mem_append_left _ hq)), Ne.symm (hal (hS.objs.size, oX) (by kat_tups))⟩
              refine store_2 fQ (cb_drop (news := [(s₁.heap.objs.size + 1 + 1 + 1 + 1 + 1 + 1 + 1 + 1 + 1 + 1 + 1 + 1, oW), (s₁.heap.objs.size + 1 + 1 + 1 + 1 + 1 + 1 + 1 + 1 + 1 + 1 + 1, oD), (s₁.heap.objs.size + 1 + 1 + 1 + 1 + 1 + 1 + 1 + 1 + 1 + 1, oI), (s₁.heap.objs.size + 1 + 1 + 1 + 1 + 1 + 1 + 1 + 1 + 1, oG), (s₁.heap.objs.size + 1 + 1 + 1 + 1 + 1 + 1 + 1 + 1, aT), (s₁.heap.objs.size + 1 + 1 + 1 + 1 + 1 + 1 + 1, aO), (s₁.heap.objs.size + 1 + 1 + 1 + 1 + 1 + 1, aM2), (s₁.heap.objs.size + 1 + 1 + 1 + 1 + 1, aJ2), (s₁.heap.objs.size + 1 + 1 + 1 + 1, ai2), (s₁.heap.objs.size + 1 + 1 + 1, aY2), (s₁.heap.objs.size + 1 + 1, aQ), (s₁.heap.objs.size + 1, aP2)] ++ ((Dq2, LCg.lst ys) :: (Dp2, LCg.lst zs) :: (ex2 ++ ((DS, listOf ws.toArray 0) :: (Dq', listOf (List.toArray qs') cq) :: (Dp', listOf (List.toArray us) cp) :: (ex' ++ [(hS.objs.size, oX)]))))) nQ (by k_places)) (List.forall_mem_cons.mpr ⟨hDq2'.1, hrest3⟩) (by rfl) haQ ?_
              intro h7 aQ2 fZ nZ haQ2
              clear fQ nQ offQ
              k_extra "lx"
              exact ⟨_, _, _, [(s₁.heap.objs.size + 1 + 1 + 1 + 1 + 1 + 1 + 1 + 1 + 1 + 1 + 1 + 1, oW), (s₁.heap.objs.size + 1 + 1 + 1 + 1 + 1 + 1 + 1 + 1 + 1 + 1 + 1, oD), (s₁.heap.objs.size + 1 + 1 + 1 + 1 + 1 + 1 + 1 + 1 + 1 + 1, oI), (s₁.heap.objs.size + 1 + 1 + 1 + 1 + 1 + 1 + 1 + 1 + 1, oG), (s₁.heap.objs.size + 1 + 1 + 1 + 1 + 1 + 1 + 1 + 1, aT), (s₁.heap.objs.size + 1 + 1 + 1 + 1 + 1 + 1 + 1, aO), (s₁.heap.objs.size + 1 + 1 + 1 + 1 + 1 + 1, aM2), (s₁.heap.objs.size + 1 + 1 + 1 + 1 + 1, aJ2), (s₁.heap.objs.size + 1 + 1 + 1 + 1, ai2), (s₁.heap.objs.size + 1 + 1 + 1, aY2), (s₁.heap.objs.size + 1 + 1, aQ2), (s₁.heap.objs.size + 1, aP2)] ++ ((DS, listOf ws.toArray 0) :: (Dq2, LCg.lst ys) :: (Dp2, LCg.lst zs) :: ex2), rfl, fZ, cb_drop nZ (by k_places), aP2, aQ2, aY2, ai2, aJ2, aM2, aO, aT, Dp2, Dq2, zs, ys, ex2, _, _, p.map (fun k => (mirC ((xv.fdiv 4).fmod 3) - k).fmod 6), rfl, haP2, haQ2, ⟨_, haY2⟩, ⟨_, hai2⟩, ⟨_, haJ2⟩, ⟨_, haM2⟩, ⟨_, haO⟩, ⟨_, haT⟩, hO2, hqI, perm_map hperm (fun k h => ⟨Int.fmod_nonneg_of_pos _ (by decide), Int.fmod_lt_of_pos _ (by decide)⟩) (fun a b ha hb h => shift_inj2 ha hb h), List.forall_mem_cons.mpr ⟨hDq2', List.forall_mem_cons.mpr ⟨hDp2, hex2⟩⟩⟩
        · refine wpAny_Assign_Name ?_ (by with_unfolding_all rfl)
          refine comp3 (h₀ := s₁.heap) (L := s₁.heap.objs.size) (m := fun y => if y = Str.ofString "x" then some (Value.int xv tx) else m2 y) colRv (fun pre ys ex2 => Paints (pre.map fun k => (k + 3).fmod 6) ys ex2 ∧ ∀ q ∈ ex2, OffC s₁.heap.objs.size q.1 ∧ q.1 ≠ hS.objs.size) (by with_unfolding_all rfl) (by decide) (by rfl) (by decide) (by rfl) (by rfl) (by rfl) (by decide) (by decide) (by decide) ?_
          k_extra "one"
          rename Fr _ _ _ _ => fC
          rename News _ _ _ _ => nC
          refine ⟨Dp', us, cp, _, p, rfl, rfl, fC, nC, (by kat_tups), hpa.1, (by rw [hpa.1, hperm.1]; exact Nat.le_of_ble_eq_true rfl), fun i k v h1 h2 => ?_, ⟨Paints.nil, fun q hq => nomatch hq⟩, ?_, ?_⟩
          · obtain ⟨T, v1, v2, v3, e, hm, hr⟩ := hpa.items hperm.2.1 i k v h1 h2
            exact ⟨T, v1, v2, v3, e, (by kat_tups), hr⟩
          · rintro pre k v1 v2 v3 I oI' C oC D m₂ ys ex2 h tk E' hmem ⟨t1, t2, t3, rfl, rfl, rfl, hk0, hk6⟩ ⟨hO2, hex2⟩ hoC hx1 hx2 hx3 fE nE off ne
            clear fC nC
            dsimp only
            k_extra "lx"
            rename_i T9 h9 f9 n9 l9
            obtain ⟨c1, c2, c3⟩ := neg_col k hk0 hk6
            rw [c1, c2, c3] at n9
            obtain ⟨ta, tb, tc, n9⟩ := head_tup n9
            have lo9 : s₁.heap.objs.size + 1 + 1 + 1 + 1 + 1 + 1 + 1 + 1 + 1 + 1 + 1 + 1 < T9 := kst_ltOf l9.2.2.2 (s₁.heap.objs.size + 1 + 1 + 1 + 1 + 1 + 1 + 1 + 1 + 1 + 1 + 1 + 1, oW) (by kat_tups)
            have li9 : hS.objs.size < T9 := kst_ltOf l9.2.2.2 (hS.objs.size, oX) (by kat_tups)
            have l9I := l9.1
            have l9C := l9.2.1
            have l9D := l9.2.2.1
            refine LCg.CompEnd.intro f9 n9 ((T9, tup3 _ ta _ tb _ tc) :: ex2 ++ _) (sub_cons (.tail _ (.head _)) (sub_cons (.tail _ (.tail _ (.head _))) (sub_cons (.tail _ (.tail _ (.tail _ (.head _)))) (sub_cons (.head _) fun q hq => .tail _ (.tail _ (.tail _ (.tail _ hq))))))) ⟨⟨Nat.ne_of_gt l9I, Nat.ne_of_gt l9C, Nat.ne_of_gt l9D⟩, off⟩ trivial ⟨(T9, tup3 _ ta _ tb _ tc) :: ex2, rfl, (by rw [List.map_append]; exact hO2.snoc), List.forall_mem_cons.mpr ⟨⟨offC_lt lo9, Nat.ne_of_gt li9⟩, hex2⟩⟩

          · rintro pus ex2 Dp2 h tk ⟨hO2, hex2⟩ fE nE offE
            clear fC nC
            have hDp2 : OffC s₁.heap.objs.size Dp2 ∧ Dp2 ≠ hS.objs.size := ⟨offC_of (o1 := aP) (o2 := aQ) (o3 := aY2) (o4 := ai) (o5 := aJ) (o6 := aM) (o7 := aO) (o8 := aT) (o9 := oG) (o10 := oI) (o11 := oD) (o12 := oW) (fun q hq => off1_mem offE q (List.mem_append_right _ (in_l hq))), Ne.symm (off1_mem offE (hS.objs.size, oX) (by kat_tups))⟩
            refine store_1 fE (cb_drop (news := [(s₁.heap.objs.size + 1 + 1 + 1 + 1 + 1 + 1 + 1 + 1 + 1 + 1 + 1 + 1, oW), (s₁.heap.objs.size + 1 + 1 + 1 + 1 + 1 + 1 + 1 + 1 + 1 + 1 + 1, oD), (s₁.heap.objs.size + 1 + 1 + 1 + 1 + 1 + 1 + 1 + 1 + 1 + 1, oI), (s₁.heap.objs.size + 1 + 1 + 1 + 1 + 1 + 1 + 1 + 1 + 1, oG), (s₁.heap.objs.size + 1 + 1 + 1 + 1 + 1 + 1 + 1 + 1, aT), (s₁.heap.objs.size + 1 + 1 + 1 + 1 + 1 + 1 + 1, aO), (s₁.heap.objs.size + 1 + 1 + 1 + 1 + 1 + 1, aM), (s₁.heap.objs.size + 1 + 1 + 1 + 1 + 1, aJ), (s₁.heap.objs.size + 1 + 1 + 1 + 1, ai), (s₁.heap.objs.size + 1 + 1 + 1, aY2), (s₁.heap.objs.size + 1 + 1, aQ), (s₁.heap.objs.size + 1, aP)] ++ ((DS, listOf ws.toArray 0) :: (Dq', listOf (List.toArray qs') cq) :: (Dp2, LCg.lst pus) :: (ex2 ++ [(hS.objs.size, oX)]))) nE (by k_places)) ?_ (by rfl) haP ?_
            · exact List.forall_mem_cons.mpr ⟨hDS, List.forall_mem_cons.mpr ⟨(hoff _ (.head _)).1, List.forall_mem_cons.mpr ⟨hDp2.1, List.forall_mem_append.mpr ⟨fun q hq => (hex2 q hq).1, List.forall_mem_cons.mpr ⟨hI12, fun q hq => nomatch hq⟩⟩⟩⟩⟩
            intro h3 aP2 fD nD haP2
            clear fE nE offE
            k_extra "lx"
            refine wpAny_Assign_Name ?_ (by with_unfolding_all rfl)
            k_dflt (refine LCg.ListComp_U (F₀ := by k_asm) (by with_unfolding_all rfl) (by decide) (by rfl) (by decide) (by rfl) ?_)
            k_extra "lx"
            rename IntsAre qs' p => hpq
            refine LCg.CompSrc.ledger (by rfl) (by k_asm) (by k_asm) (by k_mem) (by rw [List.size_toArray, hpq.length, hperm.1]; exact Nat.le_of_ble_eq_true rfl) ?_
            intro g4
            refine kcf_list (fun k => (k + 3).fmod 6) hpq (fun k t I oI' C oC D m₂ ys h tk E' hk' hC hx fE nE off ne mk => ?_) ?_
            · dsimp only
              k_extra "lx"
              rename News _ _ _ _ => nE2
              exact LCg.CompEnd.intro (by assumption) nE2 _ (fun p hp => hp) off (.inr ⟨listOf (List.toArray qs') cq, by kat_tups, rfl, _, rfl⟩) (kcf_el rfl rfl rfl)
            · k_extra "lx"
              rename_i _ Dq2 hq2 tkq fQ nQ offQ
              rename IntsAre ys _ => hqI
              have hDq2' : OffC s₁.heap.objs.size Dq2 ∧ Dq2 ≠ hS.objs.size := by
                have hal : ∀ q ∈ [(s₁.heap.objs.size + 1 + 1 + 1 + 1 + 1 + 1 + 1 + 1 + 1 + 1 + 1 + 1, oW), (s₁.heap.objs.size + 1 + 1 + 1 + 1 + 1 + 1 + 1 + 1 + 1 + 1 + 1, oD), (s₁.heap.objs.size + 1 + 1 + 1 + 1 + 1 + 1 + 1 + 1 + 1 + 1, oI), (s₁.heap.objs.size + 1 + 1 + 1 + 1 + 1 + 1 + 1 + 1 + 1, oG), (s₁.heap.objs.size + 1 + 1 + 1 + 1 + 1 + 1 + 1 + 1, aT), (s₁.heap.objs.size + 1 + 1 + 1 + 1 + 1 + 1 + 1, aO), (s₁.heap.objs.size + 1 + 1 + 1 + 1 + 1 + 1, aM), (s₁.heap.objs.size + 1 + 1 + 1 + 1 + 1, aJ), (s₁.heap.objs.size + 1 + 1 + 1 + 1, ai), (s₁.heap.objs.size + 1 + 1 + 1, aY2), (s₁.heap.objs.size + 1 + 1, aQ), (s₁.heap.objs.size + 1, aP2)] ++ ((DS, listOf ws.toArray 0) :: (Dq', listOf (List.toArray qs') cq) :: (Dp2, LCg.lst pus) :: (ex2 ++ [(hS.objs.size, oX)])), q.1 ≠ Dq2 := off1_mem offQ
                exact ⟨offC_of (o1 := aP2) (o2 := aQ) (o3 := aY2) (o4 := ai) (o5 := aJ) (o6 := aM) (o7 := aO) (o8 := aT) (o9 := oG) (o10 := oI) (o11 := oD) (o12 := oW) (fun q hq => hal q (List.mem_append_left _ hq)), Ne.symm (hal (hS.objs.size, oX) (by kat_tups))⟩
              refine store_2 fQ (cb_drop (news := [(s₁.heap.objs.size + 1 + 1 + 1 + 1 + 1 + 1 + 1 + 1 + 1 + 1 + 1 + 1, oW), (s₁.heap.objs.size + 1 + 1 + 1 + 1 + 1 + 1 + 1 + 1 + 1 + 1 + 1, oD), (s₁.heap.objs.size + 1 + 1 + 1 + 1 + 1 + 1 + 1 + 1 + 1 + 1, oI), (s₁.heap.objs.size + 1 + 1 + 1 + 1 + 1 + 1 + 1 + 1 + 1, oG), (s₁.heap.objs.size + 1 + 1 + 1 + 1 + 1 + 1 + 1 + 1, aT), (s₁.heap.objs.size + 1 + 1 + 1 + 1 + 1 + 1 + 1, aO), (s₁.heap.objs.size + 1 + 1 + 1 + 1 + 1 + 1, aM), (s₁.heap.objs.size + 1 + 1 + 1 + 1 + 1, aJ), (s₁.heap.objs.size + 1 + 1 + 1 + 1, ai), (s₁.heap.objs.size + 1 + 1 + 1, aY2), (s₁.heap.objs.size + 1 + 1, aQ), (s₁.heap.objs.size + 1, aP2)] ++ ((DS, listOf ws.toArray 0) :: (Dq2, LCg.lst ys) :: (Dp2, LCg.lst pus) :: (ex2 ++ [(hS.objs.size, oX)]))) nQ (by k_places)) ?_ (by rfl) haQ ?_
              · exact List.forall_mem_cons.mpr ⟨hDS, List.forall_mem_cons.mpr ⟨hDq2'.1, List.forall_mem_cons.mpr ⟨hDp2.1, List.forall_mem_append.mpr ⟨fun q hq => (hex2 q hq).1, List.forall_mem_cons.mpr ⟨hI12, fun q hq => nomatch hq⟩⟩⟩⟩⟩
              intro h4 aQ2 fZ nZ haQ2
              clear fQ nQ offQ
              k_extra "lx"
              exact ⟨_, _, _, [(s₁.heap.objs.size + 1 + 1 + 1 + 1 + 1 + 1 + 1 + 1 + 1 + 1 + 1 + 1, oW), (s₁.heap.objs.size + 1 + 1 + 1 + 1 + 1 + 1 + 1 + 1 + 1 + 1 + 1, oD), (s₁.heap.objs.size + 1 + 1 + 1 + 1 + 1 + 1 + 1 + 1 + 1 + 1, oI), (s₁.heap.objs.size + 1 + 1 + 1 + 1 + 1 + 1 + 1 + 1 + 1, oG), (s₁.heap.objs.size + 1 + 1 + 1 + 1 + 1 + 1 + 1 + 1, aT), (s₁.heap.objs.size + 1 + 1 + 1 + 1 + 1 + 1 + 1, aO), (s₁.heap.objs.size + 1 + 1 + 1 + 1 + 1 + 1, aM), (s₁.heap.objs.size + 1 + 1 + 1 + 1 + 1, aJ), (s₁.heap.objs.size + 1 + 1 + 1 + 1, ai), (s₁.heap.objs.size + 1 + 1 + 1, aY2), (s₁.heap.objs.size + 1 + 1, aQ2), (s₁.heap.objs.size + 1, aP2)] ++ ((DS, listOf ws.toArray 0) :: (Dq2, LCg.lst ys) :: (Dp2, LCg.lst pus) :: ex2), rfl, fZ, cb_drop nZ (by k_places), aP2, aQ2, aY2, ai, aJ, aM, aO, aT, Dp2, Dq2, pus, ys, ex2, _, _, p.map (fun k => (k + 3).fmod 6), rfl, haP2, haQ2, ⟨_, haY2⟩, ⟨_, hai⟩, ⟨_, haJ⟩, ⟨_, haM⟩, ⟨_, haO⟩, ⟨_, haT⟩, hO2, hqI, perm_map hperm (fun k h => ⟨Int.fmod_nonneg_of_pos _ (by decide), Int.fmod_lt_of_pos _ (by decide)⟩) (fun a b ha hb h => shift_inj ha hb h), List.forall_mem_cons.mpr ⟨hDq2', List.forall_mem_cons.mpr ⟨hDp2, hex2⟩⟩⟩
        · have one6 : 0 ≤ ((xv.fdiv 4).fmod 6) ∧ ((xv.fdiv 4).fmod 6) < 6 := ⟨Int.fmod_nonneg_of_pos _ (by decide), Int.fmod_lt_of_pos _ (by decide)⟩
          have two6 : 0 ≤ (((xv.fdiv 4).fdiv 6).fmod 6) ∧ (((xv.fdiv 4).fdiv 6).fmod 6) < 6 := ⟨Int.fmod_nonneg_of_pos _ (by decide), Int.fmod_lt_of_pos _ (by decide)⟩
          rename Fr _ _ _ _ => fA
          rename News _ _ _ _ => nA
          refine store_7 fA (cb_drop (news := [(s₁.heap.objs.size + 1 + 1 + 1 + 1 + 1 + 1 + 1 + 1 + 1 + 1 + 1 + 1, oW), (s₁.heap.objs.size + 1 + 1 + 1 + 1 + 1 + 1 + 1 + 1 + 1 + 1 + 1, oD), (s₁.heap.objs.size + 1 + 1 + 1 + 1 + 1 + 1 + 1 + 1 + 1 + 1, oI), (s₁.heap.objs.size + 1 + 1 + 1 + 1 + 1 + 1 + 1 + 1 + 1, oG), (s₁.heap.objs.size + 1 + 1 + 1 + 1 + 1 + 1 + 1 + 1, aT), (s₁.heap.objs.size + 1 + 1 + 1 + 1 + 1 + 1 + 1, aO), (s₁.heap.objs.size + 1 + 1 + 1 + 1 + 1 + 1, aM), (s₁.heap.objs.size + 1 + 1 + 1 + 1 + 1, aJ), (s₁.heap.objs.size + 1 + 1 + 1 + 1, ai), (s₁.heap.objs.size + 1 + 1 + 1, aY2), (s₁.heap.objs.size + 1 + 1, aQ), (s₁.heap.objs.size + 1, aP)] ++ ((DS, listOf ws.toArray 0) :: (Dq', listOf (List.toArray qs') cq) :: (Dp', listOf (List.toArray us) cp) :: (ex' ++ [(hS.objs.size, oX)]))) nA (by k_places)) hrest (by rfl) haO ?_
          intro h3 aO2 fB nB haO2
          clear fA nA
          k_extra "lx"
          refine store_8 fB nB hrest (by rfl) haT ?_
          intro h4 aT2 fA nA haT2
          clear fB nB
          k_extra "lx"
          k_dflt (refine LCg.Assign_ListComp_U (F₀ := by k_asm) (by rfl) (by with_unfolding_all rfl) (by with_unfolding_all rfl) (by decide) (by rfl) (by decide) (by rfl) (by rfl) (by rfl) ?_)
          k_extra "lx"
          refine LCg.CompSrc.range (n := 6) (by rfl) (by k_asm) (by k_asm) (by assumption) (by decide) (by rfl) (by exact Nat.le_of_ble_eq_true rfl) ?_
          intro g4
          refine kcf_range (swapF ((xv.fdiv 4).fmod 6) (((xv.fdiv 4).fdiv 6).fmod 6)) (fun k t I oI' C oC D m₂ ys h tk E' hlo hhi hC hx fE nE off ne mk => ?_) ?_
          · dsimp only
            k_extra "lx"
            all_goals (rename News _ _ _ _ => nE2; refine LCg.CompEnd.intro (by assumption) nE2 _ (fun p hp => hp) off trivial (kcf_el ?_ rfl rfl); unfold swapF)
            · rw [if_pos (by assumption)]
            · rw [if_neg (by assumption), if_pos (by assumption)]
            · rw [if_neg (by assumption), if_neg (by assumption)]
          · k_extra "lx"
            rename_i _ Do ho tko fO nO offO
            obtain ⟨os, hos9⟩ : ∃ os, os = ys := ⟨_, rfl⟩
            subst hos9
            obtain ⟨ord, hord⟩ : ∃ ord, ord = List.map (swapF ((xv.fdiv 4).fmod 6) (((xv.fdiv 4).fdiv 6).fmod 6)) (rangeKs 0 6) := ⟨_, rfl⟩
            rename IntsAre os _ => hoI
            rw [← hord] at hoI
            have hop : IsPerm ord := hord ▸ swap_perm one6 two6
            have hol := hoI.length
            have hDo : OffC s₁.heap.objs.size Do := offC_of (o1 := aP) (o2 := aQ) (o3 := aY2) (o4 := ai) (o5 := aJ) (o6 := aM) (o7 := aO2) (o8 := aT2) (o9 := oG) (o10 := oI) (o11 := oD) (o12 := oW) (fun q hq => off1_mem (l := [(s₁.heap.objs.size + 1 + 1 + 1 + 1 + 1 + 1 + 1 + 1 + 1 + 1 + 1 + 1, oW), (s₁.heap.objs.size + 1 + 1 + 1 + 1 + 1 + 1 + 1 + 1 + 1 + 1 + 1, oD), (s₁.heap.objs.size + 1 + 1 + 1 + 1 + 1 + 1 + 1 + 1 + 1 + 1, oI), (s₁.heap.objs.size + 1 + 1 + 1 + 1 + 1 + 1 + 1 + 1 + 1, oG), (s₁.heap.objs.size + 1 + 1 + 1 + 1 + 1 + 1 + 1 + 1, aT2), (s₁.heap.objs.size + 1 + 1 + 1 + 1 + 1 + 1 + 1, aO2), (s₁.heap.objs.size + 1 + 1 + 1 + 1 + 1 + 1, aM), (s₁.heap.objs.size + 1 + 1 + 1 + 1 + 1, aJ), (s₁.heap.objs.size + 1 + 1 + 1 + 1, ai), (s₁.heap.objs.size + 1 + 1 + 1, aY2), (s₁.heap.objs.size + 1 + 1, aQ), (s₁.heap.objs.size + 1, aP)] ++ ((DS, listOf ws.toArray 0) :: (Dq', listOf (List.toArray qs') cq) :: (Dp', listOf (List.toArray us) cp) :: (ex' ++ [(hS.objs.size, oX)]))) offO q (List.mem_append_left _ hq))
            clear offO
            refine wpAny_Assign_Name ?_ (by with_unfolding_all rfl)
            k_dflt (refine LCg.ListComp_U (F₀ := by k_asm) (by with_unfolding_all rfl) (by decide) (by rfl) (by decide) (by rfl) ?_)
            k_extra "lx"
            refine LCg.CompSrc.ledger (by rfl) (by k_asm) (by k_asm) (.head _) (by rw [List.size_toArray, hol, hop.1]; exact Nat.le_of_ble_eq_true rfl) ?_
            intro g5
            refine comp_items (xs := ord) (fun k v => ∃ t, v = .int k t) hol (fun i k v h1 h2 => ?_) (fun pre zs ex2 => ex2 = [] ∧ zs = pre.map fun k => us.getD k.toNat .none) ⟨rfl, rfl⟩ ?_ ?_
            · obtain ⟨z, u, e1, e2⟩ := intsAt hoI h2
              rw [h1] at e1
              cases e1
              exact ⟨u, e2⟩
            · rintro pre k v I oI' C oC D m₂ zs ex2 h tk E' hmem ⟨t, rfl⟩ ⟨rfl, hzs⟩ hoC hx fE nE off ne
              dsimp only
              simp only [List.nil_append] at nE off
              have hk := hop.2.1 k hmem
              have hus := hpa.1
              have hpl := hperm.1
              k_extra "lx"
              rename News _ _ _ _ => nE2
              refine Mine2.item_list (News.isList nE2 (show (Dp', listOf (List.toArray us) cp) ∈ _ by kat_tups)) hk.1 (Int.lt_trans hk.2 (by decide)) (getD_at (toNat6 hk hus hpl)) (by with_unfolding_all rfl) ?_
              k_extra "lx"
              rename News _ _ _ _ => nE3
              exact LCg.CompEnd.intro (by assumption) nE3 _ (fun p hp => hp) off (Or.inr ⟨LCg.lst os, .head _, rfl, _, rfl⟩) ⟨[], rfl, rfl, by rw [hzs, List.map_append]; rfl⟩
            · rintro zs ex2 ⟨rfl, hzs⟩
              simp only [List.nil_append]
              k_extra "lx"
              rename_i Dp2 hp2 tkp fP nP offP
              have hDp2 : OffC s₁.heap.objs.size Dp2 ∧ Dp2 ≠ hS.objs.size := by
                have hal := off1_mem (l := (Do, LCg.lst os) :: ([(s₁.heap.objs.size + 1 + 1 + 1 + 1 + 1 + 1 + 1 + 1 + 1 + 1 + 1 + 1, oW), (s₁.heap.objs.size + 1 + 1 + 1 + 1 + 1 + 1 + 1 + 1 + 1 + 1 + 1, oD), (s₁.heap.objs.size + 1 + 1 + 1 + 1 + 1 + 1 + 1 + 1 + 1 + 1, oI), (s₁.heap.objs.size + 1 + 1 + 1 + 1 + 1 + 1 + 1 + 1 + 1, oG), (s₁.heap.objs.size + 1 + 1 + 1 + 1 + 1 + 1 + 1 + 1, aT2), (s₁.heap.objs.size + 1 + 1 + 1 + 1 + 1 + 1 + 1, aO2), (s₁.heap.objs.size + 1 + 1 + 1 + 1 + 1 + 1, aM), (s₁.heap.objs.size + 1 + 1 + 1 + 1 + 1, aJ), (s₁.heap.objs.size + 1 + 1 + 1 + 1, ai), (s₁.heap.objs.size + 1 + 1 + 1, aY2), (s₁.heap.objs.size + 1 + 1, aQ), (s₁.heap.objs.size + 1, aP)] ++ ((DS, listOf ws.toArray 0) :: (Dq', listOf (List.toArray qs') cq) :: (Dp', listOf (List.toArray us) cp) :: (ex' ++ [(hS.objs.size, oX)])))) offP
                exact ⟨offC_of (o1 := aP) (o2 := aQ) (o3 := aY2) (o4 := ai) (o5 := aJ) (o6 := aM) (o7 := aO2) (o8 := aT2) (o9 := oG) (o10 := oI) (o11 := oD) (o12 := oW) (fun q hq => hal q (.tail _ (List.mem_append_left _ hq))), Ne.symm (hal (hS.objs.size, oX) (by kat_tups))⟩
              clear offP
              refine store_1 fP (cb_drop (news := [(s₁.heap.objs.size + 1 + 1 + 1 + 1 + 1 + 1 + 1 + 1 + 1 + 1 + 1 + 1, oW), (s₁.heap.objs.size + 1 + 1 + 1 + 1 + 1 + 1 + 1 + 1 + 1 + 1 + 1, oD), (s₁.heap.objs.size + 1 + 1 + 1 + 1 + 1 + 1 + 1 + 1 + 1 + 1, oI), (s₁.heap.objs.size + 1 + 1 + 1 + 1 + 1 + 1 + 1 + 1 + 1, oG), (s₁.heap.objs.size + 1 + 1 + 1 + 1 + 1 + 1 + 1 + 1, aT2), (s₁.heap.objs.size + 1 + 1 + 1 + 1 + 1 + 1 + 1, aO2), (s₁.heap.objs.size + 1 + 1 + 1 + 1 + 1 + 1, aM), (s₁.heap.objs.size + 1 + 1 + 1 + 1 + 1, aJ), (s₁.heap.objs.size + 1 + 1 + 1 + 1, ai), (s₁.heap.objs.size + 1 + 1 + 1, aY2), (s₁.heap.objs.size + 1 + 1, aQ), (s₁.heap.objs.size + 1, aP)] ++ ((Dp2, LCg.lst zs) :: (Do, LCg.lst os) :: ((DS, listOf ws.toArray 0) :: (Dq', listOf (List.toArray qs') cq) :: (Dp', listOf (List.toArray us) cp) :: (ex' ++ [(hS.objs.size, oX)])))) nP (by k_places)) (List.forall_mem_cons.mpr ⟨hDp2.1, List.forall_mem_cons.mpr ⟨hDo, hrest⟩⟩) (by rfl) haP ?_
              intro h6 aP2 fA nA haP2
              clear fP nP
              k_extra "lx"
              refine wpAny_Assign_Name ?_ (by with_unfolding_all rfl)
              k_dflt (refine LCg.ListComp_U (F₀ := by k_asm) (by with_unfolding_all rfl) (by decide) (by rfl) (by decide) (by rfl) ?_)
              k_extra "lx"
              rename IntsAre os ord => hoI
              rename IntsAre qs' p => hpq
              refine LCg.CompSrc.ledger (by rfl) (by k_asm) (by k_asm) (show (Do, LCg.lst os) ∈ _ by kat_tups) (by rw [List.size_toArray, hol, hop.1]; exact Nat.le_of_ble_eq_true rfl) ?_
              intro g6
              refine kcf_list (fun k => p.getD k.toNat 0) hoI (fun k t I oI' C oC D m₂ ws2 h tk E' hk' hC hx fE nE off ne mk => ?_) ?_
              · dsimp only
                have hk := hop.2.1 k hk'
                have hpl := hperm.1
                k_extra "lx"
                rename News _ _ _ _ => nE2
                rename IntsAre qs' p => hpq
                refine ints_at6 (News.isList nE2 (show (Dq', listOf (List.toArray qs') cq) ∈ _ by kat_tups)) hpq hpl hk.1 hk.2 ?_
                intro tq
                k_extra "lx"
                rename News _ _ _ _ => nE3
                exact LCg.CompEnd.intro (by assumption) nE3 _ (fun p hp => hp) off (.inr ⟨LCg.lst os, by kat_tups, rfl, _, rfl⟩) (kcf_el rfl rfl rfl)
              · k_extra "lx"
                rename_i _ Dq2 hq2 tkq fQ nQ offQ
                rename IntsAre _ (List.map _ _) => hqI
                have hDq2' : OffC s₁.heap.objs.size Dq2 ∧ Dq2 ≠ hS.objs.size := by
                  have hal := off1_mem (l := [(s₁.heap.objs.size + 1 + 1 + 1 + 1 + 1 + 1 + 1 + 1 + 1 + 1 + 1 + 1, oW), (s₁.heap.objs.size + 1 + 1 + 1 + 1 + 1 + 1 + 1 + 1 + 1 + 1 + 1, oD), (s₁.heap.objs.size + 1 + 1 + 1 + 1 + 1 + 1 + 1 + 1 + 1 + 1, oI), (s₁.heap.objs.size + 1 + 1 + 1 + 1 + 1 + 1 + 1 + 1 + 1, oG), (s₁.heap.objs.size + 1 + 1 + 1 + 1 + 1 + 1 + 1 + 1, aT2), (s₁.heap.objs.size + 1 + 1 + 1 + 1 + 1 + 1 + 1, aO2), (s₁.heap.objs.size + 1 + 1 + 1 + 1 + 1 + 1, aM), (s₁.heap.objs.size + 1 + 1 + 1 + 1 + 1, aJ), (s₁.heap.objs.size + 1 + 1 + 1 + 1, ai), (s₁.heap.objs.size + 1 + 1 + 1, aY2), (s₁.heap.objs.size + 1 + 1, aQ), (s₁.heap.objs.size + 1, aP2)] ++ ((Dp2, LCg.lst zs) :: (Do, LCg.lst os) :: ((DS, listOf ws.toArray 0) :: (Dq', listOf (List.toArray qs') cq) :: (Dp', listOf (List.toArray us) cp) :: (ex' ++ [(hS.objs.size, oX)])))) offQ
                  exact ⟨offC_of (o1 := aP2) (o2 := aQ) (o3 := aY2) (o4 := ai) (o5 := aJ) (o6 := aM) (o7 := aO2) (o8 := aT2) (o9 := oG) (o10 := oI) (o11 := oD) (o12 := oW) (fun q hq => hal q (List.mem_append_left _ hq)), Ne.symm (hal (hS.objs.size, oX) (by kat_tups))⟩
                refine store_2 fQ (cb_drop (news := [(s₁.heap.objs.size + 1 + 1 + 1 + 1 + 1 + 1 + 1 + 1 + 1 + 1 + 1 + 1, oW), (s₁.heap.objs.size + 1 + 1 + 1 + 1 + 1 + 1 + 1 + 1 + 1 + 1 + 1, oD), (s₁.heap.objs.size + 1 + 1 + 1 + 1 + 1 + 1 + 1 + 1 + 1 + 1, oI), (s₁.heap.objs.size + 1 + 1 + 1 + 1 + 1 + 1 + 1 + 1 + 1, oG), (s₁.heap.objs.size + 1 + 1 + 1 + 1 + 1 + 1 + 1 + 1, aT2), (s₁.heap.objs.size + 1 + 1 + 1 + 1 + 1 + 1 + 1, aO2), (s₁.heap.objs.size + 1 + 1 + 1 + 1 + 1 + 1, aM), (s₁.heap.objs.size + 1 + 1 + 1 + 1 + 1, aJ), (s₁.heap.objs.size + 1 + 1 + 1 + 1, ai), (s₁.heap.objs.size + 1 + 1 + 1, aY2), (s₁.heap.objs.size + 1 + 1, aQ), (s₁.heap.objs.size + 1, aP2)] ++ ((Dq2, LCg.lst ys) :: (Dp2, LCg.lst zs) :: (Do, LCg.lst os) :: ((DS, listOf ws.toArray 0) :: (Dq', listOf (List.toArray qs') cq) :: (Dp', listOf (List.toArray us) cp) :: (ex' ++ [(hS.objs.size, oX)])))) nQ (by k_places)) (List.forall_mem_cons.mpr ⟨hDq2'.1, List.forall_mem_cons.mpr ⟨hDp2.1, List.forall_mem_cons.mpr ⟨hDo, hrest⟩⟩⟩) (by rfl) haQ ?_
                intro h7 aQ2 fZ nZ haQ2
                clear fQ nQ offQ
                k_extra "lx"
                exact ⟨_, _, _, [(s₁.heap.objs.size + 1 + 1 + 1 + 1 + 1 + 1 + 1 + 1 + 1 + 1 + 1 + 1, oW), (s₁.heap.objs.size + 1 + 1 + 1 + 1 + 1 + 1 + 1 + 1 + 1 + 1 + 1, oD), (s₁.heap.objs.size + 1 + 1 + 1 + 1 + 1 + 1 + 1 + 1 + 1 + 1, oI), (s₁.heap.objs.size + 1 + 1 + 1 + 1 + 1 + 1 + 1 + 1 + 1, oG), (s₁.heap.objs.size + 1 + 1 + 1 + 1 + 1 + 1 + 1 + 1, aT2), (s₁.heap.objs.size + 1 + 1 + 1 + 1 + 1 + 1 + 1, aO2), (s₁.heap.objs.size + 1 + 1 + 1 + 1 + 1 + 1, aM), (s₁.heap.objs.size + 1 + 1 + 1 + 1 + 1, aJ), (s₁.heap.objs.size + 1 + 1 + 1 + 1, ai), (s₁.heap.objs.size + 1 + 1 + 1, aY2), (s₁.heap.objs.size + 1 + 1, aQ2), (s₁.heap.objs.size + 1, aP2)] ++ ((DS, listOf ws.toArray 0) :: (Dq2, LCg.lst ys) :: (Dp2, LCg.lst zs) :: ex'), rfl, fZ, cb_drop nZ (by k_places), aP2, aQ2, aY2, ai, aJ, aM, aO2, aT2, Dp2, Dq2, zs, ys, ex', _, _, ord.map (fun k => p.getD k.toNat 0), rfl, haP2, haQ2, ⟨_, haY2⟩, ⟨_, hai⟩, ⟨_, haJ⟩, ⟨_, haM⟩, ⟨_, haO2⟩, ⟨_, haT2⟩, hzs ▸ hpa.pick hperm.1 hop.2.1, hqI, perm_pick hop hperm, List.forall_mem_cons.mpr ⟨hDq2', List.forall_mem_cons.mpr ⟨hDp2, fun q hq => hoff q (.tail _ (.tail _ hq))⟩⟩⟩
      · rintro t h m2 nw ⟨aP, aQ, aY, ai, aJ, aM, aO, aT, Dp', Dq', us, qs', ex', cp, cq, p, rfl, haP, haQ, ⟨vY, haY⟩, ⟨vi, hai⟩, ⟨vJ, haJ⟩, ⟨vM, haM⟩, ⟨vO, haO⟩, ⟨vT, haT⟩, hpa, hpq, hperm, hoff⟩ fT nT
        clear fS nS2 hSI
        simp only [List.cons_append, List.nil_append] at nT
        have hoffR : ∀ q ∈ ((DS, listOf ws.toArray 0) :: (Dq', listOf (List.toArray qs') cq) :: (Dp', listOf (List.toArray us) cp) :: ex'), OffC s₁.heap.objs.size q.1 := List.forall_mem_cons.mpr ⟨hDS, fun q hq => (hoff q hq).1⟩
        clear hoff
        k_extra "lx"
        refine wpAny_Assign_Name ?_ (by with_unfolding_all rfl)
        refine comp3 (h₀ := s₁.heap) (L := s₁.heap.objs.size) (m := m2) colRv (fun pre ys ex2 => ex2 = [] ∧ IntsAre ys pre) (by with_unfolding_all rfl) (by decide) (by rfl) (by decide) (by rfl) (by rfl) (by rfl) (by decide) (by decide) (by decide) ?_
        k_extra "one"
        rename Fr _ _ _ _ => fC
        rename News _ _ _ _ => nC
        refine ⟨Dp', us, cp, _, p, rfl, rfl, fC, nC, (by kat_tups), hpa.1, (by rw [hpa.1, hperm.1]; exact Nat.le_of_ble_eq_true rfl), fun i k v h1 h2 => ?_, ⟨rfl, .nil⟩, ?_, ?_⟩
        · obtain ⟨T, v1, v2, v3, e, hm, hr⟩ := hpa.items hperm.2.1 i k v h1 h2
          exact ⟨T, v1, v2, v3, e, (by kat_tups), hr⟩
        · rintro pre k v1 v2 v3 I oI' C oC D m₂ ys ex2 h tk E' hmem ⟨t1, t2, t3, rfl, rfl, rfl, hk0, hk6⟩ ⟨rfl, hO2⟩ hoC hx1 hx2 hx3 fE nE off ne
          clear fC nC
          dsimp only
          simp only [List.nil_append] at nE off
          k_extra "lx"
          refine' hls_ok ⟨by k_asm, by k_asm, by k_asm, by k_asm, by k_asm, by first | exact rfl | assumption, by ktr_room, by ktr_units⟩ (hsv_col k hk0 hk6).2.2.2.2 ?_
          intro D8 b1 g8 b2 b8 b3 h8 tk8 F8 N8 l8
          k_extra "lx"
          refine' corner_ok ⟨by k_asm, by k_asm, by k_asm, by k_asm, by k_asm, by first | exact rfl | assumption, by ktr_room, by ktr_units⟩ (.head _) (hsv_col k hk0 hk6).2.1 (hsv_col k hk0 hk6).2.2.1 ?_
          intro b4 h7 tk7 F7 N7
          rw [(hsv_col k hk0 hk6).2.2.2.1]
          exact LCg.CompEnd.intro F7 N7 _ (fun q hq => .tail _ hq) off trivial ⟨[], rfl, rfl, hO2.append (.cons k _ .nil)⟩
        · rintro gs ex2 Dg h tk ⟨rfl, hgI⟩ fE nE offE
          clear fC nC
          simp only [List.nil_append] at nE offE
          have hDg : OffC s₁.heap.objs.size Dg := offC_of (o1 := aP) (o2 := aQ) (o3 := aY) (o4 := ai) (o5 := aJ) (o6 := aM) (o7 := aO) (o8 := aT) (o9 := oG) (o10 := oI) (o11 := oD) (o12 := oW) (fun q hq => off1_mem (l := [(s₁.heap.objs.size + 1 + 1 + 1 + 1 + 1 + 1 + 1 + 1 + 1 + 1 + 1 + 1, oW), (s₁.heap.objs.size + 1 + 1 + 1 + 1 + 1 + 1 + 1 + 1 + 1 + 1 + 1, oD), (s₁.heap.objs.size + 1 + 1 + 1 + 1 + 1 + 1 + 1 + 1 + 1 + 1, oI), (s₁.heap.objs.size + 1 + 1 + 1 + 1 + 1 + 1 + 1 + 1 + 1, oG), (s₁.heap.objs.size + 1 + 1 + 1 + 1 + 1 + 1 + 1 + 1, aT), (s₁.heap.objs.size + 1 + 1 + 1 + 1 + 1 + 1 + 1, aO), (s₁.heap.objs.size + 1 + 1 + 1 + 1 + 1 + 1, aM), (s₁.heap.objs.size + 1 + 1 + 1 + 1 + 1, aJ), (s₁.heap.objs.size + 1 + 1 + 1 + 1, ai), (s₁.heap.objs.size + 1 + 1 + 1, aY), (s₁.heap.objs.size + 1 + 1, aQ), (s₁.heap.objs.size + 1, aP)] ++ ((DS, listOf ws.toArray 0) :: (Dq', listOf (List.toArray qs') cq) :: (Dp', listOf (List.toArray us) cp) :: ex')) offE q (List.mem_append_left _ hq))
          refine store_9 fE (cb_drop (news := [(s₁.heap.objs.size + 1 + 1 + 1 + 1 + 1 + 1 + 1 + 1 + 1 + 1 + 1 + 1, oW), (s₁.heap.objs.size + 1 + 1 + 1 + 1 + 1 + 1 + 1 + 1 + 1 + 1 + 1, oD), (s₁.heap.objs.size + 1 + 1 + 1 + 1 + 1 + 1 + 1 + 1 + 1 + 1, oI), (s₁.heap.objs.size + 1 + 1 + 1 + 1 + 1 + 1 + 1 + 1 + 1, oG), (s₁.heap.objs.size + 1 + 1 + 1 + 1 + 1 + 1 + 1 + 1, aT), (s₁.heap.objs.size + 1 + 1 + 1 + 1 + 1 + 1 + 1, aO), (s₁.heap.objs.size + 1 + 1 + 1 + 1 + 1 + 1, aM), (s₁.heap.objs.size + 1 + 1 + 1 + 1 + 1, aJ), (s₁.heap.objs.size + 1 + 1 + 1 + 1, ai), (s₁.heap.objs.size + 1 + 1 + 1, aY), (s₁.heap.objs.size + 1 + 1, aQ), (s₁.heap.objs.size + 1, aP)] ++ ((Dg, LCg.lst gs) :: ((DS, listOf ws.toArray 0) :: (Dq', listOf (List.toArray qs') cq) :: (Dp', listOf (List.toArray us) cp) :: ex'))) nE (by k_places)) (List.forall_mem_cons.mpr ⟨hDg, hoffR⟩) (by rfl) hG1 ?_
          intro h3 aG fA nA haG
          clear fE nE offE
          k_extra "lx"
          rename Fr _ _ _ _ => fB
          rename News _ _ _ _ => nB
          refine ke_ne_ints (News.isList nB (show (Dg, LCg.lst gs) ∈ _ by kat_tups)) (News.isList nB (show (Dq', listOf (List.toArray qs') cq) ∈ _ by kat_tups)) hgI hpq (by ktr_units) ?_
          rw [decide_eq_true rfl, Bool.not_true]
          k_extra "lx"
          refine' rows_ok ⟨by k_asm, by k_asm, by k_asm, by k_asm, by k_asm, by first | exact rfl | assumption, by ktr_room, by ktr_units⟩ ?_
          intro Dr rvs ros cr h5 tk5 L5 hrows fR nR hR1 hR2 hR3
          clear fB nB
          k_extra "lx"
          rename_i Di hi2 fI nI lI
          have hL5 : s₁.heap.objs.size + 1 + 1 + 1 + 1 + 1 + 1 + 1 + 1 + 1 + 1 + 1 + 1 < L5 := hR1 (s₁.heap.objs.size + 1 + 1 + 1 + 1 + 1 + 1 + 1 + 1 + 1 + 1 + 1 + 1, oW) (by kat_tups)
          have hros : ∀ q ∈ ros, OffC s₁.heap.objs.size q.1 := fun q hq => offC_lt (Nat.lt_trans hL5 (Nat.lt_trans hR2 (hR3 q hq)))
          have hDi : OffC s₁.heap.objs.size Di := offC_lt (kst_ltOf lI.2 (s₁.heap.objs.size + 1 + 1 + 1 + 1 + 1 + 1 + 1 + 1 + 1 + 1 + 1 + 1, oW) (by kat_tups))
          have hDr : OffC s₁.heap.objs.size Dr := offC_lt (Nat.lt_trans hL5 hR2)
          have hrDi : ∀ q ∈ ros, q.1 < Di := fun q hq => kst_ltOf lI.2 q (by kat_tups)
          have hgDi : Dg < Di := kst_ltOf lI.2 (Dg, LCg.lst gs) (by kat_tups)
          have hrD : Dr < Di := lI.1
          refine store_10 fI (cb_drop (news := [(s₁.heap.objs.size + 1 + 1 + 1 + 1 + 1 + 1 + 1 + 1 + 1 + 1 + 1 + 1, oW), (s₁.heap.objs.size + 1 + 1 + 1 + 1 + 1 + 1 + 1 + 1 + 1 + 1 + 1, oD), (s₁.heap.objs.size + 1 + 1 + 1 + 1 + 1 + 1 + 1 + 1 + 1 + 1, oI), (s₁.heap.objs.size + 1 + 1 + 1 + 1 + 1 + 1 + 1 + 1 + 1, aG), (s₁.heap.objs.size + 1 + 1 + 1 + 1 + 1 + 1 + 1 + 1, aT), (s₁.heap.objs.size + 1 + 1 + 1 + 1 + 1 + 1 + 1, aO), (s₁.heap.objs.size + 1 + 1 + 1 + 1 + 1 + 1, aM), (s₁.heap.objs.size + 1 + 1 + 1 + 1 + 1, aJ), (s₁.heap.objs.size + 1 + 1 + 1 + 1, ai), (s₁.heap.objs.size + 1 + 1 + 1, aY), (s₁.heap.objs.size + 1 + 1, aQ), (s₁.heap.objs.size + 1, aP)] ++ ((Di, listOf #[] 0) :: (Dr, listOf (List.toArray rvs) cr) :: (Dg, LCg.lst gs) :: ros)) nI (by k_places)) (List.forall_mem_cons.mpr ⟨hDi, List.forall_mem_cons.mpr ⟨hDr, List.forall_mem_cons.mpr ⟨hDg, hros⟩⟩⟩) (by rfl) hI1 ?_
          intro h6 aI fK nK haI
          clear fI nI lI
          k_extra "lx"
          refine forT ?_ (by intro _; rfl)
          k_extra "lx"
          have hKlt : ∀ q ∈ [(s₁.heap.objs.size + 1 + 1 + 1 + 1 + 1 + 1 + 1 + 1 + 1 + 1 + 1 + 1, oW), (s₁.heap.objs.size + 1 + 1 + 1 + 1 + 1 + 1 + 1 + 1 + 1 + 1 + 1, oD), (s₁.heap.objs.size + 1 + 1 + 1 + 1 + 1 + 1 + 1 + 1 + 1 + 1, aI), (s₁.heap.objs.size + 1 + 1 + 1 + 1 + 1 + 1 + 1 + 1 + 1, aG), (s₁.heap.objs.size + 1 + 1 + 1 + 1 + 1 + 1 + 1 + 1, aT), (s₁.heap.objs.size + 1 + 1 + 1 + 1 + 1 + 1 + 1, aO), (s₁.heap.objs.size + 1 + 1 + 1 + 1 + 1 + 1, aM), (s₁.heap.objs.size + 1 + 1 + 1 + 1 + 1, aJ), (s₁.heap.objs.size + 1 + 1 + 1 + 1, ai), (s₁.heap.objs.size + 1 + 1 + 1, aY), (s₁.heap.objs.size + 1 + 1, aQ), (s₁.heap.objs.size + 1, aP)] ++ ((Di, listOf #[] 0) :: ((Dr, listOf (List.toArray rvs) cr) :: (Dg, LCg.lst gs) :: ros)), q.1 < h6.objs.size := fun q hq => Heap.lt_size (nK q hq).1
          refine iterG (nn := cr) (items := rvs) (fun i _ m nw => ImgJ s₁.heap.objs.size oW oD aI aG aT aO aM aJ ai aY aQ aP Di Dr rvs cr Dg gs ros p i m nw) (by rfl) fK nK ⟨[], 0, rfl, .nil, by rfl⟩ ?_ ?_ ?_ ?_ (by passes_own)
          · intro i t t' m nw _ h; exact h
          · rintro i t m nw ⟨vis, ci, rfl, _, _⟩
            refine ⟨by kat_tups, fun q hq => ?_⟩
            rcases List.mem_append.mp hq with hq | hq
            · exact Nat.ne_of_lt (hKlt q (List.mem_append_left _ hq))
            rcases List.mem_cons.mp hq with rfl | hq
            · exact Nat.ne_of_lt (hKlt (Di, listOf #[] 0) (by kat_tups))
            · exact Nat.ne_of_lt (hKlt q (List.mem_append_right _ (.tail _ hq)))
          · rintro i v t h oX m3 nw hv ⟨vis, ci, rfl, hvis, hm3⟩ fT nT
            clear fK nK
            simp only [List.cons_append, List.nil_append] at nT
            rw [mform1 hm3] at fT
            have hri : i < rowsTab.length := by
              rw [← RowsAre_len hrows]
              rcases Nat.lt_or_ge i rvs.length with h | h
              · exact h
              · rw [List.getElem?_eq_none h] at hv; cases hv
            obtain ⟨r, hr⟩ : ∃ r, rowsTab[i]? = some r := ⟨_, List.getElem?_eq_getElem hri⟩
            have hrm := List.mem_of_getElem? hr
            obtain ⟨d, vs9, n9, rfl, hdm, hdi⟩ := RowsAre_get hrows hr hv
            clear hv
            have nT2 := cb_drop (news := (d, listOf (List.toArray vs9) n9) :: _) nT (List.forall_mem_cons.mpr ⟨(by kat_tups), fun q hq => hq⟩)
            clear nT
            have hgl : p.length = 6 := hperm.1
            k_extra "lx"
            k_dflt (refine LCg.Assign_ListComp_U (F₀ := by k_asm) (by rfl) (by with_unfolding_all rfl) (by with_unfolding_all rfl) (by decide) (by rfl) (by decide) (by rfl) (by rfl) (by rfl) ?_)
            k_extra "lx"
            rename IntsAre vs9 r => hdi
            refine LCg.CompSrc.ledger (by rfl) (by k_asm) (by k_asm) (.head _) (by rw [List.size_toArray, hdi.length, rows_three r hrm]; exact Nat.le_of_ble_eq_true rfl) ?_
            intro g5
            refine comp_items (xs := r) (fun k v => ∃ t, v = .int k t) hdi.length (fun i k v h1 h2 => ?_) (fun pre zs ex2 => Pairs2 (pre.map (pairF p)) zs ex2 ∧ ∀ q ∈ ex2, h6.objs.size < q.1 ∧ Di < q.1) ⟨Pairs2.nil, fun q hq => nomatch hq⟩ ?_ ?_
            · obtain ⟨z, u, e1, e2⟩ := intsAt hdi h2
              rw [h1] at e1
              cases e1
              exact ⟨u, e2⟩
            · rintro pre k v I oI' C oC D m₂ zs ex2 h tk E' hmem ⟨t, rfl⟩ ⟨hO2, hex2⟩ hoC hx fE nE off ne
              dsimp only
              obtain ⟨⟨ka, kb⟩, ⟨kc, kd⟩⟩ := rows_digits r hrm k hmem
              have nE2 := cb_drop (news := (s₁.heap.objs.size + 1 + 1 + 1 + 1 + 1 + 1 + 1 + 1 + 1, aG) :: (Dg, LCg.lst gs) :: _) nE (List.forall_mem_cons.mpr ⟨(by kat_tups), List.forall_mem_cons.mpr ⟨(by kat_tups), fun q hq => hq⟩⟩)
              clear nE
              k_extra "lx"
              rename News _ _ _ _ => nE3
              rename IntsAre gs p => hgI
              refine ints_at6 (News.isList nE3 (.tail _ (.head _))) hgI hgl ka kb ?_
              intro t1
              k_extra "lx"
              rename News _ _ _ _ => nE4
              rename IntsAre gs p => hgI
              refine ints_at6 (News.isList nE4 (.tail _ (.head _))) hgI hgl kc kd ?_
              intro t2
              k_extra "lx"
              rename_i T9 h9 f9 q9 l9
              exact LCg.CompEnd.intro f9 q9 ((T9, ({ cls := .type "tuple", data := .seq #[.int (pairF p k).1 t1, .int (pairF p k).2 t2] } : Obj)) :: ex2 ++ _) (sub_cons (.tail _ (.tail _ (.tail _ (.head _)))) (sub_cons (.tail _ (.tail _ (.tail _ (.tail _ (.head _))))) (sub_cons (.tail _ (.tail _ (.tail _ (.tail _ (.tail _ (.head _)))))) (sub_cons (.head _) fun q hq => .tail _ (.tail _ (.tail _ (.tail _ (.tail _ (.tail _ hq))))))))) ⟨⟨Nat.ne_of_gt l9.2.2.1, Nat.ne_of_gt l9.2.2.2.1, Nat.ne_of_gt l9.2.2.2.2.1⟩, off⟩ (Or.inr ⟨listOf (List.toArray vs9) n9, by kat_tups, rfl, _, rfl⟩) ⟨(T9, ({ cls := .type "tuple", data := .seq #[.int (pairF p k).1 t1, .int (pairF p k).2 t2] } : Obj)) :: ex2, rfl, (by rw [List.map_append]; exact hO2.snoc), List.forall_mem_cons.mpr ⟨⟨kst_ltOf l9.2.2.2.2.2 (h6.objs.size, oX) (by kat_tups), kst_ltOf l9.2.2.2.2.2 (Di, listOf (List.toArray vis) ci) (by kat_tups)⟩, hex2⟩⟩
            · rintro zs ex2 ⟨hO2, hex2⟩
              k_extra "one"
              rename_i Dv hv2 tkv fV nV offV
              have nV2 := cb_drop (news := [(s₁.heap.objs.size + 1 + 1 + 1 + 1 + 1 + 1 + 1 + 1 + 1 + 1 + 1 + 1, oW), (s₁.heap.objs.size + 1 + 1 + 1 + 1 + 1 + 1 + 1 + 1 + 1 + 1 + 1, oD), (s₁.heap.objs.size + 1 + 1 + 1 + 1 + 1 + 1 + 1 + 1 + 1 + 1, aI), (s₁.heap.objs.size + 1 + 1 + 1 + 1 + 1 + 1 + 1 + 1 + 1, aG), (s₁.heap.objs.size + 1 + 1 + 1 + 1 + 1 + 1 + 1 + 1, aT), (s₁.heap.objs.size + 1 + 1 + 1 + 1 + 1 + 1 + 1, aO), (s₁.heap.objs.size + 1 + 1 + 1 + 1 + 1 + 1, aM), (s₁.heap.objs.size + 1 + 1 + 1 + 1 + 1, aJ), (s₁.heap.objs.size + 1 + 1 + 1 + 1, ai), (s₁.heap.objs.size + 1 + 1 + 1, aY), (s₁.heap.objs.size + 1 + 1, aQ), (s₁.heap.objs.size + 1, aP)] ++ ((Dv, LCg.lst zs) :: (Di, listOf (List.toArray vis) ci) :: (Dr, listOf (List.toArray rvs) cr) :: (Dg, LCg.lst gs) :: (ex2 ++ (ros ++ [(h6.objs.size, oX)])))) nV (by k_places)
              clear nV offV
              simp only [List.cons_append, List.nil_append] at nV2
              k_extra "lx"
              k_dflt (refine LCg.ListComp_U (F₀ := by k_asm) (by with_unfolding_all rfl) (by decide) (by rfl) (by decide) (by rfl) ?_)
              k_extra "lx"
              have hzl : zs.length = (r.map (pairF p)).length := hO2.1
              refine LCg.CompSrc.ledger (by rfl) (by k_asm) (by k_asm) (show (Dv, LCg.lst zs) ∈ _ by kat_tups) (by rw [List.size_toArray, hzl, List.length_map, rows_three r hrm]; exact Nat.le_of_ble_eq_true rfl) ?_
              intro g6
              refine comp_items (xs := r.map (pairF p)) (fun k v => ∃ T ta tb, v = .ref T ∧ (T, ({ cls := .type "tuple", data := .seq #[.int k.1 ta, .int k.2 tb] } : Obj)) ∈ ex2) hzl (fun i k v h1 h2 => hO2.2 i k v h1 h2) (fun pre ys ex3 => ex3 = [] ∧ IntsAre ys (pre.map codeF)) ⟨rfl, .nil⟩ ?_ ?_
              · rintro pre k v I oI' C oC D m₂ ys ex3 h tk E' hmem ⟨T, ta, tb, rfl, hT⟩ ⟨rfl, hys⟩ hoC hx fE nE off ne
                dsimp only
                simp only [List.nil_append] at nE off
                have nE2 := cb_drop (news := (T, ({ cls := .type "tuple", data := .seq #[.int k.1 ta, .int k.2 tb] } : Obj)) :: _) nE (List.forall_mem_cons.mpr ⟨(by kat_tups), fun q hq => hq⟩)
                clear nE
                k_extra "lx"
                rename Fr _ _ _ _ => fM
                rename News _ _ _ _ => nM
                refine min_tup2 (by rfl) fM nM ⟨_, (nM _ (.head _)).1, rfl, _, rfl⟩ ?_
                intro h7 tk7 z7 f7 n7
                clear fM nM
                k_extra "lx"
                rename Fr _ _ _ _ => fM
                rename News _ _ _ _ => nM
                refine max_tup2 (by rfl) fM nM ⟨_, (nM _ (.head _)).1, rfl, _, rfl⟩ ?_
                intro h8 tk8 z8 f8 n8
                clear fM nM
                k_extra "lx"
                rename News _ _ _ _ => nE3
                exact LCg.CompEnd.intro (by assumption) nE3 _ (fun q hq => .tail _ hq) off (Or.inr ⟨LCg.lst zs, by kat_tups, rfl, _, rfl⟩) ⟨[], rfl, rfl, (by rw [List.map_append]; exact hys.append (.cons (codeF k) _ .nil))⟩
              · rintro ys ex3 ⟨rfl, hys⟩
                simp only [List.nil_append]
                k_extra "lx"
                rename Fr _ _ _ _ => fS
                rename News _ _ _ _ => nS
                rename IntsAre _ (List.map codeF _) => hys
                refine kso_sorted fS nS (News.isList nS (.head _)) hys (by rw [List.length_map, List.length_map, rows_three r hrm]; decide) ?_
                intro Dk vk kk ck hk9 fk nk lk hik ek pk sk _
                clear fS nS
                have hkk : kk = isort (r.map fun x => codeF (pairF p x)) := by rw [isort_of pk sk, List.map_map]; rfl
                k_extra "lx"
                rename News _ _ _ _ => nX
                rename IntsAre vk kk => hik
                refine rows_index nX (show (Dr, listOf (List.toArray rvs) cr) ∈ _ by kat_tups) hrows (fun q hq => by kat_tups) (show (Dk, listOf (List.toArray vk) ck) ∈ _ by kat_tups) hik (by rw [hkk]; exact images_in hperm r hrm) (by decide) (by ktr_units) ?_
                rw [hkk]
                k_extra "lx"
                rename Fr _ _ _ _ => fP
                rename News _ _ _ _ => nP
                refine append_K fP (cb_drop (news := (Di, listOf (List.toArray vis) ci) :: ([(s₁.heap.objs.size + 1 + 1 + 1 + 1 + 1 + 1 + 1 + 1 + 1 + 1 + 1 + 1, oW), (s₁.heap.objs.size + 1 + 1 + 1 + 1 + 1 + 1 + 1 + 1 + 1 + 1 + 1, oD), (s₁.heap.objs.size + 1 + 1 + 1 + 1 + 1 + 1 + 1 + 1 + 1 + 1, aI), (s₁.heap.objs.size + 1 + 1 + 1 + 1 + 1 + 1 + 1 + 1 + 1, aG), (s₁.heap.objs.size + 1 + 1 + 1 + 1 + 1 + 1 + 1 + 1, aT), (s₁.heap.objs.size + 1 + 1 + 1 + 1 + 1 + 1 + 1, aO), (s₁.heap.objs.size + 1 + 1 + 1 + 1 + 1 + 1, aM), (s₁.heap.objs.size + 1 + 1 + 1 + 1 + 1, aJ), (s₁.heap.objs.size + 1 + 1 + 1 + 1, ai), (s₁.heap.objs.size + 1 + 1 + 1, aY), (s₁.heap.objs.size + 1 + 1, aQ), (s₁.heap.objs.size + 1, aP)] ++ (((Dr, listOf (List.toArray rvs) cr) :: (Dg, LCg.lst gs) :: ros) ++ [(h6.objs.size, oX)]))) nP (by k_places)) (Upd.head fun q hq => ?_) ?_ ?_
                · rcases List.mem_append.mp hq with hq | hq
                  · exact offC_ne hDi q hq
                  rcases List.mem_append.mp hq with hq | hq
                  · rcases List.mem_cons.mp hq with rfl | hq
                    · exact Nat.ne_of_lt hrD
                    rcases List.mem_cons.mp hq with rfl | hq
                    · exact Nat.ne_of_lt hgDi
                    · exact Nat.ne_of_lt (hrDi q hq)
                  · rw [List.mem_singleton.mp hq]
                    exact Nat.ne_of_gt (hKlt (Di, listOf #[] 0) (by kat_tups))
                · intro h' F' N'
                  clear fP nP
                  k_extra "lx"
                  rename Fr _ _ _ _ => fP
                  rename News _ _ _ _ => nP
                  simp only [List.push_toArray] at nP
                  rename IntsAre vis _ => hvis
                  exact ⟨_, _, _, [(s₁.heap.objs.size + 1 + 1 + 1 + 1 + 1 + 1 + 1 + 1 + 1 + 1 + 1 + 1, oW), (s₁.heap.objs.size + 1 + 1 + 1 + 1 + 1 + 1 + 1 + 1 + 1 + 1 + 1, oD), (s₁.heap.objs.size + 1 + 1 + 1 + 1 + 1 + 1 + 1 + 1 + 1 + 1, aI), (s₁.heap.objs.size + 1 + 1 + 1 + 1 + 1 + 1 + 1 + 1 + 1, aG), (s₁.heap.objs.size + 1 + 1 + 1 + 1 + 1 + 1 + 1 + 1, aT), (s₁.heap.objs.size + 1 + 1 + 1 + 1 + 1 + 1 + 1, aO), (s₁.heap.objs.size + 1 + 1 + 1 + 1 + 1 + 1, aM), (s₁.heap.objs.size + 1 + 1 + 1 + 1 + 1, aJ), (s₁.heap.objs.size + 1 + 1 + 1 + 1, ai), (s₁.heap.objs.size + 1 + 1 + 1, aY), (s₁.heap.objs.size + 1 + 1, aQ), (s₁.heap.objs.size + 1, aP)] ++ ((Di, listOf (List.toArray (vis ++ [Value.int (imgF p r) _])) (ci + 1)) :: ((Dr, listOf (List.toArray rvs) cr) :: (Dg, LCg.lst gs) :: ros)), rfl, fP, cb_drop nP (by k_places), _, _, rfl, (by rw [List.take_add_one, hr, List.map_append]; exact hvis.append (.cons (imgF p r) _ .nil)), rfl⟩
                · rename IntsAre vis _ => hvis
                  have e1 := hvis.length
                  rw [List.length_map, List.length_take] at e1
                  rw [sizeLine_eq, List.size_toArray, e1]
                  exact Nat.le_trans (Nat.min_le_right _ _) (by decide)
          · rintro t h m3 nw ⟨vis, ci, rfl, hvis, hm3⟩ fT nT
            clear fK nK
            have hvis : IntsAre vis (rowsTab.map (imgF p)) := by
              have e : rvs.length = rowsTab.length := RowsAre_len hrows
              rw [e, List.take_length] at hvis
              exact hvis
            simp only [List.cons_append, List.nil_append] at nT
            rw [mform1 hm3] at fT
            k_extra "lx"
            refine' totals_ok (l := Dr) (us := rvs) (os := ros) (nn := cr) ⟨by k_asm, by k_asm, by k_asm, by k_asm, by k_asm, by first | exact rfl | assumption, by ktr_room, by ktr_units⟩ (by kat_tups) (fun q hq => by kat_tups) hrows ?_
            intro Dt tus tos tc h7 tk7 L6 htot fR nR hT1 hT2 hT3
            have nR2 := cb_drop (news := [(s₁.heap.objs.size + 1 + 1 + 1 + 1 + 1 + 1 + 1 + 1 + 1 + 1 + 1 + 1, oW), (s₁.heap.objs.size + 1 + 1 + 1 + 1 + 1 + 1 + 1 + 1 + 1 + 1 + 1, oD), (s₁.heap.objs.size + 1 + 1 + 1 + 1 + 1 + 1 + 1 + 1 + 1 + 1, aI), (s₁.heap.objs.size + 1 + 1 + 1 + 1 + 1 + 1 + 1 + 1 + 1, aG), (s₁.heap.objs.size + 1 + 1 + 1 + 1 + 1 + 1 + 1 + 1, aT), (s₁.heap.objs.size + 1 + 1 + 1 + 1 + 1 + 1 + 1, aO), (s₁.heap.objs.size + 1 + 1 + 1 + 1 + 1 + 1, aM), (s₁.heap.objs.size + 1 + 1 + 1 + 1 + 1, aJ), (s₁.heap.objs.size + 1 + 1 + 1 + 1, ai), (s₁.heap.objs.size + 1 + 1 + 1, aY), (s₁.heap.objs.size + 1 + 1, aQ), (s₁.heap.objs.size + 1, aP)] ++ ((Dt, listOf (List.toArray tus) tc) :: (tos ++ ((Di, listOf (List.toArray vis) ci) :: (Dr, listOf (List.toArray rvs) cr) :: (Dg, LCg.lst gs) :: ros)))) nR (by k_places)
            clear nR fT nT
            have hL6 : s₁.heap.objs.size + 1 + 1 + 1 + 1 + 1 + 1 + 1 + 1 + 1 + 1 + 1 + 1 < L6 := hT1 (s₁.heap.objs.size + 1 + 1 + 1 + 1 + 1 + 1 + 1 + 1 + 1 + 1 + 1 + 1, oW) (by kat_tups)
            have hDt : OffC s₁.heap.objs.size Dt := offC_lt (Nat.lt_trans hL6 hT2)
            have htos : ∀ q ∈ tos, OffC s₁.heap.objs.size q.1 := fun q hq => offC_lt (Nat.lt_trans hL6 (Nat.lt_trans hT2 (hT3 q hq)))
            have hB : ∀ q ∈ ((Di, listOf (List.toArray vis) ci) :: (Dr, listOf (List.toArray rvs) cr) :: (Dg, LCg.lst gs) :: ros), OffC s₁.heap.objs.size q.1 := List.forall_mem_cons.mpr ⟨hDi, List.forall_mem_cons.mpr ⟨hDr, List.forall_mem_cons.mpr ⟨hDg, hros⟩⟩⟩
            have hBt : ∀ q ∈ ((Di, listOf (List.toArray vis) ci) :: (Dr, listOf (List.toArray rvs) cr) :: (Dg, LCg.lst gs) :: ros), q.1 < Dt := fun q hq => Nat.lt_trans (hT1 q (in_r (k := [(s₁.heap.objs.size + 1 + 1 + 1 + 1 + 1 + 1 + 1 + 1 + 1 + 1 + 1 + 1, oW), (s₁.heap.objs.size + 1 + 1 + 1 + 1 + 1 + 1 + 1 + 1 + 1 + 1 + 1, oD), (s₁.heap.objs.size + 1 + 1 + 1 + 1 + 1 + 1 + 1 + 1 + 1 + 1, aI), (s₁.heap.objs.size + 1 + 1 + 1 + 1 + 1 + 1 + 1 + 1 + 1, aG), (s₁.heap.objs.size + 1 + 1 + 1 + 1 + 1 + 1 + 1 + 1, aT), (s₁.heap.objs.size + 1 + 1 + 1 + 1 + 1 + 1 + 1, aO), (s₁.heap.objs.size + 1 + 1 + 1 + 1 + 1 + 1, aM), (s₁.heap.objs.size + 1 + 1 + 1 + 1 + 1, aJ), (s₁.heap.objs.size + 1 + 1 + 1 + 1, ai), (s₁.heap.objs.size + 1 + 1 + 1, aY), (s₁.heap.objs.size + 1 + 1, aQ), (s₁.heap.objs.size + 1, aP)]) hq)) hT2
            clear hT1
            simp only [List.cons_append, List.nil_append] at nR2
            k_extra "lx"
            refine wpAny_Assign_Name ?_ (by with_unfolding_all rfl)
            k_dflt (refine LCg.ListComp_U (F₀ := by k_asm) (by with_unfolding_all rfl) (by decide) (by rfl) (by decide) (by rfl) ?_)
            k_extra "lx"
            have htl := RowsAre_len htot
            refine LCg.CompSrc.ledger (by rfl) (by k_asm) (by k_asm) (show (Dt, listOf (List.toArray tus) tc) ∈ _ by kat_tups) (by rw [List.size_toArray, htl]; exact Nat.le_of_ble_eq_true rfl) ?_
            intro g6
            refine comp_items (xs := totalsTab) (fun r v => ∃ D vs n, v = .ref D ∧ (D, listOf vs.toArray n) ∈ tos ∧ IntsAre vs r) htl (fun i k v h1 h2 => RowsAre_get htot h1 h2) (fun pre ys ex3 => ex3 = [] ∧ StrsAre ys (pre.map wordF)) ⟨rfl, .nil⟩ ?_ ?_
            · rintro pre r v I oI' C oC D m₂ ys ex3 h tk E' hmem ⟨T, vs9, n9, rfl, hT, hi9⟩ ⟨rfl, hys⟩ hoC hx fE nE off ne
              dsimp only
              simp only [List.nil_append] at nE off
              have nE2 := cb_drop (news := (T, listOf (List.toArray vs9) n9) :: _) nE (List.forall_mem_cons.mpr ⟨(by kat_tups), fun q hq => hq⟩)
              clear nE
              k_extra "lx"
              rename IntsAre vs9 r => hi9
              refine' word_ok (l := T) (vs := vs9) (ns := r) (nn := n9) ⟨by k_asm, by k_asm, by k_asm, by k_asm, by k_asm, by first | exact rfl | assumption, by ktr_room, by ktr_units⟩ (.head _) hi9 (totals_five r hmem).1 (totals_five r hmem).2 ?_
              intro t9 h9 tk9 F9 N9
              exact LCg.CompEnd.intro F9 N9 _ (fun q hq => .tail _ hq) off (Or.inr ⟨listOf (List.toArray tus) tc, by kat_tups, rfl, _, rfl⟩) ⟨[], rfl, rfl, (by rw [List.map_append]; exact strs_snoc hys)⟩
            · rintro wds ex3 ⟨rfl, hys⟩
              simp only [List.nil_append]
              k_extra "lx"
              rename_i Dw hw9 tkw fW nW offW
              have hDw : OffC s₁.heap.objs.size Dw ∧ ∀ q ∈ ((Dt, listOf (List.toArray tus) tc) :: (tos ++ ((Di, listOf (List.toArray vis) ci) :: (Dr, listOf (List.toArray rvs) cr) :: (Dg, LCg.lst gs) :: ros))), q.1 ≠ Dw := by
                have hal := off1_mem (l := [(s₁.heap.objs.size + 1 + 1 + 1 + 1 + 1 + 1 + 1 + 1 + 1 + 1 + 1 + 1, oW), (s₁.heap.objs.size + 1 + 1 + 1 + 1 + 1 + 1 + 1 + 1 + 1 + 1 + 1, oD), (s₁.heap.objs.size + 1 + 1 + 1 + 1 + 1 + 1 + 1 + 1 + 1 + 1, aI), (s₁.heap.objs.size + 1 + 1 + 1 + 1 + 1 + 1 + 1 + 1 + 1, aG), (s₁.heap.objs.size + 1 + 1 + 1 + 1 + 1 + 1 + 1 + 1, aT), (s₁.heap.objs.size + 1 + 1 + 1 + 1 + 1 + 1 + 1, aO), (s₁.heap.objs.size + 1 + 1 + 1 + 1 + 1 + 1, aM), (s₁.heap.objs.size + 1 + 1 + 1 + 1 + 1, aJ), (s₁.heap.objs.size + 1 + 1 + 1 + 1, ai), (s₁.heap.objs.size + 1 + 1 + 1, aY), (s₁.heap.objs.size + 1 + 1, aQ), (s₁.heap.objs.size + 1, aP)] ++ ((Dt, listOf (List.toArray tus) tc) :: (tos ++ ((Di, listOf (List.toArray vis) ci) :: (Dr, listOf (List.toArray rvs) cr) :: (Dg, LCg.lst gs) :: ros)))) offW
                exact ⟨offC_of (o1 := aP) (o2 := aQ) (o3 := aY) (o4 := ai) (o5 := aJ) (o6 := aM) (o7 := aO) (o8 := aT) (o9 := aG) (o10 := aI) (o11 := oD) (o12 := oW) (fun q hq => hal q (List.mem_append_left _ hq)), fun q hq => hal q (List.mem_append_right _ hq)⟩
              clear offW
              refine store_11 fW (cb_drop (news := [(s₁.heap.objs.size + 1 + 1 + 1 + 1 + 1 + 1 + 1 + 1 + 1 + 1 + 1 + 1, oW), (s₁.heap.objs.size + 1 + 1 + 1 + 1 + 1 + 1 + 1 + 1 + 1 + 1 + 1, oD), (s₁.heap.objs.size + 1 + 1 + 1 + 1 + 1 + 1 + 1 + 1 + 1 + 1, aI), (s₁.heap.objs.size + 1 + 1 + 1 + 1 + 1 + 1 + 1 + 1 + 1, aG), (s₁.heap.objs.size + 1 + 1 + 1 + 1 + 1 + 1 + 1 + 1, aT), (s₁.heap.objs.size + 1 + 1 + 1 + 1 + 1 + 1 + 1, aO), (s₁.heap.objs.size + 1 + 1 + 1 + 1 + 1 + 1, aM), (s₁.heap.objs.size + 1 + 1 + 1 + 1 + 1, aJ), (s₁.heap.objs.size + 1 + 1 + 1 + 1, ai), (s₁.heap.objs.size + 1 + 1 + 1, aY), (s₁.heap.objs.size + 1 + 1, aQ), (s₁.heap.objs.size + 1, aP)] ++ ((Dw, LCg.lst wds) :: ((Dt, listOf (List.toArray tus) tc) :: (tos ++ ((Di, listOf (List.toArray vis) ci) :: (Dr, listOf (List.toArray rvs) cr) :: (Dg, LCg.lst gs) :: ros))))) nW (by k_places)) (List.forall_mem_cons.mpr ⟨hDw.1, List.forall_mem_cons.mpr ⟨hDt, List.forall_mem_append.mpr ⟨htos, hB⟩⟩⟩) (by rfl) hD1 ?_
              intro h10 aW fK nK haW
              clear fW nW
              k_extra "lx"
              rename_i Dm hm8 lM hm9 fM nM
              simp only [List.cons_append, List.nil_append, List.append_eq] at nM lM
              refine forT ?_ (by intro _; rfl)
              k_extra "lx"
              have nM2 := cb_drop (news := [(s₁.heap.objs.size + 1 + 1 + 1 + 1 + 1 + 1 + 1 + 1 + 1 + 1 + 1 + 1, oW), (s₁.heap.objs.size + 1 + 1 + 1 + 1 + 1 + 1 + 1 + 1 + 1 + 1 + 1, aW), (s₁.heap.objs.size + 1 + 1 + 1 + 1 + 1 + 1 + 1 + 1 + 1 + 1, aI), (s₁.heap.objs.size + 1 + 1 + 1 + 1 + 1 + 1 + 1 + 1 + 1, aG), (s₁.heap.objs.size + 1 + 1 + 1 + 1 + 1 + 1 + 1 + 1, aT), (s₁.heap.objs.size + 1 + 1 + 1 + 1 + 1 + 1 + 1, aO), (s₁.heap.objs.size + 1 + 1 + 1 + 1 + 1 + 1, aM), (s₁.heap.objs.size + 1 + 1 + 1 + 1 + 1, aJ), (s₁.heap.objs.size + 1 + 1 + 1 + 1, ai), (s₁.heap.objs.size + 1 + 1 + 1, aY), (s₁.heap.objs.size + 1 + 1, aQ), (s₁.heap.objs.size + 1, aP)] ++ ((Dm, listOf #[] 0) :: ((Dw, LCg.lst wds) :: (Dt, listOf (List.toArray tus) tc) :: (tos ++ ((Di, listOf (List.toArray vis) ci) :: (Dr, listOf (List.toArray rvs) cr) :: (Dg, LCg.lst gs) :: ros))))) nM (by k_places)
              have hMlt : ∀ q ∈ [(s₁.heap.objs.size + 1 + 1 + 1 + 1 + 1 + 1 + 1 + 1 + 1 + 1 + 1 + 1, oW), (s₁.heap.objs.size + 1 + 1 + 1 + 1 + 1 + 1 + 1 + 1 + 1 + 1 + 1, aW), (s₁.heap.objs.size + 1 + 1 + 1 + 1 + 1 + 1 + 1 + 1 + 1 + 1, aI), (s₁.heap.objs.size + 1 + 1 + 1 + 1 + 1 + 1 + 1 + 1 + 1, aG), (s₁.heap.objs.size + 1 + 1 + 1 + 1 + 1 + 1 + 1 + 1, aT), (s₁.heap.objs.size + 1 + 1 + 1 + 1 + 1 + 1 + 1, aO), (s₁.heap.objs.size + 1 + 1 + 1 + 1 + 1 + 1, aM), (s₁.heap.objs.size + 1 + 1 + 1 + 1 + 1, aJ), (s₁.heap.objs.size + 1 + 1 + 1 + 1, ai), (s₁.heap.objs.size + 1 + 1 + 1, aY), (s₁.heap.objs.size + 1 + 1, aQ), (s₁.heap.objs.size + 1, aP)] ++ ((Dm, listOf #[] 0) :: ((Dw, LCg.lst wds) :: (Dt, listOf (List.toArray tus) tc) :: (tos ++ ((Di, listOf (List.toArray vis) ci) :: (Dr, listOf (List.toArray rvs) cr) :: (Dg, LCg.lst gs) :: ros)))), q.1 < hm9.objs.size := fun q hq => Heap.lt_size (nM2 q hq).1
              clear nM
              refine iterG (nn := tc) (items := tus) (fun i _ m nw => MvJ s₁.heap.objs.size aW aI aG aT aO aM aJ ai aY aQ aP Dm Dw wds Dt tus tc tos Di vis ci Dr rvs cr Dg gs ros p i m nw) (by rfl) fM nM2 ⟨oW, _, [], 0, rfl, hW, .nil, by rfl⟩ ?_ ?_ ?_ ?_ (by passes_own)
              · intro i t t' m nw _ h; exact h
              · rintro i t m nw ⟨oW2, v2, mus, cm, rfl, _, _, _⟩
                refine ⟨by kat_tups, fun q hq => ?_⟩
                rcases List.mem_append.mp hq with hq | hq
                · exact Nat.ne_of_lt (cells_lt (hMlt (s₁.heap.objs.size + 1 + 1 + 1 + 1 + 1 + 1 + 1 + 1 + 1 + 1 + 1 + 1, oW) (.head _)) q hq)
                rcases List.mem_cons.mp hq with rfl | hq
                · exact Nat.ne_of_lt (hMlt (Dm, listOf #[] 0) (by kat_tups))
                · exact Nat.ne_of_lt (hMlt q (List.mem_append_right _ (.tail _ hq)))
              · rintro i v t h oX m3 nw hv ⟨oW2, v2, mus, cm, rfl, hW2, hmus, hm3⟩ fT nT
                clear fM nM2
                simp only [List.cons_append, List.nil_append] at nT
                rw [mform1 hm3] at fT
                have hri : i < totalsTab.length := by
                  rw [← RowsAre_len htot]
                  rcases Nat.lt_or_ge i tus.length with h | h
                  · exact h
                  · rw [List.getElem?_eq_none h] at hv; cases hv
                obtain ⟨r, hr⟩ : ∃ r, totalsTab[i]? = some r := ⟨_, List.getElem?_eq_getElem hri⟩
                have hrm := List.mem_of_getElem? hr
                obtain ⟨d, vs9, n9, rfl, hdm, hdi⟩ := RowsAre_get htot hr hv
                clear hv
                have nT2 := cb_drop (news := (d, listOf (List.toArray vs9) n9) :: _) nT (List.forall_mem_cons.mpr ⟨(by kat_tups), fun q hq => hq⟩)
                clear nT
                k_extra "lx"
                k_dflt (refine LCg.ListComp_U (F₀ := by k_asm) (by with_unfolding_all rfl) (by decide) (by rfl) (by decide) (by rfl) ?_)
                k_extra "lx"
                rename IntsAre vs9 r => hdi
                refine LCg.CompSrc.ledger (by rfl) (by k_asm) (by k_asm) (.head _) (by rw [List.size_toArray, hdi.length, (totals_five r hrm).1]; exact Nat.le_of_ble_eq_true rfl) ?_
                intro g7
                refine kcf_list (fun k => (rowsTab.map (imgF p)).getD k.toNat 0) hdi (fun k t I oI' C oC D m₂ zs h tk E' hk' hC hx fE nE off ne mk => ?_) ?_
                · dsimp only
                  obtain ⟨ka, kb⟩ := (totals_five r hrm).2 k hk'
                  k_extra "lx"
                  rename News _ _ _ _ => nE2
                  rename IntsAre vis _ => hvis
                  refine ints_item (News.isList nE2 (show (Di, listOf (List.toArray vis) ci) ∈ _ by kat_tups)) hvis ka (by rw [List.length_map]; exact kb) (Int.lt_trans kb (by decide)) ?_
                  intro tq
                  k_extra "lx"
                  rename News _ _ _ _ => nE3
                  exact LCg.CompEnd.intro (by assumption) nE3 _ (fun q hq => hq) off (.inr ⟨listOf (List.toArray vs9) n9, .head _, rfl, _, rfl⟩) (kcf_el rfl rfl rfl)
                · k_extra "lx"
                  rename IntsAre _ (List.map (fun k => (rowsTab.map (imgF p)).getD k.toNat 0) r) => hpi
                  refine' word_ok (ns := r.map fun k => (rowsTab.map (imgF p)).getD k.toNat 0) ⟨by k_asm, by k_asm, by k_asm, by k_asm, by k_asm, by first | exact rfl | assumption, by ktr_room, by ktr_units⟩ (.head _) hpi (imgs_ok hperm hrm).1 (imgs_ok hperm hrm).2 ?_
                  intro t9 h9 tk9 F9 N9
                  have hwl := wordF_len (imgs_ok hperm hrm).1
                  obtain ⟨wd, hwd⟩ : ∃ wd, wd = wordF (r.map fun k => (rowsTab.map (imgF p)).getD k.toNat 0) := ⟨_, rfl⟩
                  obtain ⟨want, jv, hwt, hmv⟩ := word_all hperm hrm hwd
                  rw [← hwd] at hwl ⊢
                  k_extra "lt"
                  rename Fr _ _ _ _ => fP
                  rename News _ _ _ _ => nP
                  have hDm : OffC s₁.heap.objs.size Dm := offC_lt lM.1
                  have hoR : ∀ q ∈ (Dm, listOf (List.toArray mus) cm) :: (((Dw, LCg.lst wds) :: (Dt, listOf (List.toArray tus) tc) :: (tos ++ ((Di, listOf (List.toArray vis) ci) :: (Dr, listOf (List.toArray rvs) cr) :: (Dg, LCg.lst gs) :: ros))) ++ [(hm9.objs.size, oX)]), OffC s₁.heap.objs.size q.1 := List.forall_mem_cons.mpr ⟨hDm, List.forall_mem_append.mpr ⟨List.forall_mem_cons.mpr ⟨hDw.1, List.forall_mem_cons.mpr ⟨hDt, List.forall_mem_append.mpr ⟨htos, hB⟩⟩⟩, List.forall_mem_cons.mpr ⟨offC_lt (hMlt (s₁.heap.objs.size + 1 + 1 + 1 + 1 + 1 + 1 + 1 + 1 + 1 + 1 + 1 + 1, oW) (.head _)), fun q hq => nomatch hq⟩⟩⟩
                  refine store_12 fP (cb_drop (news := [(s₁.heap.objs.size + 1 + 1 + 1 + 1 + 1 + 1 + 1 + 1 + 1 + 1 + 1 + 1, oW2), (s₁.heap.objs.size + 1 + 1 + 1 + 1 + 1 + 1 + 1 + 1 + 1 + 1 + 1, aW), (s₁.heap.objs.size + 1 + 1 + 1 + 1 + 1 + 1 + 1 + 1 + 1 + 1, aI), (s₁.heap.objs.size + 1 + 1 + 1 + 1 + 1 + 1 + 1 + 1 + 1, aG), (s₁.heap.objs.size + 1 + 1 + 1 + 1 + 1 + 1 + 1 + 1, aT), (s₁.heap.objs.size + 1 + 1 + 1 + 1 + 1 + 1 + 1, aO), (s₁.heap.objs.size + 1 + 1 + 1 + 1 + 1 + 1, aM), (s₁.heap.objs.size + 1 + 1 + 1 + 1 + 1, aJ), (s₁.heap.objs.size + 1 + 1 + 1 + 1, ai), (s₁.heap.objs.size + 1 + 1 + 1, aY), (s₁.heap.objs.size + 1 + 1, aQ), (s₁.heap.objs.size + 1, aP)] ++ ((Dm, listOf (List.toArray mus) cm) :: (((Dw, LCg.lst wds) :: (Dt, listOf (List.toArray tus) tc) :: (tos ++ ((Di, listOf (List.toArray vis) ci) :: (Dr, listOf (List.toArray rvs) cr) :: (Dg, LCg.lst gs) :: ros))) ++ [(hm9.objs.size, oX)]))) nP (by k_places)) hoR (by rfl) hW2 ?_
                  intro h11 oW3 fQ nQ haW3
                  clear fP nP
                  rw [hwt.e] at haW3
                  k_extra "lx"
                  k_dflt (refine LCt.Assign_ListComp_T (F₀ := by k_asm) (by rfl) (by with_unfolding_all rfl) (by with_unfolding_all rfl) (by decide) (by rfl) (by decide) (by rfl) (by rfl) (by rfl) ?_)
                  k_extra "lx"
                  refine LCt.CompSrcT.range (n := 6) (by rfl) (by k_asm) (by k_asm) (by assumption) (by first | decide | rfl) (by first | exact rangeSize_nat _ _ | rfl) (by exact Nat.le_of_ble_eq_true rfl) ?_
                  intro g8
                  refine' kci_range (takeG wd) (fun k' t' I' oI' C' oC' D' m' ys' l2' h' tk' E' hlo' hhi' hI' hC' hx' F' N' off' ne' => ?_) ?_ (takeG_grows wd)
                  · intro hMark'
                    have nE2 := cb_drop (news := (s₁.heap.objs.size + 1 + 1 + 1 + 1 + 1 + 1 + 1 + 1 + 1 + 1 + 1 + 1, oW3) :: (s₁.heap.objs.size + 1 + 1 + 1 + 1 + 1 + 1 + 1 + 1 + 1 + 1 + 1, aW) :: (Dw, LCg.lst wds) :: _) N' (List.forall_mem_cons.mpr ⟨(by kat_tups), List.forall_mem_cons.mpr ⟨(by kat_tups), List.forall_mem_cons.mpr ⟨(by kat_tups), fun q hq => hq⟩⟩⟩)
                    clear N'
                    k_extra "lx"
                    rename News _ _ _ _ => nE3
                    rename StrsAre wds _ => hys
                    refine words_item (News.isList nE3 (.tail _ (.tail _ (.head _)))) hys hlo' (show k' < 6 from hhi') ?_
                    intro tq
                    k_extra "lx"
                    refine' ell_two (wd := wd) ⟨by k_asm, by k_asm, by k_asm, by k_asm, by k_asm, by first | exact rfl | assumption, by ktr_room, by ktr_units⟩ hwt (words_short _) ?_ ?_
                    · intro hb h9 tk9 F9 N9
                      k_extra "lx"
                      rename News _ _ _ _ => nE4
                      exact LCg.CompEnd.intro (by assumption) nE4 _ (fun q hq => .tail _ (.tail _ (.tail _ hq))) off' trivial (kci_el (takeG_yes hb) rfl rfl)
                    · intro hb h9 tk9 F9 N9
                      k_extra "lx"
                      rename News _ _ _ _ => nE4
                      exact LCg.CompEnd.intro (by assumption) nE4 _ (fun q hq => .tail _ (.tail _ (.tail _ hq))) off' trivial (kci_no (takeG_no hb) rfl)
                  · k_extra "lx"
                    rename_i Dy hy2 tkY fY nY offY
                    rename IntsAre ys (List.foldl _ _ _) => hY
                    rw [hmv.t] at hY
                    k_dflt (refine LCg.ListComp_U (F₀ := by k_asm) (by with_unfolding_all rfl) (by decide) (by rfl) (by decide) (by rfl) ?_)
                    k_extra "lx"
                    rename IntsAre ys [jv] => hY
                    refine LCg.CompSrc.ledger (by rfl) (by k_asm) (by k_asm) (show (Dy, LCg.lst ys) ∈ _ by kat_tups) (by rw [List.size_toArray, hY.length]; exact Nat.le_of_ble_eq_true rfl) ?_
                    intro g9
                    refine comp_items (xs := [jv]) (fun k v => ∃ t, v = .int k t) hY.length (fun i k v h1 h2 => ?_) (fun pre zs ex3 => ex3 = [] ∧ StrsAre zs (pre.map fun k => wordsW.getD k.toNat Str.empty)) ⟨rfl, .nil⟩ ?_ ?_
                    · obtain ⟨z, u, e1, e2⟩ := intsAt hY h2
                      rw [h1] at e1
                      cases e1
                      exact ⟨u, e2⟩
                    · rintro pre k v I oI' C oC D m₂ zs ex3 h tk E' hmem ⟨t, rfl⟩ ⟨rfl, hzs⟩ hoC hx fE nE off ne
                      dsimp only
                      simp only [List.nil_append] at nE off
                      have hkb : 0 ≤ k ∧ k < 6 := List.mem_singleton.mp hmem ▸ hmv.b
                      have nE2 := cb_drop (news := (s₁.heap.objs.size + 1 + 1 + 1 + 1 + 1 + 1 + 1 + 1 + 1 + 1 + 1, aW) :: (Dw, LCg.lst wds) :: _) nE (List.forall_mem_cons.mpr ⟨(by kat_tups), List.forall_mem_cons.mpr ⟨(by kat_tups), fun q hq => hq⟩⟩)
                      clear nE
                      k_extra "lx"
                      rename News _ _ _ _ => nE3
                      rename StrsAre wds _ => hys
                      refine words_item (News.isList nE3 (.tail _ (.head _))) hys hkb.1 hkb.2 ?_
                      intro tq
                      k_extra "lx"
                      rename News _ _ _ _ => nE4
                      exact LCg.CompEnd.intro (by assumption) nE4 _ (fun q hq => .tail _ (.tail _ hq)) off (Or.inr ⟨LCg.lst ys, by kat_tups, rfl, _, rfl⟩) ⟨[], rfl, rfl, (by rw [List.map_append]; exact strs_snoc hzs)⟩
                    · rintro zs ex3 ⟨rfl, hzs⟩
                      simp only [List.nil_append]
                      k_extra "lx"
                      rename_i Dz hz1 tkz oz lz hz fZ nZ lZ
                      have hzs2 : StrsAre zs [wd] := by
                        have e := hzs
                        rw [List.map_cons, List.map_nil, hmv.w] at e
                        exact e
                      refine ne_word (us := zs) (vs := [Value.str wd t9]) hmv.o (News.isList nZ (.tail _ (.head _))) (News.isList nZ (.head _)) hzs2 (.cons wd _ .nil) (by ktr_units) ?_
                      k_extra "lx"
                      rename News _ _ _ _ => nP
                      rename IntsAre ys [jv] => hY
                      refine first_item (News.isList nP (.tail _ (.tail _ (.head _)))) hY ?_
                      intro tq
                      k_extra "lx"
                      rename Fr _ _ _ _ => fP
                      rename News _ _ _ _ => nP
                      have hRm : ∀ q ∈ ((Dw, LCg.lst wds) :: (Dt, listOf (List.toArray tus) tc) :: (tos ++ ((Di, listOf (List.toArray vis) ci) :: (Dr, listOf (List.toArray rvs) cr) :: (Dg, LCg.lst gs) :: ros))), q.1 < Dm := kst_ltOf lM.2.2.2.2.2.2.2.2.2.2.2.2
                      refine append_K fP (cb_drop (news := (Dm, listOf (List.toArray mus) cm) :: ([(s₁.heap.objs.size + 1 + 1 + 1 + 1 + 1 + 1 + 1 + 1 + 1 + 1 + 1 + 1, oW3), (s₁.heap.objs.size + 1 + 1 + 1 + 1 + 1 + 1 + 1 + 1 + 1 + 1 + 1, aW), (s₁.heap.objs.size + 1 + 1 + 1 + 1 + 1 + 1 + 1 + 1 + 1 + 1, aI), (s₁.heap.objs.size + 1 + 1 + 1 + 1 + 1 + 1 + 1 + 1 + 1, aG), (s₁.heap.objs.size + 1 + 1 + 1 + 1 + 1 + 1 + 1 + 1, aT), (s₁.heap.objs.size + 1 + 1 + 1 + 1 + 1 + 1 + 1, aO), (s₁.heap.objs.size + 1 + 1 + 1 + 1 + 1 + 1, aM), (s₁.heap.objs.size + 1 + 1 + 1 + 1 + 1, aJ), (s₁.heap.objs.size + 1 + 1 + 1 + 1, ai), (s₁.heap.objs.size + 1 + 1 + 1, aY), (s₁.heap.objs.size + 1 + 1, aQ), (s₁.heap.objs.size + 1, aP)] ++ (((Dw, LCg.lst wds) :: (Dt, listOf (List.toArray tus) tc) :: (tos ++ ((Di, listOf (List.toArray vis) ci) :: (Dr, listOf (List.toArray rvs) cr) :: (Dg, LCg.lst gs) :: ros))) ++ [(hm9.objs.size, oX)]))) nP (by k_places)) (Upd.head fun q hq => ?_) ?_ ?_
                      · rcases List.mem_append.mp hq with hq | hq
                        · exact offC_ne hDm q hq
                        rcases List.mem_append.mp hq with hq | hq
                        · exact Nat.ne_of_lt (hRm q hq)
                        · rw [List.mem_singleton.mp hq]
                          exact Nat.ne_of_gt (hMlt (Dm, listOf #[] 0) (by kat_tups))
                      · intro h' F' N'
                        clear fP nP
                        k_extra "lx"
                        rename Fr _ _ _ _ => fP
                        rename News _ _ _ _ => nP
                        simp only [List.push_toArray] at nP
                        rename IntsAre mus _ => hmus
                        have hone : IntsAre [Value.int jv tq] [mvF p r] := hmv.v ▸ .cons _ _ .nil
                        exact ⟨_, _, _, [(s₁.heap.objs.size + 1 + 1 + 1 + 1 + 1 + 1 + 1 + 1 + 1 + 1 + 1 + 1, oW3), (s₁.heap.objs.size + 1 + 1 + 1 + 1 + 1 + 1 + 1 + 1 + 1 + 1 + 1, aW), (s₁.heap.objs.size + 1 + 1 + 1 + 1 + 1 + 1 + 1 + 1 + 1 + 1, aI), (s₁.heap.objs.size + 1 + 1 + 1 + 1 + 1 + 1 + 1 + 1 + 1, aG), (s₁.heap.objs.size + 1 + 1 + 1 + 1 + 1 + 1 + 1 + 1, aT), (s₁.heap.objs.size + 1 + 1 + 1 + 1 + 1 + 1 + 1, aO), (s₁.heap.objs.size + 1 + 1 + 1 + 1 + 1 + 1, aM), (s₁.heap.objs.size + 1 + 1 + 1 + 1 + 1, aJ), (s₁.heap.objs.size + 1 + 1 + 1 + 1, ai), (s₁.heap.objs.size + 1 + 1 + 1, aY), (s₁.heap.objs.size + 1 + 1, aQ), (s₁.heap.objs.size + 1, aP)] ++ ((Dm, listOf (List.toArray (mus ++ [Value.int jv tq])) (cm + 1)) :: ((Dw, LCg.lst wds) :: (Dt, listOf (List.toArray tus) tc) :: (tos ++ ((Di, listOf (List.toArray vis) ci) :: (Dr, listOf (List.toArray rvs) cr) :: (Dg, LCg.lst gs) :: ros)))), rfl, fP, cb_drop nP (by k_places), oW3, _, _, _, rfl, haW3, (by rw [List.take_add_one, hr, List.map_append]; exact hmus.append hone), rfl⟩
                      · rename IntsAre mus _ => hmus
                        have e1 := hmus.length
                        rw [List.length_map, List.length_take] at e1
                        rw [sizeLine_eq, List.size_toArray, e1]
                        exact Nat.le_trans (Nat.min_le_right _ _) (by decide)
              · rintro t h m3 nw ⟨oW2, v2, mus, cm, rfl, hW2, hmus, hm3⟩ fT nT
                clear fM nM2
                have hmus : IntsAre mus (totalsTab.map (mvF p)) := by
                  have e : tus.length = totalsTab.length := RowsAre_len htot
                  rw [e, List.take_length] at hmus
                  exact hmus
                simp only [List.cons_append, List.nil_append] at nT
                rw [mform1 hm3] at fT
                k_extra "lx"
                rename IntsAre mus _ => hmus
                refine' rings_ok (l := Dm) (vs := mus) (ns := totalsTab.map (mvF p)) (nn := cm) ⟨by k_asm, by k_asm, by k_asm, by k_asm, by k_asm, by first | exact rfl | assumption, by ktr_room, by ktr_units⟩ (show (Dm, listOf (List.toArray mus) cm) ∈ _ by kat_tups) hmus (mv_len p) (mv_all hperm) ?_
                intro D1 us1 c1 h1 tk1 L1 hi1 fR nR hlt1 hL1
                k_extra "lx"
                rename IntsAre gs p => hgI
                refine' rings_ok (l := Dg) (vs := gs) (ns := p) (nn := gs.length) ⟨by k_asm, by k_asm, by k_asm, by k_asm, by k_asm, by first | exact rfl | assumption, by ktr_room, by ktr_units⟩ (show (Dg, LCg.lst gs) ∈ _ by kat_tups) hgI hperm.1 hperm.2.1 ?_
                intro D2 us2 c2 h2 tk2 L2 hi2 fS nS hlt2 hL2
                k_extra "lx"
                rename IntsAre us2 _ => hi2
                refine' partner_ok (l := D2) (vs := us2) (ns := ringsF p) (nn := c2) ⟨by k_asm, by k_asm, by k_asm, by k_asm, by k_asm, by first | exact rfl | assumption, by ktr_room, by ktr_units⟩ (.head _) hi2 (rings_six p) ?_
                rintro D3 h3 tk3 fU ⟨us3, c3, nw3, nU, hm9', hi3, hsub⟩
                k_extra "lx"
                rename IntsAre us1 _ => hi1
                rename IntsAre us3 _ => hi3
                refine ke_eq_ints (News.isList nU (hsub (D1, listOf (List.toArray us1) c1) (.tail _ (.head _)))) (News.isList nU hm9') hi1 hi3 (by ktr_units) ?_
                rw [rings_good hperm, decide_eq_true rfl]
                exact hR _ _ (good_end fU (by assumption))
)
end Mine2
theorem PySem.Challenge.cw_sn0021_02_holds : PySem.Challenge.rw_sn0021_02.Holds := by
  exact Mine2.lawHolds

import PyProof.Rows.All
import Wide.All
import OpenK.AllK
import Wide.FinOn
import Flt.RightMore
import PySem.Challenge.RW_mq0127_01
set_option Elab.async false
section
open PySem PySem.W PyProof.Rows
namespace Mine
set_option maxRecDepth 100000 in
set_option maxHeartbeats 8000000 in
open_top hd for PySem.Challenge.rw_mq0127_01
end Mine
end
section
open PySem PySem.W PyProof.Rows PySem.Calls PySem.Spec
namespace Mine
/-! pure float functions -/
noncomputable def ltF (x y : UInt64) : Bool := Float64.cmp x y == some .lt
noncomputable def maxF (x y : UInt64) : UInt64 := if ltF x y then y else x
noncomputable def minF (x y : UInt64) : UInt64 := if ltF y x then y else x

section
variable {prog : Program} {w : World} {A : Around} {E : Value → Shared → Prop} {s : Shared} {Q : Value → Shared → Prop}
theorem max3F {x y z : UInt64} {t u v : Tok} (hh : A.handled = none)
    (h : ∀ h' tk q, (∀ c o, s.heap.get? c = some o → h'.get? c = some o) → Q (.float (maxF (maxF x y) z) q) { s with heap := h', toks := tk }) :
    wpAny (model prog w) A (call (.builtin "max") [.float x t, .float y u, .float z v]) Q E s := by
  have hT : (s.heap.push { cls := .type "tuple", data := .seq #[.float x t, .float y u, .float z v] }).IsTuple s.heap.objs.size #[.float x t, .float y u, .float z v] := ⟨_, Heap.get?_push_size _ rfl, rfl, 0, rfl⟩
  refine call_max_three (wpAny_pyIter_tuple hT ?_)
  have hsz : (s.heap.push { cls := .type "tuple", data := .seq #[.float x t, .float y u, .float z v] }).objs.size = s.heap.objs.size + 1 := Heap.size_push ..
  refine ⟨_, [_, s.heap.objs.size], [_], _, _, _, _, rfl, Walks.tuple (A := A.in1) hh _ s.heap.objs.size (by rw [hsz]; exact Nat.ne_of_lt (Nat.lt_succ_self _)) #[.float x t, .float y u, .float z v],
    ⟨⟨_, Heap.get?_push_size _ rfl, rfl, rfl⟩, hT.push _⟩, fun c hc => ?_, by simp, Flt.cmpOf_gt #[.float x t, .float y u, .float z v] (by intro a ha; simp at ha; rcases ha with rfl | rfl | rfl <;> exact .float _ _), fun r h' tk hP hk => ?_⟩
  · show c < ((s.heap.push _).push _).objs.size
    rw [Heap.size_push, hsz]
    rcases List.mem_cons.mp hc with rfl | hc
    · rw [hsz]; exact Nat.lt_succ_self _
    · rcases List.mem_cons.mp hc with rfl | hc
      · exact Nat.lt_succ_of_lt (Nat.lt_succ_self _)
      · cases hc
  · have hold : ∀ c o, s.heap.get? c = some o → h'.get? c = some o := fun c o e => by
      refine hk c o (fun hm => ?_) (Heap.get?_push_of_some _ (Heap.get?_push_of_some _ e))
      rcases List.mem_cons.mp hm with e1 | hm
      · have := Heap.lt_size e; rw [e1, hsz] at this; exact Nat.lt_irrefl _ (Nat.lt_of_succ_lt this)
      · cases hm
    have hv : ∃ q, r = .float (maxF (maxF x y) z) q := by
      cases h1 : ltF x y
      · cases h2 : ltF x z
        · refine ⟨t, ?_⟩
          simp only [ltF] at h1 h2
          simp [argBest, Flt.ltV, h1, h2] at hP
          simp [maxF, ltF, h1, h2, hP]
        · refine ⟨v, ?_⟩
          simp only [ltF] at h1 h2
          simp [argBest, Flt.ltV, h1, h2] at hP
          simp [maxF, ltF, h1, h2, hP]
      · cases h2 : ltF y z
        · refine ⟨u, ?_⟩
          simp only [ltF] at h1 h2
          simp [argBest, Flt.ltV, h1, h2] at hP
          simp [maxF, ltF, h1, h2, hP]
        · refine ⟨v, ?_⟩
          simp only [ltF] at h1 h2
          simp [argBest, Flt.ltV, h1, h2] at hP
          simp [maxF, ltF, h1, h2, hP]
    obtain ⟨q, rfl⟩ := hv
    exact h h' tk q hold
theorem min3F {x y z : UInt64} {t u v : Tok} (hh : A.handled = none)
    (h : ∀ h' tk q, (∀ c o, s.heap.get? c = some o → h'.get? c = some o) → Q (.float (minF (minF x y) z) q) { s with heap := h', toks := tk }) :
    wpAny (model prog w) A (call (.builtin "min") [.float x t, .float y u, .float z v]) Q E s := by
  have hT : (s.heap.push { cls := .type "tuple", data := .seq #[.float x t, .float y u, .float z v] }).IsTuple s.heap.objs.size #[.float x t, .float y u, .float z v] := ⟨_, Heap.get?_push_size _ rfl, rfl, 0, rfl⟩
  refine call_min_three (wpAny_pyIter_tuple hT ?_)
  have hsz : (s.heap.push { cls := .type "tuple", data := .seq #[.float x t, .float y u, .float z v] }).objs.size = s.heap.objs.size + 1 := Heap.size_push ..
  refine ⟨_, [_, s.heap.objs.size], [_], _, _, _, _, rfl, Walks.tuple (A := A.in1) hh _ s.heap.objs.size (by rw [hsz]; exact Nat.ne_of_lt (Nat.lt_succ_self _)) #[.float x t, .float y u, .float z v],
    ⟨⟨_, Heap.get?_push_size _ rfl, rfl, rfl⟩, hT.push _⟩, fun c hc => ?_, by simp, Flt.cmpOf_lt #[.float x t, .float y u, .float z v] (by intro a ha; simp at ha; rcases ha with rfl | rfl | rfl <;> exact .float _ _), fun r h' tk hP hk => ?_⟩
  · show c < ((s.heap.push _).push _).objs.size
    rw [Heap.size_push, hsz]
    rcases List.mem_cons.mp hc with rfl | hc
    · rw [hsz]; exact Nat.lt_succ_self _
    · rcases List.mem_cons.mp hc with rfl | hc
      · exact Nat.lt_succ_of_lt (Nat.lt_succ_self _)
      · cases hc
  · have hold : ∀ c o, s.heap.get? c = some o → h'.get? c = some o := fun c o e => by
      refine hk c o (fun hm => ?_) (Heap.get?_push_of_some _ (Heap.get?_push_of_some _ e))
      rcases List.mem_cons.mp hm with e1 | hm
      · have := Heap.lt_size e; rw [e1, hsz] at this; exact Nat.lt_irrefl _ (Nat.lt_of_succ_lt this)
      · cases hm
    have hv : ∃ q, r = .float (minF (minF x y) z) q := by
      cases h1 : ltF y x
      · cases h2 : ltF z x
        · refine ⟨t, ?_⟩
          simp only [ltF] at h1 h2
          simp [argBest, Flt.ltV, h1, h2] at hP
          simp [minF, ltF, h1, h2, hP]
        · refine ⟨v, ?_⟩
          simp only [ltF] at h1 h2
          simp [argBest, Flt.ltV, h1, h2] at hP
          simp [minF, ltF, h1, h2, hP]
      · cases h2 : ltF z y
        · refine ⟨u, ?_⟩
          simp only [ltF] at h1 h2
          simp [argBest, Flt.ltV, h1, h2] at hP
          simp [minF, ltF, h1, h2, hP]
        · refine ⟨v, ?_⟩
          simp only [ltF] at h1 h2
          simp [argBest, Flt.ltV, h1, h2] at hP
          simp [minF, ltF, h1, h2, hP]
    obtain ⟨q, rfl⟩ := hv
    exact h h' tk q hold
theorem max3K {x y z : UInt64} {t u v : Tok} {h₀ : Heap} {L : Addr} {m : Str → Option Value} {news : List (Addr × Obj)} (hh : A.handled = none) (F : Fr h₀ L s.heap m) (N : News h₀ L s.heap news)
    (h : ∀ h' tk q, Fr h₀ L h' m → News h₀ L h' news → Q (.float (maxF (maxF x y) z) q) { s with heap := h', toks := tk }) :
    wpAny (model prog w) A (call (.builtin "max") [.float x t, .float y u, .float z v]) Q E s :=
  max3F hh fun h' tk q k => h h' tk q (F.grownK k) (N.grown k)
theorem min3K {x y z : UInt64} {t u v : Tok} {h₀ : Heap} {L : Addr} {m : Str → Option Value} {news : List (Addr × Obj)} (hh : A.handled = none) (F : Fr h₀ L s.heap m) (N : News h₀ L s.heap news)
    (h : ∀ h' tk q, Fr h₀ L h' m → News h₀ L h' news → Q (.float (minF (minF x y) z) q) { s with heap := h', toks := tk }) :
    wpAny (model prog w) A (call (.builtin "min") [.float x t, .float y u, .float z v]) Q E s :=
  min3F hh fun h' tk q k => h h' tk q (F.grownK k) (N.grown k)
end
end Mine
end
section
open PySem PySem.W PyProof.Rows PySem.Calls PySem.Spec
namespace Mine
theorem calm1 : True := by
  w_top off
  trivial
local macro_rules | `(tactic| walk_at $s:str) => `(tactic| k_extra $s)
set_option maxRecDepth 100000
set_option maxHeartbeats 8000000
noncomputable def eqF (x y : UInt64) : Bool := Float64.cmp x y == some .eq
noncomputable abbrev c1 : UInt64 := 0x3ff0000000000000
noncomputable abbrev c2 : UInt64 := 0x4000000000000000
noncomputable abbrev c4 : UInt64 := 0x4010000000000000
noncomputable abbrev c6 : UInt64 := 0x4018000000000000
noncomputable def rgbHue (r g b : UInt64) : UInt64 :=
  let maxc := maxF (maxF r g) b
  let minc := minF (minF r g) b
  let rangec := Float64.sub maxc minc
  if eqF minc maxc then 0 else
  let rc := Float64.div (Float64.sub maxc r) rangec
  let gc := Float64.div (Float64.sub maxc g) rangec
  let bc := Float64.div (Float64.sub maxc b) rangec
  (Float64.divmod (Float64.div (if eqF r maxc then Float64.sub bc gc else if eqF g maxc then Float64.sub (Float64.add c2 rc) bc else Float64.sub (Float64.add c4 gc) rc) c6) c1).2
noncomputable def rgbShare (r g b : UInt64) : UInt64 :=
  let maxc := maxF (maxF r g) b
  let minc := minF (minF r g) b
  if eqF minc maxc then 0 else Float64.div (Float64.sub maxc minc) maxc
noncomputable def rgbValue (r g b : UInt64) : UInt64 := maxF (maxF r g) b
noncomputable def RgbOk (r g b : UInt64) : Prop :=
  eqF (minF (minF r g) b) (maxF (maxF r g) b) = false → Float64.isZero (maxF (maxF r g) b) = false ∧ Float64.isZero (Float64.sub (maxF (maxF r g) b) (minF (minF r g) b)) = false
noncomputable abbrev tup3 (x y z : UInt64) (t u v : Tok) : Obj := { cls := .type "tuple", data := .seq #[.float x t, .float y u, .float z v] }


section
variable {w : World} {p : Program} {loose : List Str} {mean : ExcName → Option Value} {mg mb : Str → Option Value}
    {dp un : Nat} {gd : Option (List Code)} {cn : Str} {cs : Scope} {a : Addr} {ccd : Value} {cl : List (Str × Addr)} {outer : List Env} {A₀ : Around} {base h₀ : Heap} {L : Addr} {m : Str → Option Value} {s : Shared} {Q E : Value → Shared → Prop}
    {news : List (Addr × Obj)} {x y z : UInt64} {tx ty tz : Tok}
theorem hue_0 (h0 : (Float64.cmp (minF (minF x y) z) (maxF (maxF x y) z) == some Ordering.eq) = true) : 0 = rgbHue x y z := by
  unfold rgbHue eqF; simp only [h0, if_true]
theorem hue_1 (h0 : (Float64.cmp (minF (minF x y) z) (maxF (maxF x y) z) == some Ordering.eq) = false) (h1 : (Float64.cmp x (maxF (maxF x y) z) == some Ordering.eq) = true) :
    (Float64.divmod (Float64.div (Float64.sub (Float64.div (Float64.sub (maxF (maxF x y) z) z) (Float64.sub (maxF (maxF x y) z) (minF (minF x y) z))) (Float64.div (Float64.sub (maxF (maxF x y) z) y) (Float64.sub (maxF (maxF x y) z) (minF (minF x y) z)))) c6) c1).2 = rgbHue x y z := by
  unfold rgbHue eqF; simp only [h0, h1, if_true, Bool.false_eq_true, if_false]
theorem hue_2 (h0 : (Float64.cmp (minF (minF x y) z) (maxF (maxF x y) z) == some Ordering.eq) = false) (h1 : (Float64.cmp x (maxF (maxF x y) z) == some Ordering.eq) = false) (h2 : (Float64.cmp y (maxF (maxF x y) z) == some Ordering.eq) = true) :
    (Float64.divmod (Float64.div (Float64.sub (Float64.add c2 (Float64.div (Float64.sub (maxF (maxF x y) z) x) (Float64.sub (maxF (maxF x y) z) (minF (minF x y) z)))) (Float64.div (Float64.sub (maxF (maxF x y) z) z) (Float64.sub (maxF (maxF x y) z) (minF (minF x y) z)))) c6) c1).2 = rgbHue x y z := by
  unfold rgbHue eqF; simp only [h0, h1, h2, if_true, Bool.false_eq_true, if_false]
theorem hue_3 (h0 : (Float64.cmp (minF (minF x y) z) (maxF (maxF x y) z) == some Ordering.eq) = false) (h1 : (Float64.cmp x (maxF (maxF x y) z) == some Ordering.eq) = false) (h2 : (Float64.cmp y (maxF (maxF x y) z) == some Ordering.eq) = false) :
    (Float64.divmod (Float64.div (Float64.sub (Float64.add c4 (Float64.div (Float64.sub (maxF (maxF x y) z) y) (Float64.sub (maxF (maxF x y) z) (minF (minF x y) z)))) (Float64.div (Float64.sub (maxF (maxF x y) z) x) (Float64.sub (maxF (maxF x y) z) (minF (minF x y) z)))) c6) c1).2 = rgbHue x y z := by
  unfold rgbHue eqF; simp only [h0, h1, h2, Bool.false_eq_true, if_false]
theorem share_0 (h0 : (Float64.cmp (minF (minF x y) z) (maxF (maxF x y) z) == some Ordering.eq) = true) : 0 = rgbShare x y z := by
  unfold rgbShare eqF; simp only [h0, if_true]
theorem share_1 (h0 : (Float64.cmp (minF (minF x y) z) (maxF (maxF x y) z) == some Ordering.eq) = false) : Float64.div (Float64.sub (maxF (maxF x y) z) (minF (minF x y) z)) (maxF (maxF x y) z) = rgbShare x y z := by
  unfold rgbShare eqF; simp only [h0, Bool.false_eq_true, if_false]
theorem rgb_no1 (ok : RgbOk x y z) (h0 : (Float64.cmp (minF (minF x y) z) (maxF (maxF x y) z) == some Ordering.eq) = false) (h : Float64.isZero (maxF (maxF x y) z) = true) : False := by
  rw [(ok h0).1] at h; cases h
theorem rgb_no2 (ok : RgbOk x y z) (h0 : (Float64.cmp (minF (minF x y) z) (maxF (maxF x y) z) == some Ordering.eq) = false) (h : Float64.isZero (Float64.sub (maxF (maxF x y) z) (minF (minF x y) z)) = true) : False := by
  rw [(ok h0).2] at h; cases h
theorem rgb_end {D : Addr} {h' : Heap} {tk : Nat} {o : Obj} {H S V : UInt64} {t u v : Tok}
    (hret : ∀ D h' tk t u v, Fr h₀ L h' m → News h₀ L h' ((D, tup3 (rgbHue x y z) (rgbShare x y z) (rgbValue x y z) t u v) :: news) → (∀ p ∈ news, p.1 < D) → Q (.ref D) { s with heap := h', toks := tk })
    (F : Fr h₀ L h' m) (N : News h₀ L h' ((D, o) :: news)) (l : ∀ p ∈ news, p.1 < D) (e1 : o = tup3 H S V t u v) (e2 : H = rgbHue x y z) (e3 : S = rgbShare x y z) (e4 : V = rgbValue x y z) : Q (.ref D) { s with heap := h', toks := tk } := by
  subst e1 e2 e3 e4
  exact hret D h' tk t u v F N l
theorem rgb_call
    (B : Below A₀ base outer h₀) (F : Fr h₀ L s.heap m) (X : (hd.heap_39 w.params).In h₀) (N : News h₀ L s.heap news) (T : Top p loose mean mg mb h₀) (hk : cs.kind = .function)
    (hd : dp + 10 < recursionLimit) (hu : un + 80 < cLine) (ok : RgbOk x y z)
    (hret : ∀ D h' tk t u v, Fr h₀ L h' m → News h₀ L h' ((D, tup3 (rgbHue x y z) (rgbShare x y z) (rgbValue x y z) t u v) :: news) → (∀ p ∈ news, p.1 < D) → Q (.ref D) { s with heap := h', toks := tk }) :
    wpAny (model Challenge.rw_mq0127_01.row.prog w) (ktrTop dp un gd cn cs L a ccd cl outer) (call (.ref 75) [.float x tx, .float y ty, .float z tz]) Q E s := by
  k_with_none
  k_with "call builtin:max" => ((with_reducible show wpAny _ _ (call _ [Value.float _ _, Value.float _ _, Value.float _ _]) _ _ _); refine max3K rfl (by k_asm) (by k_asm) ?_; intro h_7 tk_7 q_7 F_7 N_7; (try k_sweep))
  k_with "call builtin:min" => ((with_reducible show wpAny _ _ (call _ [Value.float _ _, Value.float _ _, Value.float _ _]) _ _ _); refine min3K rfl (by k_asm) (by k_asm) ?_; intro h_7 tk_7 q_7 F_7 N_7; (try k_sweep))
  revert X; k_fill; intro X
  refine wpAny_call ?_
  k_dflt cell_enter
  k_steps
  all_goals first
    | (refine rgb_end hret (by assumption) (by assumption) (by assumption) rfl ?_ ?_ ?_; (first | exact hue_0 (by assumption) | exact hue_1 (by assumption) (by assumption) | exact hue_2 (by assumption) (by assumption) (by assumption) | exact hue_3 (by assumption) (by assumption) (by assumption)); (first | exact share_0 (by assumption) | exact share_1 (by assumption)); exact rfl)
    | (exfalso; exact rgb_no1 ok (by assumption) (by assumption))
    | (exfalso; exact rgb_no2 ok (by assumption) (by assumption))
    | (exfalso; exact absurd (by assumption) (by decide +kernel : ¬ Float64.isZero c6 = true))
    | (exfalso; exact absurd (by assumption) (by decide +kernel : ¬ Float64.isZero c1 = true))
end
end Mine
end
section
open PySem PySem.W PyProof.Rows PySem.Calls PySem.Spec
namespace Mine
set_option maxRecDepth 100000
set_option maxHeartbeats 8000000
noncomputable abbrev hsvI (h : UInt64) : Int := Flt.toInt Float64.truncOf (Float64.mul h c6)
noncomputable abbrev hsvFr (h : UInt64) : UInt64 := Float64.sub (Float64.mul h c6) (Float64.ofInt (hsvI h))
noncomputable abbrev hsvP (s v : UInt64) : UInt64 := Float64.mul v (Float64.sub c1 s)
noncomputable abbrev hsvQ (h s v : UInt64) : UInt64 := Float64.mul v (Float64.sub c1 (Float64.mul s (hsvFr h)))
noncomputable abbrev hsvU (h s v : UInt64) : UInt64 := Float64.mul v (Float64.sub c1 (Float64.mul s (Float64.sub c1 (hsvFr h))))
noncomputable def hsvT (h s v : UInt64) : UInt64 × UInt64 × UInt64 :=
  if eqF s 0 then (v, v, v) else
  if (hsvI h).fmod 6 = 0 then (v, hsvU h s v, hsvP s v) else
  if (hsvI h).fmod 6 = 1 then (hsvQ h s v, v, hsvP s v) else
  if (hsvI h).fmod 6 = 2 then (hsvP s v, v, hsvU h s v) else
  if (hsvI h).fmod 6 = 3 then (hsvP s v, hsvQ h s v, v) else
  if (hsvI h).fmod 6 = 4 then (hsvU h s v, hsvP s v, v) else (v, hsvP s v, hsvQ h s v)
noncomputable def HsvOk (h s : UInt64) : Prop :=
  eqF s 0 = false → Float64.isNaN (Float64.mul h c6) = false ∧ Float64.isInf (Float64.mul h c6) = false ∧ (hsvI h).natAbs < 1000

section
variable {w : World} {p : Program} {loose : List Str} {mean : ExcName → Option Value} {mg mb : Str → Option Value}
    {dp un : Nat} {gd : Option (List Code)} {cn : Str} {cs : Scope} {a : Addr} {ccd : Value} {cl : List (Str × Addr)} {outer : List Env} {A₀ : Around} {base h₀ : Heap} {L : Addr} {m : Str → Option Value} {s : Shared} {Q E : Value → Shared → Prop}
    {news : List (Addr × Obj)} {x y z : UInt64} {tx ty tz : Tok}
theorem hsv_0 (h0 : (Float64.cmp y 0 == some Ordering.eq) = true) : (z, z, z) = hsvT x y z := by unfold hsvT eqF; simp only [h0, if_true]
theorem hsv_1 (h0 : (Float64.cmp y 0 == some Ordering.eq) = false) (e0 : (hsvI x).fmod 6 = 0) : (z, hsvU x y z, hsvP y z) = hsvT x y z := by
  unfold hsvT eqF; rw [if_neg (by rw [h0]; exact Bool.false_ne_true), if_pos e0]
theorem hsv_2 (h0 : (Float64.cmp y 0 == some Ordering.eq) = false) (e0 : (hsvI x).fmod 6 = 1) : (hsvQ x y z, z, hsvP y z) = hsvT x y z := by
  unfold hsvT eqF; rw [if_neg (by rw [h0]; exact Bool.false_ne_true), if_neg (by omega), if_pos e0]
theorem hsv_3 (h0 : (Float64.cmp y 0 == some Ordering.eq) = false) (e0 : (hsvI x).fmod 6 = 2) : (hsvP y z, z, hsvU x y z) = hsvT x y z := by
  unfold hsvT eqF; rw [if_neg (by rw [h0]; exact Bool.false_ne_true), if_neg (by omega), if_neg (by omega), if_pos e0]
theorem hsv_4 (h0 : (Float64.cmp y 0 == some Ordering.eq) = false) (e0 : (hsvI x).fmod 6 = 3) : (hsvP y z, hsvQ x y z, z) = hsvT x y z := by
  unfold hsvT eqF; rw [if_neg (by rw [h0]; exact Bool.false_ne_true), if_neg (by omega), if_neg (by omega), if_neg (by omega), if_pos e0]
theorem hsv_5 (h0 : (Float64.cmp y 0 == some Ordering.eq) = false) (e0 : (hsvI x).fmod 6 = 4) : (hsvU x y z, hsvP y z, z) = hsvT x y z := by
  unfold hsvT eqF; rw [if_neg (by rw [h0]; exact Bool.false_ne_true), if_neg (by omega), if_neg (by omega), if_neg (by omega), if_neg (by omega), if_pos e0]
theorem hsv_6 (h0 : (Float64.cmp y 0 == some Ordering.eq) = false) (e0 : (hsvI x).fmod 6 = 5) : (z, hsvP y z, hsvQ x y z) = hsvT x y z := by
  unfold hsvT eqF; rw [if_neg (by rw [h0]; exact Bool.false_ne_true), if_neg (by omega), if_neg (by omega), if_neg (by omega), if_neg (by omega), if_neg (by omega)]
theorem hsv_no1 (ok : HsvOk x y) (h0 : (Float64.cmp y 0 == some Ordering.eq) = false) (h : Float64.isNaN (Float64.mul x c6) = true) : False := by
  rw [(ok h0).1] at h; cases h
theorem hsv_no2 (ok : HsvOk x y) (h0 : (Float64.cmp y 0 == some Ordering.eq) = false) (h : Float64.isInf (Float64.mul x c6) = true) : False := by
  rw [(ok h0).2.1] at h; cases h
theorem hsv_no3 (ok : HsvOk x y) (h0 : (Float64.cmp y 0 == some Ordering.eq) = false) (h : 2 ^ 1024 - 2 ^ 970 ≤ (hsvI x).natAbs) : False := by
  have h1 := (ok h0).2.2
  have h2 : 1000 < 2 ^ 1024 - 2 ^ 970 := by decide +kernel
  exact absurd (Nat.lt_of_lt_of_le h2 h) (Nat.not_lt.mpr (Nat.le_of_lt h1))
theorem hsv_no4 {i : Int} (n0 : i.fmod 6 ≠ 0) (n1 : i.fmod 6 ≠ 1) (n2 : i.fmod 6 ≠ 2) (n3 : i.fmod 6 ≠ 3) (n4 : i.fmod 6 ≠ 4) (n5 : i.fmod 6 ≠ 5) : False := by
  have h1 := Int.fmod_nonneg_of_pos i (b := 6) (by decide)
  have h2 := Int.fmod_lt_of_pos i (b := 6) (by decide)
  omega
theorem hsv_end {D : Addr} {h' : Heap} {tk : Nat} {o : Obj} {H S V : UInt64} {t u v : Tok}
    (hret : ∀ D h' tk t u v, Fr h₀ L h' m → News h₀ L h' ((D, tup3 (hsvT x y z).1 (hsvT x y z).2.1 (hsvT x y z).2.2 t u v) :: news) → (∀ p ∈ news, p.1 < D) → Q (.ref D) { s with heap := h', toks := tk })
    (F : Fr h₀ L h' m) (N : News h₀ L h' ((D, o) :: news)) (l : ∀ p ∈ news, p.1 < D) (e1 : o = tup3 H S V t u v) (e2 : (H, S, V) = hsvT x y z) : Q (.ref D) { s with heap := h', toks := tk } := by
  subst e1
  rw [← e2] at hret
  exact hret D h' tk t u v F N l
theorem hsv_call
    (B : Below A₀ base outer h₀) (F : Fr h₀ L s.heap m) (X : (hd.heap_39 w.params).In h₀) (N : News h₀ L s.heap news) (T : Top p loose mean mg mb h₀) (hk : cs.kind = .function)
    (hd : dp + 10 < recursionLimit) (hu : un + 80 < cLine) (ok : HsvOk x y)
    (hret : ∀ D h' tk t u v, Fr h₀ L h' m → News h₀ L h' ((D, tup3 (hsvT x y z).1 (hsvT x y z).2.1 (hsvT x y z).2.2 t u v) :: news) → (∀ p ∈ news, p.1 < D) → Q (.ref D) { s with heap := h', toks := tk }) :
    wpAny (model Challenge.rw_mq0127_01.row.prog w) (ktrTop dp un gd cn cs L a ccd cl outer) (call (.ref 82) [.float x tx, .float y ty, .float z tz]) Q E s := by
  revert X; k_fill; intro X
  refine wpAny_call ?_
  k_dflt cell_enter
  k_steps
  all_goals first
    | (refine hsv_end hret (by assumption) (by assumption) (by assumption) rfl ?_; (first | exact hsv_0 (by assumption) | exact hsv_1 (by assumption) (by assumption) | exact hsv_2 (by assumption) (by assumption) | exact hsv_3 (by assumption) (by assumption) | exact hsv_4 (by assumption) (by assumption) | exact hsv_5 (by assumption) (by assumption) | exact hsv_6 (by assumption) (by assumption)))
    | (exfalso; exact hsv_no1 ok (by assumption) (by assumption))
    | (exfalso; exact hsv_no2 ok (by assumption) (by assumption))
    | (exfalso; exact hsv_no3 ok (by assumption) (by assumption))
    | (exfalso; exact hsv_no4 (by assumption) (by assumption) (by assumption) (by assumption) (by assumption) (by assumption))
end
end Mine
end
section
open PySem PySem.W PyProof.Rows PySem.Calls PySem.Spec
namespace Mine
noncomputable abbrev hi3 (x y z : Int) : Int := max (max x y) z
noncomputable abbrev lo3 (x y z : Int) : Int := min (min x y) z
noncomputable def sizeI (x y z : Int) : Int := hi3 x y z - lo3 x y z
noncomputable def placeI (x y z : Int) : Int :=
  if x = hi3 x y z then (if z ≤ y then y - z else 6 * sizeI x y z + (y - z))
  else if y = hi3 x y z then 2 * sizeI x y z + (z - x) else 4 * sizeI x y z + (x - y)
noncomputable def codeI (x y z : Int) : Int := if sizeI x y z = 0 then 100 else 100 + 100 * (placeI x y z).fdiv (sizeI x y z) + (placeI x y z).fmod (sizeI x y z)
noncomputable def fdv (a b : Int) : UInt64 := Float64.ofFrac (decide (a < 0) != decide (b < 0)) a.natAbs b.natAbs
noncomputable abbrev HUE (x y z : Int) : UInt64 := rgbHue (fdv x 9) (fdv y 9) (fdv z 9)
noncomputable abbrev SHARE (x y z : Int) : UInt64 := rgbShare (fdv x 9) (fdv y 9) (fdv z 9)
noncomputable abbrev VAL (x y z : Int) : UInt64 := rgbValue (fdv x 9) (fdv y 9) (fdv z 9)
noncomputable abbrev Dig (x : Int) : Prop := 0 ≤ x ∧ x ≤ 9
noncomputable def RoundsTo (x : UInt64) (n : Int) : Prop := Float64.isFinite x = true ∧ Flt.toInt Float64.nearestOf x = n
theorem hl {x y z : Int} : (x ≤ hi3 x y z ∧ y ≤ hi3 x y z ∧ z ≤ hi3 x y z) ∧ lo3 x y z ≤ x ∧ lo3 x y z ≤ y ∧ lo3 x y z ≤ z :=
  ⟨⟨Int.le_trans (Int.le_max_left ..) (Int.le_max_left ..), Int.le_trans (Int.le_max_right ..) (Int.le_max_left ..), Int.le_max_right ..⟩,
    Int.le_trans (Int.min_le_left ..) (Int.min_le_left ..), Int.le_trans (Int.min_le_left ..) (Int.min_le_right ..), Int.min_le_right ..⟩
theorem hl9 {x y z : Int} (hx : Dig x) (hy : Dig y) (hz : Dig z) : hi3 x y z ≤ 9 ∧ 0 ≤ lo3 x y z :=
  ⟨Int.max_le.mpr ⟨Int.max_le.mpr ⟨hx.2, hy.2⟩, hz.2⟩, Int.le_min.mpr ⟨Int.le_min.mpr ⟨hx.1, hy.1⟩, hz.1⟩⟩
theorem lo_hi {x y z : Int} : lo3 x y z ≤ hi3 x y z := Int.le_trans hl.2.1 hl.1.1
theorem lt_of_size {x y z : Int} (h : sizeI x y z ≠ 0) : lo3 x y z < hi3 x y z := by
  have := lo_hi (x := x) (y := y) (z := z)
  unfold sizeI at h; omega
theorem size_bounds {x y z : Int} (hx : Dig x) (hy : Dig y) (hz : Dig z) : 0 ≤ sizeI x y z ∧ sizeI x y z ≤ 9 := by
  have b := hl9 hx hy hz
  unfold sizeI
  exact ⟨Int.sub_nonneg_of_le lo_hi, Int.le_trans (Int.sub_le_self _ b.2) b.1⟩
theorem place_le {x y z : Int} : placeI x y z ≤ 6 * sizeI x y z := by
  have ⟨⟨a, b, c⟩, d, e, f⟩ := hl (x := x) (y := y) (z := z)
  unfold placeI sizeI
  generalize hi3 x y z = H at *
  generalize lo3 x y z = l at *
  split
  · split <;> omega
  · split <;> omega
theorem place_bounds {x y z : Int} (hx : Dig x) (hy : Dig y) (hz : Dig z) : 0 ≤ placeI x y z ∧ placeI x y z ≤ 54 := by
  refine ⟨?_, Int.le_trans place_le (by have := size_bounds hx hy hz; omega)⟩
  have ⟨⟨a, b, c⟩, d, e, f⟩ := hl (x := x) (y := y) (z := z)
  unfold placeI sizeI
  generalize hi3 x y z = H at *
  generalize lo3 x y z = l at *
  split
  · split <;> omega
  · split <;> omega
/-- the colour at place k of the wheel -/
noncomputable def wheelI (lo hi k : Int) : Int × Int × Int :=
  if k.fdiv (hi - lo) = 0 then (hi, lo + k.fmod (hi - lo), lo) else
  if k.fdiv (hi - lo) = 1 then (hi - k.fmod (hi - lo), hi, lo) else
  if k.fdiv (hi - lo) = 2 then (lo, hi, lo + k.fmod (hi - lo)) else
  if k.fdiv (hi - lo) = 3 then (lo, hi - k.fmod (hi - lo), hi) else
  if k.fdiv (hi - lo) = 4 then (lo + k.fmod (hi - lo), lo, hi) else (hi, lo, hi - k.fmod (hi - lo))
noncomputable def turnI (x y z st : Int) : Int × Int × Int :=
  if sizeI x y z = 0 then (x, y, z) else wheelI (lo3 x y z) (hi3 x y z) ((placeI x y z + st).fmod (6 * sizeI x y z))
noncomputable abbrev TURN (x y z st : Int) : UInt64 := Float64.add (HUE x y z) (fdv st (max (6 * sizeI x y z) 1))
noncomputable abbrev Step (st : Int) : Prop := 1 ≤ st ∧ st ≤ 20
theorem turn_dig {x y z st : Int} (hx : Dig x) (hy : Dig y) (hz : Dig z) : Dig (turnI x y z st).1 ∧ Dig (turnI x y z st).2.1 ∧ Dig (turnI x y z st).2.2 := by
  unfold turnI
  by_cases h : sizeI x y z = 0
  · rw [if_pos h]; exact ⟨hx, hy, hz⟩
  · rw [if_neg h]
    have hs : 0 < hi3 x y z - lo3 x y z := by
      have := size_bounds hx hy hz
      unfold sizeI at h this; omega
    generalize (placeI x y z + st).fmod (6 * sizeI x y z) = k
    have h1 := Int.fmod_nonneg_of_pos k hs
    have h2 := Int.fmod_lt_of_pos k hs
    have h3 := (hl9 hx hy hz).symm
    generalize hi3 x y z = hi at *
    generalize lo3 x y z = lo at *
    clear h hx hy hz
    unfold wheelI
    unfold Dig
    repeat' split
    all_goals (simp only; omega)
/-! what is meant, as plain functions -/
noncomputable abbrev acceptI (x y z : Int) : Prop := 200 ≤ codeI x y z ∧ codeI x y z < 300
noncomputable def runI (st : Int) : Nat → Int → Int → Int → List (Int × Int × Int) → List (Int × Int × Int) × (Int × Int × Int)
  | 0, x, y, z, told => if acceptI x y z then (told, (x, y, z)) else (told ++ [(x, y, z)], (x, y, z))
  | k + 1, x, y, z, told => if acceptI x y z then (told, (x, y, z)) else runI st k (turnI x y z st).1 (turnI x y z st).2.1 (turnI x y z st).2.2 (told ++ [(x, y, z)])
end Mine
end
section
open PySem PySem.Float64
namespace Mine.Fl
/-! every multiple of 2^1028 (2^-47 in units of one) up to 2^53 of them is a float's magnitude -/
theorem rep (N : Nat) (h : N ≤ 2 ^ 53) : ∃ t, V t = N * 2 ^ 1028 := by
  by_cases h0 : N = 0
  · exact ⟨0, by rw [h0, V_zero, Nat.zero_mul]⟩
  · by_cases hb : 2 ^ 52 ≤ N
    · exact ⟨1028 * 2 ^ 52 + N, V_at h (.inl hb)⟩
    · have hl : N.log2 ≤ 52 := by
        have : N.log2 < 53 := (Nat.log2_lt h0).mpr (by omega)
        omega
      have h1 : 2 ^ N.log2 ≤ N := Nat.log2_self_le h0
      have h2 : N < 2 ^ (N.log2 + 1) := Nat.lt_log2_self
      refine ⟨(1028 - (52 - N.log2)) * 2 ^ 52 + N * 2 ^ (52 - N.log2), ?_⟩
      have e1 : 2 ^ N.log2 * 2 ^ (52 - N.log2) = 2 ^ 52 := by rw [← Nat.pow_add]; congr 1; omega
      have e2 : 2 ^ (N.log2 + 1) * 2 ^ (52 - N.log2) = 2 ^ 53 := by rw [← Nat.pow_add]; congr 1; omega
      have h3 : 2 ^ 52 ≤ N * 2 ^ (52 - N.log2) := by rw [← e1]; exact Nat.mul_le_mul_right _ h1
      have h4 : N * 2 ^ (52 - N.log2) ≤ 2 ^ 53 := by rw [← e2]; exact Nat.mul_le_mul_right _ (Nat.le_of_lt h2)
      rw [V_at h4 (.inl h3), Nat.mul_assoc, ← Nat.pow_add]
      congr 2; omega
theorem near_aux {W D K : Nat} (hD : 0 < D) (hK : 0 < K) (hrep : ∀ N ≤ 2 ^ 53, ∃ t, V t = N * (2 * K)) (hW : W ≤ D * (2 * K) * 2 ^ 52) : ∃ t, PySem.Float64.dist W (D * V t) ≤ D * K := by
  have hK2 : 0 < D * (2 * K) := Nat.mul_pos hD (by omega)
  have hq : W / (D * (2 * K)) ≤ 2 ^ 52 := Nat.div_le_of_le_mul hW
  have hdm := Nat.div_add_mod W (D * (2 * K))
  have hr := Nat.mod_lt W hK2
  generalize W / (D * (2 * K)) = q at *
  generalize W % (D * (2 * K)) = r at *
  have h2 : D * (2 * K) = 2 * (D * K) := by ac_rfl
  by_cases hc : r ≤ D * K
  · obtain ⟨t, ht⟩ := hrep q (by omega)
    refine ⟨t, ?_⟩
    rw [ht]
    have e : D * (q * (2 * K)) = D * (2 * K) * q := by ac_rfl
    rw [e]
    unfold PySem.Float64.dist
    omega
  · obtain ⟨t, ht⟩ := hrep (q + 1) (by omega)
    refine ⟨t, ?_⟩
    rw [ht]
    have e : D * ((q + 1) * (2 * K)) = D * (2 * K) * q + D * (2 * K) := by rw [Nat.add_mul, Nat.mul_add, Nat.one_mul]; ac_rfl
    rw [e]
    unfold PySem.Float64.dist
    omega
theorem near_rep {W D : Nat} (hD : 0 < D) (hW : W ≤ D * 2 ^ 1080) : ∃ t, PySem.Float64.dist W (D * V t) ≤ D * 2 ^ 1027 := by
  have e : (2 : Nat) ^ 1028 = 2 * 2 ^ 1027 := by rw [Nat.pow_succ, Nat.mul_comm]
  have e2 : (2 : Nat) ^ 1080 = 2 * 2 ^ 1027 * 2 ^ 52 := by rw [← e, ← Nat.pow_add]
  refine near_aux hD (Nat.two_pow_pos _) (fun N hN => ?_) ?_
  · rw [← e]; exact rep N hN
  · rw [Nat.mul_assoc, ← e2]; exact hW
theorem right_near {r : UInt64} {neg : Bool} {W D : Nat} (h : Right r neg W D) (hD : 0 < D) (hW : W ≤ D * 2 ^ 1080) :
    ∃ t m e, decode r = .fin neg m e ∧ val r = sgn neg (V t) ∧ PySem.Float64.dist W (D * V t) ≤ D * 2 ^ 1027 := by
  obtain ⟨t, rfl, hle, hov, hbest⟩ := h
  have hlt : t < infMag := by
    rcases Nat.lt_or_ge t infMag with q | q
    · exact q
    · exfalso
      have q' : t = infMag := by omega
      have := hov.mp q'
      have e : D * 2 ^ 1080 * 2 < D * ((2 ^ 54 - 1) * 2 ^ 2045) := by
        rw [Nat.mul_assoc]
        refine (Nat.mul_lt_mul_left hD).mpr ?_
        decide +kernel
      omega
  obtain ⟨t', ht'⟩ := near_rep hD hW
  obtain ⟨m, e, hd, hv⟩ := decode_pack neg hlt
  exact ⟨t, m, e, hd, val_pack neg hlt, Nat.le_trans (hbest hlt t').1 ht'⟩
end Mine.Fl
end
section
open PySem PySem.Float64
namespace Mine.Fl
/-- the one, in units of the least float -/
noncomputable def ONE : Rat := ((2 ^ 1074 : Nat) : Rat)
theorem one_pos : 0 < ONE := by
  unfold ONE
  exact Rat.natCast_pos.mpr (Nat.two_pow_pos _)
/-- a float's value -/
noncomputable def rv (x : UInt64) : Rat := (val x : Rat) / ONE
noncomputable def IsFin (x : UInt64) : Prop := ∃ a m e, decode x = .fin a m e
noncomputable def uu : Rat := 1 / 140737488355328
/-- x lies within e of X -/
noncomputable def Near (x : UInt64) (X e : Rat) : Prop := IsFin x ∧ X - e ≤ rv x ∧ rv x ≤ X + e
theorem dist_le {a b c : Nat} (h : PySem.Float64.dist a b ≤ c) : a ≤ b + c ∧ b ≤ a + c := by
  unfold PySem.Float64.dist at h; omega
theorem le_div {a b c : Rat} (hc : 0 < c) (h : a * c ≤ b) : a ≤ b / c := by
  have e : b / c * c = b := Rat.div_mul_cancel (by grind)
  exact Rat.le_of_mul_le_mul_right (by rw [e]; exact h) hc
theorem div_le {a b c : Rat} (hc : 0 < c) (h : b ≤ a * c) : b / c ≤ a := by
  have e : b / c * c = b := Rat.div_mul_cancel (by grind)
  exact Rat.le_of_mul_le_mul_right (by rw [e]; exact h) hc
theorem near_core {a w d K O u : Rat} (hd : 0 < d) (hO : 0 < O) (hK : K = u * O) (h1 : w ≤ d * a + d * K) (h2 : d * a ≤ w + d * K) : w / d / O - u ≤ a / O ∧ a / O ≤ w / d / O + u := by
  have e1 : w / d ≤ a + K := div_le hd (by grind)
  have e2 : a - K ≤ w / d := le_div hd (by grind)
  have e3 : w / d / O * O = w / d := Rat.div_mul_cancel (by grind)
  have e4 : a / O * O = a := Rat.div_mul_cancel (by grind)
  constructor
  · refine Rat.le_of_mul_le_mul_right (c := O) ?_ hO; grind
  · refine Rat.le_of_mul_le_mul_right (c := O) ?_ hO; grind
theorem pow_one : (((2 ^ 1027 : Nat) : Rat)) = uu * ONE := by
  have e : (2 : Nat) ^ 1074 = 2 ^ 1027 * 2 ^ 47 := by rw [← Nat.pow_add]
  unfold ONE uu
  rw [e, Rat.natCast_mul]
  generalize ((2 ^ 1027 : Nat) : Rat) = K
  have e2 : (((2 ^ 47 : Nat)) : Rat) = 140737488355328 := by simp
  rw [e2]
  grind
theorem right_rat {r : UInt64} {neg : Bool} {W D : Nat} (h : Right r neg W D) (hD : 0 < D) (hW : W ≤ D * 2 ^ 1080) :
    Near r (if neg then -((W : Rat) / D / ONE) else (W : Rat) / D / ONE) uu := by
  obtain ⟨t, m, e, hd, hv, hdist⟩ := right_near h hD hW
  obtain ⟨h1, h2⟩ := dist_le hdist
  refine ⟨⟨_, _, _, hd⟩, ?_⟩
  have hDp : (0 : Rat) < (D : Rat) := Rat.natCast_pos.mpr hD
  have q1 : (W : Rat) ≤ (D : Rat) * (V t : Rat) + (D : Rat) * ((2 ^ 1027 : Nat) : Rat) := by
    rw [← Rat.natCast_mul, ← Rat.natCast_mul, ← Rat.natCast_add]
    exact Rat.natCast_le_natCast.mpr h1
  have q2 : (D : Rat) * (V t : Rat) ≤ (W : Rat) + (D : Rat) * ((2 ^ 1027 : Nat) : Rat) := by
    rw [← Rat.natCast_mul, ← Rat.natCast_mul, ← Rat.natCast_add]
    exact Rat.natCast_le_natCast.mpr h2
  obtain ⟨k1, k2⟩ := near_core hDp one_pos pow_one q1 q2
  unfold rv
  rw [hv]
  unfold sgn
  cases neg
  · simpa using ⟨k1, k2⟩
  · simp only [if_true, Rat.intCast_neg, Rat.intCast_natCast]
    have e : -(V t : Rat) / ONE = -((V t : Rat) / ONE) := by grind
    rw [e]
    constructor <;> grind
end Mine.Fl
end
section
open PySem PySem.Float64
namespace Mine.Fl
theorem right_q {r : UInt64} {neg : Bool} {W D : Nat} {X : Rat} (h : Right r neg W D) (hD : 0 < D) (hX : (if neg then -((W : Rat) / D / ONE) else (W : Rat) / D / ONE) = X) (h1 : -60 ≤ X) (h2 : X ≤ 60) : Near r X uu := by
  have hDp : (0 : Rat) < (D : Rat) := Rat.natCast_pos.mpr hD
  have hO := one_pos
  have e1 : (W : Rat) / D / ONE * ONE = (W : Rat) / D := Rat.div_mul_cancel (by grind)
  have e2 : (W : Rat) / D * D = (W : Rat) := Rat.div_mul_cancel (by grind)
  have hq : (W : Rat) / D / ONE ≤ 60 := by cases neg <;> simp at hX <;> grind
  have hw : (W : Rat) ≤ ((60 * (D * 2 ^ 1074) : Nat) : Rat) := by
    rw [Rat.natCast_mul, Rat.natCast_mul]
    show (W : Rat) ≤ ((60 : Nat) : Rat) * ((D : Rat) * ONE)
    have k1 : (W : Rat) / D / ONE * ONE ≤ 60 * ONE := Rat.mul_le_mul_of_nonneg_right hq (by grind)
    rw [e1] at k1
    have k2 : (W : Rat) / D * D ≤ 60 * ONE * D := Rat.mul_le_mul_of_nonneg_right k1 (by grind)
    rw [e2] at k2
    have : ((60 : Nat) : Rat) = 60 := rfl
    grind
  have hw := Rat.natCast_le_natCast.mp hw
  have e : (2 : Nat) ^ 1080 = 64 * 2 ^ 1074 := by
    rw [show (64 : Nat) = 2 ^ 6 from rfl, ← Nat.pow_add]
  have hW : W ≤ D * 2 ^ 1080 := by
    rw [e]
    generalize (2 : Nat) ^ 1074 = K at *
    have : D * (64 * K) = 64 * (D * K) := by ac_rfl
    omega
  rw [← hX]
  exact right_rat h hD hW
theorem rv_sgn {x : UInt64} {a : Bool} {m : Nat} {e : Int} (h : decode x = .fin a m e) : (val x : Rat) = if a then -(((val x).natAbs : Nat) : Rat) else (((val x).natAbs : Nat) : Rat) := by
  rw [val_natAbs h, val_eq h]
  unfold sgn
  cases a
  · simp only [Bool.false_eq_true, if_false, Rat.intCast_natCast]
  · simp only [if_true, Rat.intCast_natCast, Rat.intCast_neg]
theorem natAbs_rat (S : Int) : ((S.natAbs : Nat) : Rat) = if S < 0 then -(S : Rat) else (S : Rat) := by
  split
  · rename_i h
    have : ((S.natAbs : Nat) : Int) = -S := by omega
    rw [← Rat.intCast_natCast, this, Rat.intCast_neg]
  · rename_i h
    have : ((S.natAbs : Nat) : Int) = S := by omega
    rw [← Rat.intCast_natCast, this]
theorem dec_zero (b : Bool) : ∃ e, decode (zero b) = .fin b 0 e := by
  refine ⟨-1074, ?_⟩
  cases b
  · with_unfolding_all rfl
  · with_unfolding_all rfl
theorem rv_zero (b : Bool) : rv (zero b) = 0 := by
  obtain ⟨e, h⟩ := dec_zero b
  unfold rv
  rw [val_eq h]
  cases b <;> simp [sgn] <;> grind
theorem fin_zero (b : Bool) : IsFin (zero b) := let ⟨_, h⟩ := dec_zero b; ⟨_, _, _, h⟩
theorem uu_pos : 0 < uu := by unfold uu; decide +kernel
theorem near_zero {X : Rat} (b : Bool) (h : X = 0) : Near (zero b) X uu := ⟨fin_zero b, by rw [rv_zero, h]; have := uu_pos; grind, by rw [rv_zero, h]; have := uu_pos; grind⟩
theorem sum_core {S : Int} {r : UInt64} {z : Bool} (hz : S = 0 → r = zero z) (hr : S ≠ 0 → Right r (decide (S < 0)) S.natAbs 1) (h1 : -60 ≤ (S : Rat) / ONE) (h2 : (S : Rat) / ONE ≤ 60) : Near r ((S : Rat) / ONE) uu := by
  by_cases h : S = 0
  · rw [hz h]
    refine near_zero z ?_
    subst h
    simp
    grind
  · refine right_q (hr h) (by decide) ?_ h1 h2
    rw [natAbs_rat]
    have e : ((1 : Nat) : Rat) = 1 := rfl
    rw [e]
    by_cases hs : S < 0
    · simp only [hs, decide_true, if_true]; grind
    · simp only [hs, decide_false, if_false, Bool.false_eq_true]; grind
theorem add_rv {x y : UInt64} (hx : IsFin x) (hy : IsFin y) (h1 : -60 ≤ rv x + rv y) (h2 : rv x + rv y ≤ 60) : Near (add x y) (rv x + rv y) uu := by
  obtain ⟨a, m, e, hx⟩ := hx
  obtain ⟨b, k, f, hy⟩ := hy
  obtain ⟨q1, q2⟩ := add_right hx hy
  have e : rv x + rv y = ((val x + val y : Int) : Rat) / ONE := by unfold rv; rw [Rat.intCast_add]; grind
  rw [e] at h1 h2 ⊢
  exact sum_core q1 q2 h1 h2
theorem sub_rv {x y : UInt64} (hx : IsFin x) (hy : IsFin y) (h1 : -60 ≤ rv x - rv y) (h2 : rv x - rv y ≤ 60) : Near (sub x y) (rv x - rv y) uu := by
  obtain ⟨a, m, e, hx⟩ := hx
  obtain ⟨b, k, f, hy⟩ := hy
  obtain ⟨q1, q2⟩ := sub_right hx hy
  have e : rv x - rv y = ((val x - val y : Int) : Rat) / ONE := by unfold rv; rw [Rat.intCast_sub]; grind
  rw [e] at h1 h2 ⊢
  exact sum_core q1 q2 h1 h2
theorem one_nat : (((2 ^ 1074 : Nat)) : Rat) = ONE := rfl
theorem mul_rv {x y : UInt64} (hx : IsFin x) (hy : IsFin y) (h1 : -60 ≤ rv x * rv y) (h2 : rv x * rv y ≤ 60) : Near (mul x y) (rv x * rv y) uu := by
  obtain ⟨a, m, e, hx⟩ := hx
  obtain ⟨b, k, f, hy⟩ := hy
  refine right_q (mul_right hx hy) (Nat.two_pow_pos _) ?_ h1 h2
  unfold rv
  rw [rv_sgn hx, rv_sgn hy, one_nat, Rat.natCast_mul]
  generalize (((val x).natAbs : Nat) : Rat) = p
  generalize (((val y).natAbs : Nat) : Rat) = q
  have hO := one_pos
  generalize ONE = O at *
  cases a <;> cases b <;> simp <;> grind
theorem div_rv {x y : UInt64} (hx : IsFin x) (hy : IsFin y) (h0 : rv y ≠ 0) (h1 : -60 ≤ rv x / rv y) (h2 : rv x / rv y ≤ 60) : Near (div x y) (rv x / rv y) uu := by
  obtain ⟨a, m, e, hx⟩ := hx
  obtain ⟨b, k, f, hy⟩ := hy
  have hv : val y ≠ 0 := by
    intro h
    apply h0
    unfold rv
    rw [h]
    simp
    grind
  have hk : k ≠ 0 := by
    intro h
    apply hv
    rw [val_eq hy, h, Nat.zero_mul]
    cases b <;> rfl
  refine right_q (div_right hx hy hk) (by omega) ?_ h1 h2
  have hn : (((val y).natAbs : Nat) : Rat) ≠ 0 := by
    intro h
    have : ((0 : Nat) : Rat) = 0 := rfl
    rw [← this] at h
    have := Rat.natCast_inj.mp h
    omega
  unfold rv
  rw [rv_sgn hx, rv_sgn hy, Rat.natCast_mul, one_nat]
  generalize (((val x).natAbs : Nat) : Rat) = p at *
  generalize (((val y).natAbs : Nat) : Rat) = q at *
  have hO := one_pos
  generalize ONE = O at *
  cases a <;> cases b <;> simp <;> grind
theorem fdv_near {a b : Int} (ha : 0 ≤ a) (hb : 0 < b) (h : a ≤ 60 * b) : Near (fdv a b) ((a : Rat) / (b : Rat)) uu := by
  unfold fdv
  have hbp : (0 : Rat) < (b : Rat) := by
    have := Rat.intCast_lt_intCast.mpr hb
    simpa using this
  have hap : (0 : Rat) ≤ (a : Rat) := by
    have := Rat.intCast_le_intCast.mpr ha
    simpa using this
  have hq : (a : Rat) / b * b = a := Rat.div_mul_cancel (by grind)
  have e1 : (decide (a < 0) != decide (b < 0)) = false := by
    rw [decide_eq_false (by omega), decide_eq_false (by omega)]; rfl
  rw [e1]
  refine right_q (W := a.natAbs * 2 ^ 1074) (D := b.natAbs) (ofFrac_right (by omega) rfl (by omega)) (by omega) ?_ ?_ ?_
  · rw [if_neg Bool.false_ne_true, Rat.natCast_mul, one_nat, natAbs_rat, natAbs_rat, if_neg (by omega), if_neg (by omega)]
    have hO := one_pos
    generalize ONE = O at *
    grind
  · have : 0 ≤ (a : Rat) / b := le_div hbp (by grind)
    grind
  · refine div_le hbp ?_
    have := Rat.intCast_le_intCast.mpr h
    rw [Rat.intCast_mul] at this
    simpa using this
theorem ofInt_near {a : Int} (ha : 0 ≤ a) (h : a ≤ 60) : Near (ofInt a) (a : Rat) uu := by
  have q := fdv_near ha (b := 1) (by decide) (by omega)
  have e : fdv a 1 = ofInt a := by
    unfold fdv ofInt
    have : (decide (a < 0) != decide ((1 : Int) < 0)) = decide (a < 0) := by
      rw [decide_eq_false (show ¬ a < 0 by omega)]; rfl
    rw [this]; rfl
  rw [e] at q
  have e2 : (a : Rat) / ((1 : Int) : Rat) = a := by
    have : ((1 : Int) : Rat) = 1 := rfl
    rw [this]; grind
  rwa [e2] at q
end Mine.Fl
end
section
open PySem PySem.Float64
namespace Mine.Fl
theorem Near.weak {x : UInt64} {X e e' : Rat} (h : Near x X e) (he : e ≤ e') : Near x X e' := by
  obtain ⟨h1, h2, h3⟩ := h
  exact ⟨h1, by grind, by grind⟩
theorem Near.to {x : UInt64} {X X' e : Rat} (h : Near x X e) (he : X = X') : Near x X' e := he ▸ h
theorem uu_val : uu = 1 / 140737488355328 := rfl
theorem prod_bound {p q a b : Rat} (h1 : -a ≤ p) (h2 : p ≤ a) (h3 : -b ≤ q) (h4 : q ≤ b) : -(a * b) ≤ p * q ∧ p * q ≤ a * b := by
  have k1 : 0 ≤ (a + p) * (b + q) := Rat.mul_nonneg (by grind) (by grind)
  have k2 : 0 ≤ (a - p) * (b - q) := Rat.mul_nonneg (by grind) (by grind)
  have k3 : 0 ≤ (a - p) * (b + q) := Rat.mul_nonneg (by grind) (by grind)
  have k4 : 0 ≤ (a + p) * (b - q) := Rat.mul_nonneg (by grind) (by grind)
  constructor <;> grind
theorem add_N {x y : UInt64} {X Y e f g : Rat} (hx : Near x X e) (hy : Near y Y f) (h1 : -59 ≤ X + Y) (h2 : X + Y ≤ 59) (hs : e + f ≤ 1) (hg : e + f + uu ≤ g) : Near (add x y) (X + Y) g := by
  obtain ⟨a1, a2, a3⟩ := hx
  obtain ⟨b1, b2, b3⟩ := hy
  obtain ⟨c1, c2, c3⟩ := add_rv a1 b1 (by grind) (by grind)
  exact ⟨c1, by grind, by grind⟩
theorem sub_N {x y : UInt64} {X Y e f g : Rat} (hx : Near x X e) (hy : Near y Y f) (h1 : -59 ≤ X - Y) (h2 : X - Y ≤ 59) (hs : e + f ≤ 1) (hg : e + f + uu ≤ g) : Near (sub x y) (X - Y) g := by
  obtain ⟨a1, a2, a3⟩ := hx
  obtain ⟨b1, b2, b3⟩ := hy
  obtain ⟨c1, c2, c3⟩ := sub_rv a1 b1 (by grind) (by grind)
  exact ⟨c1, by grind, by grind⟩
theorem mul_N {x y : UInt64} {X Y e f A B g : Rat} (hx : Near x X e) (hy : Near y Y f) (hA1 : -A ≤ X) (hA2 : X ≤ A) (hB1 : -B ≤ Y) (hB2 : Y ≤ B) (hb1 : -59 ≤ X * Y) (hb2 : X * Y ≤ 59) (hs : A * f + B * e + e * f ≤ 1) (hg : A * f + B * e + e * f + uu ≤ g) :
    Near (mul x y) (X * Y) g := by
  obtain ⟨a1, a2, a3⟩ := hx
  obtain ⟨b1, b2, b3⟩ := hy
  obtain ⟨k1, k2⟩ := prod_bound (p := X) (q := rv y - Y) (a := A) (b := f) hA1 hA2 (by grind) (by grind)
  obtain ⟨k3, k4⟩ := prod_bound (p := Y) (q := rv x - X) (a := B) (b := e) hB1 hB2 (by grind) (by grind)
  obtain ⟨k5, k6⟩ := prod_bound (p := rv x - X) (q := rv y - Y) (a := e) (b := f) (by grind) (by grind) (by grind) (by grind)
  have e1 : rv x * rv y = X * Y + X * (rv y - Y) + Y * (rv x - X) + (rv x - X) * (rv y - Y) := by grind
  obtain ⟨c1, c2, c3⟩ := mul_rv a1 b1 (by grind) (by grind)
  exact ⟨c1, by grind, by grind⟩
theorem div_N {x y : UInt64} {X Y Q e f M c g : Rat} (hx : Near x X e) (hy : Near y Y f) (hQ : X = Q * Y) (hM1 : -M ≤ Q) (hM2 : Q ≤ M) (hc : c ≤ Y) (hf : f < c) (hg0 : uu ≤ g) (hg : e + M * f ≤ (g - uu) * (c - f)) (hb : M + g ≤ 60) :
    Near (div x y) Q g := by
  obtain ⟨a1, a2, a3⟩ := hx
  obtain ⟨b1, b2, b3⟩ := hy
  obtain ⟨k1, k2⟩ := prod_bound (p := Q) (q := rv y - Y) (a := M) (b := f) hM1 hM2 (by grind) (by grind)
  have hy0 : 0 < rv y := by grind
  have k3 : (g - uu) * (c - f) ≤ (g - uu) * rv y := Rat.mul_le_mul_of_nonneg_left (by grind) (by grind)
  have q1 : Q - (g - uu) ≤ rv x / rv y := le_div hy0 (by grind)
  have q2 : rv x / rv y ≤ Q + (g - uu) := div_le hy0 (by grind)
  have hu := uu_pos
  obtain ⟨c1, c2, c3⟩ := div_rv a1 b1 (by grind) (by grind) (by grind)
  exact ⟨c1, by grind, by grind⟩
/-! order -/
theorem rv_lt {x y : UInt64} : rv x < rv y ↔ val x < val y := by
  unfold rv
  have hO := one_pos
  have e1 : (val x : Rat) / ONE * ONE = (val x : Rat) := Rat.div_mul_cancel (by grind)
  have e2 : (val y : Rat) / ONE * ONE = (val y : Rat) := Rat.div_mul_cancel (by grind)
  rw [← Rat.intCast_lt_intCast, ← e1, ← e2, Rat.mul_lt_mul_right hO, e1, e2]
theorem rv_eq {x y : UInt64} : rv x = rv y ↔ val x = val y := by
  constructor
  · intro h
    rcases Int.lt_trichotomy (val x) (val y) with q | q | q
    · have := rv_lt.mpr q; grind
    · exact q
    · have := rv_lt.mpr q; grind
  · intro h; unfold rv; rw [h]
theorem ltF_iff {x y : UInt64} (hx : IsFin x) (hy : IsFin y) : ltF x y = decide (rv x < rv y) := by
  obtain ⟨a, m, e, hx⟩ := hx
  obtain ⟨b, k, f, hy⟩ := hy
  unfold ltF
  rw [cmp_right hx hy, Bool.eq_iff_iff, decide_eq_true_eq, rv_lt]
  rcases Int.lt_trichotomy (val x) (val y) with q | q | q
  · rw [Int.compare_eq_lt.mpr q]; simp [q]
  · rw [Int.compare_eq_eq.mpr q, q]; simp
  · rw [Int.compare_eq_gt.mpr q]; simp; omega
theorem eqF_iff {x y : UInt64} (hx : IsFin x) (hy : IsFin y) : eqF x y = decide (rv x = rv y) := by
  obtain ⟨a, m, e, hx⟩ := hx
  obtain ⟨b, k, f, hy⟩ := hy
  unfold eqF
  rw [cmp_right hx hy, Bool.eq_iff_iff, decide_eq_true_eq, rv_eq]
  rcases Int.lt_trichotomy (val x) (val y) with q | q | q
  · rw [Int.compare_eq_lt.mpr q]; simp; omega
  · rw [Int.compare_eq_eq.mpr q]; simp [q]
  · rw [Int.compare_eq_gt.mpr q]; simp; omega
theorem isZero_rv {x : UInt64} (h : isZero x = true) : rv x = 0 := by
  unfold isZero at h
  split at h
  · rename_i b e hd
    unfold rv
    rw [val_eq hd, Nat.zero_mul]
    cases b <;> simp [sgn] <;> grind
  · cases h
theorem not_zero {x : UInt64} (h : rv x ≠ 0) : isZero x = false := by
  cases q : isZero x
  · rfl
  · exact absurd (isZero_rv q) h
end Mine.Fl
end
section
open PySem PySem.Float64
namespace Mine.Fl
noncomputable abbrev nf (x : Int) : UInt64 := fdv x 9
theorem int_le {a b : Int} (h : a ≤ b) : (a : Rat) ≤ (b : Rat) := Rat.intCast_le_intCast.mpr h
theorem int_lt1 {a b : Int} (h : a < b) : (a : Rat) + 1 ≤ (b : Rat) := by
  have := int_le (show a + 1 ≤ b by omega)
  rw [Rat.intCast_add] at this
  exact this
theorem int_ge0 {a : Int} (h : 0 ≤ a) : (0 : Rat) ≤ (a : Rat) := int_le h
theorem int_le9 {a : Int} (h : a ≤ 9) : (a : Rat) ≤ 9 := int_le h
theorem nf_near {x : Int} (hx : Dig x) : Near (nf x) ((x : Rat) / 9) uu := by
  unfold Dig at hx
  have h := fdv_near (a := x) (b := 9) hx.1 (by decide) (by omega)
  exact h
theorem u1 : 100000000000000 * uu ≤ 1 := by rw [uu_val]; decide +kernel
theorem nf_lt {x y : Int} (hx : Dig x) (hy : Dig y) : rv (nf x) < rv (nf y) ↔ x < y := by
  obtain ⟨_, a1, a2⟩ := nf_near hx
  obtain ⟨_, b1, b2⟩ := nf_near hy
  have hu := u1
  have hu0 := uu_pos
  constructor
  · intro h
    rcases Int.lt_or_le x y with q | q
    · exact q
    · exfalso
      rcases Int.lt_or_eq_of_le q with q | q
      · have := int_lt1 q; grind
      · subst q; grind
  · intro h
    have := int_lt1 h; grind
theorem nf_eq {x y : Int} (hx : Dig x) (hy : Dig y) : rv (nf x) = rv (nf y) ↔ x = y := by
  have h1 := nf_lt hx hy
  have h2 := nf_lt hy hx
  constructor
  · intro h
    rcases Int.lt_trichotomy x y with q | q | q
    · have := h1.mpr q; grind
    · exact q
    · have := h2.mpr q; grind
  · rintro rfl; rfl
theorem nf_ltF {x y : Int} (hx : Dig x) (hy : Dig y) : ltF (nf x) (nf y) = decide (x < y) := by
  rw [ltF_iff (nf_near hx).1 (nf_near hy).1, decide_eq_decide]; exact nf_lt hx hy
theorem nf_eqF {x y : Int} (hx : Dig x) (hy : Dig y) : eqF (nf x) (nf y) = decide (x = y) := by
  rw [eqF_iff (nf_near hx).1 (nf_near hy).1, decide_eq_decide]; exact nf_eq hx hy
theorem nf_max {x y : Int} (hx : Dig x) (hy : Dig y) : maxF (nf x) (nf y) = nf (max x y) := by
  unfold maxF
  rw [nf_ltF hx hy]
  by_cases h : x < y
  · rw [decide_eq_true h, if_pos rfl, Int.max_eq_right (by omega)]
  · rw [decide_eq_false h, if_neg Bool.false_ne_true, Int.max_eq_left (by omega)]
theorem nf_min {x y : Int} (hx : Dig x) (hy : Dig y) : minF (nf x) (nf y) = nf (min x y) := by
  unfold minF
  rw [nf_ltF hy hx]
  by_cases h : y < x
  · rw [decide_eq_true h, if_pos rfl, Int.min_eq_right (by omega)]
  · rw [decide_eq_false h, if_neg Bool.false_ne_true, Int.min_eq_left (by omega)]
theorem dig_max {x y : Int} (hx : Dig x) (hy : Dig y) : Dig (max x y) := by unfold Dig at *; omega
theorem dig_min {x y : Int} (hx : Dig x) (hy : Dig y) : Dig (min x y) := by unfold Dig at *; omega
theorem nf_max3 {x y z : Int} (hx : Dig x) (hy : Dig y) (hz : Dig z) : maxF (maxF (nf x) (nf y)) (nf z) = nf (hi3 x y z) := by
  rw [nf_max hx hy, nf_max (dig_max hx hy) hz]
theorem nf_min3 {x y z : Int} (hx : Dig x) (hy : Dig y) (hz : Dig z) : minF (minF (nf x) (nf y)) (nf z) = nf (lo3 x y z) := by
  rw [nf_min hx hy, nf_min (dig_min hx hy) hz]
theorem dig_hi {x y z : Int} (hx : Dig x) (hy : Dig y) (hz : Dig z) : Dig (hi3 x y z) := dig_max (dig_max hx hy) hz
theorem dig_lo {x y z : Int} (hx : Dig x) (hy : Dig y) (hz : Dig z) : Dig (lo3 x y z) := dig_min (dig_min hx hy) hz
theorem val_nf {x y z : Int} (hx : Dig x) (hy : Dig y) (hz : Dig z) : VAL x y z = nf (hi3 x y z) := nf_max3 hx hy hz
/-- the difference of two components -/
theorem dif_near {a b : Int} (ha : Dig a) (hb : Dig b) : Near (sub (nf a) (nf b)) (((a : Rat) - (b : Rat)) / 9) (3 * uu) := by
  have hu := u1
  have hu0 := uu_pos
  unfold Dig at ha hb
  have a1 := int_ge0 ha.1
  have a2 := int_le9 ha.2
  have b1 := int_ge0 hb.1
  have b2 := int_le9 hb.2
  exact (sub_N (g := 3 * uu) (nf_near ha) (nf_near hb) (by grind) (by grind) (by grind) (by grind)).to (by grind)
theorem size_pos {x y z : Int} (hx : Dig x) (hy : Dig y) (hz : Dig z) (h : sizeI x y z ≠ 0) : lo3 x y z + 1 ≤ hi3 x y z := by
  have := size_bounds hx hy hz
  unfold sizeI at this h; omega
theorem rgbOk_of' {x y z : Int} (hx : Dig x) (hy : Dig y) (hz : Dig z) : RgbOk (nf x) (nf y) (nf z) := by
  unfold RgbOk
  rw [nf_max3 hx hy hz, nf_min3 hx hy hz, nf_eqF (dig_lo hx hy hz) (dig_hi hx hy hz)]
  intro h
  have hne := of_decide_eq_false h
  have hlt : lo3 x y z < hi3 x y z := by
    have : lo3 x y z ≤ hi3 x y z := lo_hi
    omega
  have hH := dig_hi hx hy hz
  have hL := dig_lo hx hy hz
  obtain ⟨_, a1, a2⟩ := nf_near hH
  obtain ⟨_, b1, b2⟩ := dif_near hH hL
  have hu := u1
  have k := int_lt1 hlt
  have k0 := int_ge0 hL.1
  exact ⟨not_zero (by grind), not_zero (by grind)⟩
/-- the share -/
noncomputable def shareR (x y z : Int) : Rat := if sizeI x y z = 0 then 0 else (sizeI x y z : Rat) / (hi3 x y z : Rat)
theorem near_zero0 : Near 0 0 0 := by
  have e : (0 : UInt64) = zero false := by decide +kernel
  rw [e]
  exact ⟨fin_zero false, by rw [rv_zero]; decide +kernel, by rw [rv_zero]; decide +kernel⟩
theorem share_eq {x y z : Int} (hx : Dig x) (hy : Dig y) (hz : Dig z) : SHARE x y z = if sizeI x y z = 0 then 0 else div (sub (nf (hi3 x y z)) (nf (lo3 x y z))) (nf (hi3 x y z)) := by
  show rgbShare (nf x) (nf y) (nf z) = _
  unfold rgbShare
  simp only
  rw [nf_max3 hx hy hz, nf_min3 hx hy hz, nf_eqF (dig_lo hx hy hz) (dig_hi hx hy hz)]
  by_cases h : lo3 x y z = hi3 x y z
  · rw [decide_eq_true h, if_pos rfl, if_pos (by unfold sizeI; omega)]
  · rw [decide_eq_false h, if_neg Bool.false_ne_true, if_neg (by unfold sizeI; omega)]
theorem size_rat {x y z : Int} : (sizeI x y z : Rat) = (hi3 x y z : Rat) - (lo3 x y z : Rat) := by
  unfold sizeI; rw [Rat.intCast_sub]
theorem share_near {x y z : Int} (hx : Dig x) (hy : Dig y) (hz : Dig z) : Near (SHARE x y z) (shareR x y z) (60 * uu) := by
  have hu := u1
  have hu0 := uu_pos
  rw [share_eq hx hy hz]
  unfold shareR
  by_cases h : sizeI x y z = 0
  · rw [if_pos h, if_pos h]
    exact near_zero0.weak (by grind)
  · rw [if_neg h, if_neg h]
    have k := int_le (size_pos hx hy hz h)
    rw [Rat.intCast_add] at k
    have k1 : ((1 : Int) : Rat) = 1 := rfl
    rw [k1] at k
    have hH := dig_hi hx hy hz
    have hL := dig_lo hx hy hz
    have l0 := int_ge0 hL.1
    have h9 := int_le9 hH.2
    have n1 := dif_near hH hL
    have n2 := nf_near hH
    rw [size_rat]
    generalize (hi3 x y z : Rat) = H at *
    generalize (lo3 x y z : Rat) = L at *
    have q1 : 0 ≤ (H - L) / H := le_div (by grind) (by grind)
    have q2 : (H - L) / H ≤ 1 := div_le (by grind) (by grind)
    exact div_N (X := (H - L) / 9) (Y := H / 9) (M := 1) (c := 1 / 9) (f := uu) (e := 3 * uu) n1 n2 (by grind) (by grind) q2 (by grind) (by unfold uu; decide +kernel) (by unfold uu; decide +kernel) (by unfold uu; decide +kernel) (by unfold uu; decide +kernel)
end Mine.Fl
end
section
open PySem PySem.Float64
namespace Mine.Fl
theorem halfEven_at {n d J : Nat} (h1 : 2 * n < (2 * J + 1) * d) (h2 : 2 * J * d < 2 * n + d) : halfEven n d = J := by
  have hd : 0 < d := by
    rcases Nat.eq_zero_or_pos d with h | h
    · subst h; omega
    · exact h
  have hn := Nat.div_add_mod n d
  have hr := Nat.mod_lt n hd
  unfold halfEven
  simp only
  generalize hq : n / d = q at *
  generalize n % d = r at *
  rw [Nat.add_mul, Nat.one_mul] at h1
  rw [Nat.mul_assoc] at h1 h2
  have c : q = J ∨ q + 1 = J := by
    rcases Nat.lt_trichotomy q J with h | h | h
    · right
      rcases Nat.lt_or_ge (q + 1) J with h' | h'
      · exfalso
        have k : d * (q + 2) ≤ J * d := by rw [Nat.mul_comm]; exact Nat.mul_le_mul_right _ h'
        rw [Nat.mul_add] at k
        omega
      · omega
    · exact .inl h
    · exfalso
      have k : (J + 1) * d ≤ d * q := by rw [Nat.mul_comm d q]; exact Nat.mul_le_mul_right _ h
      rw [Nat.add_mul] at k
      omega
  rcases c with rfl | rfl
  · rw [Nat.mul_comm q d] at h1
    rw [if_neg]
    simp
    constructor
    · omega
    · intro e; omega
  · have e : (q + 1) * d = d * q + d := by rw [Nat.add_mul, Nat.mul_comm q d, Nat.one_mul]
    rw [e] at h2
    rw [if_pos]
    simp
    left; omega
theorem shift_pos1 (m : Nat) (e : Int) : 0 < (shift m 1 e).2 := by
  unfold shift
  split
  · exact Nat.one_pos
  · simp only [Nat.one_mul]; exact Nat.two_pow_pos _
theorem val_ratio {x : UInt64} {a : Bool} {m : Nat} {e : Int} (h : decode x = .fin a m e) : (shift m 1 e).1 * 2 ^ 1074 = (val x).natAbs * (shift m 1 e).2 := by
  have he := decode_ge h
  rw [val_natAbs h]
  exact shift_one m e 1074 (by omega)
theorem rounds {r : UInt64} {N : Int} {e : Rat} (h : Near r (N : Rat) e) (hN : 0 ≤ N) (he : 4 * e ≤ 1) : RoundsTo r N := by
  obtain ⟨⟨a, m, f, hd⟩, h1, h2⟩ := h
  refine ⟨by unfold isFinite; rw [hd], ?_⟩
  unfold Flt.toInt
  rw [hd]
  simp only
  show sgn a (halfEven (shift m 1 f).1 (shift m 1 f).2) = N
  have hv := val_ratio hd
  have hp := shift_pos1 m f
  have hO := one_pos
  have hx : (val r : Rat) / ONE * ONE = (val r : Rat) := Rat.div_mul_cancel (by grind)
  unfold rv at h1 h2
  have k1 : ((N : Rat) - 1 / 4) * ONE ≤ (val r : Rat) := by
    rw [← hx]; exact Rat.mul_le_mul_of_nonneg_right (by grind) (by grind)
  have k2 : (val r : Rat) ≤ ((N : Rat) + 1 / 4) * ONE := by
    rw [← hx]; exact Rat.mul_le_mul_of_nonneg_right (by grind) (by grind)
  have k3 : (4 * N - 1) * (2 ^ 1074 : Nat) ≤ 4 * val r := by
    apply Rat.intCast_le_intCast.mp
    rw [Rat.intCast_mul, Rat.intCast_mul, Rat.intCast_sub, Rat.intCast_mul, Rat.intCast_natCast, one_nat]
    have e4 : ((4 : Int) : Rat) = 4 := rfl
    have e1 : ((1 : Int) : Rat) = 1 := rfl
    rw [e4, e1]
    grind
  have k4 : 4 * val r ≤ (4 * N + 1) * (2 ^ 1074 : Nat) := by
    apply Rat.intCast_le_intCast.mp
    rw [Rat.intCast_mul, Rat.intCast_mul, Rat.intCast_add, Rat.intCast_mul, Rat.intCast_natCast, one_nat]
    have e4 : ((4 : Int) : Rat) = 4 := rfl
    have e1 : ((1 : Int) : Rat) = 1 := rfl
    rw [e4, e1]
    grind
  clear k1 k2 hx h1 h2
  have hsgn : val r = if a then -((val r).natAbs : Int) else ((val r).natAbs : Int) := by
    rw [val_natAbs hd, val_eq hd]; unfold sgn; rfl
  generalize (shift m 1 f).1 = n at *
  generalize (shift m 1 f).2 = d at *
  have hK : 0 < 2 ^ 1074 := Nat.two_pow_pos 1074
  generalize (2 : Nat) ^ 1074 = K at *
  generalize val r = v at *
  have hz : ∀ J : Nat, 4 * v.natAbs ≤ (4 * J + 1) * K → 4 * J * K ≤ 4 * v.natAbs + K → halfEven n d = J := by
    intro J q1 q2
    refine halfEven_at ?_ ?_
    · have p1 : 4 * v.natAbs * d ≤ (4 * J + 1) * K * d := Nat.mul_le_mul_right _ q1
      rw [Nat.mul_assoc, ← hv] at p1
      have p2 : 4 * n * K ≤ (4 * J + 1) * d * K := by
        have e1 : (4 * J + 1) * K * d = (4 * J + 1) * d * K := by ac_rfl
        have e2 : 4 * (n * K) = 4 * n * K := by ac_rfl
        omega
      have p3 := Nat.le_of_mul_le_mul_right p2 hK
      rw [Nat.add_mul] at p3 ⊢
      have e3 : 4 * J * d = 2 * (2 * J * d) := by rw [← Nat.mul_assoc, ← Nat.mul_assoc]
      omega
    · have p1 : 4 * J * K * d ≤ (4 * v.natAbs + K) * d := Nat.mul_le_mul_right _ q2
      rw [Nat.add_mul, Nat.mul_assoc 4 v.natAbs, ← hv] at p1
      have p2 : 4 * J * d * K ≤ (4 * n + d) * K := by
        have e1 : 4 * J * K * d = 4 * J * d * K := by ac_rfl
        have e2 : (4 * n + d) * K = 4 * (n * K) + K * d := by rw [Nat.add_mul]; ac_rfl
        omega
      have p3 := Nat.le_of_mul_le_mul_right p2 hK
      have e3 : 4 * J * d = 2 * (2 * J * d) := by rw [← Nat.mul_assoc, ← Nat.mul_assoc]
      omega
  rcases Int.lt_or_le 0 N with hN' | hN'
  · have hvp : 0 ≤ v := by
      have : 0 ≤ (4 * N - 1) * (K : Int) := Int.mul_nonneg (by omega) (by omega)
      omega
    have ha : a = false ∨ v = 0 := by
      cases a
      · exact .inl rfl
      · simp at hsgn; right; omega
    rcases ha with rfl | hv0
    · have hJ := hz N.toNat (by
        have e1 : ((4 * N.toNat + 1) * K : Nat) = (4 * N + 1) * (K : Int) := by
          rw [Int.natCast_mul, Int.natCast_add, Int.natCast_mul]
          have : ((N.toNat : Nat) : Int) = N := by omega
          rw [this]; rfl
        omega) (by
        have e1 : ((4 * N.toNat * K : Nat) : Int) = 4 * N * (K : Int) := by
          rw [Int.natCast_mul, Int.natCast_mul]
          have : ((N.toNat : Nat) : Int) = N := by omega
          rw [this]; rfl
        rw [Int.sub_mul] at k3
        omega)
      unfold sgn
      rw [hJ]
      simp only [Bool.false_eq_true, if_false]
      omega
    · exfalso
      subst hv0
      have : 3 * (K : Int) ≤ (4 * N - 1) * (K : Int) := Int.mul_le_mul_of_nonneg_right (by omega) (by omega)
      omega
  · have hN0 : N = 0 := by omega
    subst hN0
    have hJ := hz 0 (by omega) (by omega)
    rw [hJ]
    unfold sgn
    cases a <;> rfl
theorem truncs {r : UInt64} (hf : IsFin r) (h0 : 0 < rv r) : ((Flt.toInt truncOf r : Int) : Rat) ≤ rv r ∧ rv r < ((Flt.toInt truncOf r : Int) : Rat) + 1 ∧ 0 ≤ Flt.toInt truncOf r := by
  obtain ⟨a, m, f, hd⟩ := hf
  have he := decode_ge hd
  have hvp : 0 < val r := by
    have : rv 0 < rv r := by
      have := near_zero0.2; grind
    have := rv_lt.mp this
    have e : val 0 = 0 := by rw [val_eq Flt.decode_zero]; simp [sgn]
    omega
  have ha : a = false := by
    cases a
    · rfl
    · exfalso
      rw [val_eq hd] at hvp
      simp only [sgn, if_true] at hvp
      omega
  subst ha
  have hT : Flt.toInt truncOf r = floorOf false m f := by
    unfold Flt.toInt
    rw [hd]
    simp only [truncOf, Bool.false_eq_true, if_false]
  have key : ∃ i : Int, floorOf false m f = i ∧ 0 ≤ i ∧ i * (2 ^ 1074 : Nat) ≤ val r ∧ val r < (i + 1) * (2 ^ 1074 : Nat) := by
    refine ⟨_, rfl, ?_⟩
    rw [val_eq hd]
    unfold floorOf sgn
    simp only [Bool.false_eq_true, if_false]
    by_cases hg : f ≥ 0
    · rw [if_pos hg]
      have e1 : (f + 1074).toNat = f.toNat + 1074 := by omega
      rw [e1, Nat.pow_add]
      have hK : 0 < 2 ^ 1074 := Nat.two_pow_pos 1074
      generalize (2 : Nat) ^ 1074 = K at *
      have e2 : ((m * (2 ^ f.toNat * K) : Nat) : Int) = (m : Int) * 2 ^ f.toNat * (K : Int) := by
        rw [Int.natCast_mul, Int.natCast_mul, Int.natCast_pow, ← Int.mul_assoc]; rfl
      rw [e2]
      refine ⟨Int.mul_nonneg (by omega) (Int.pow_nonneg (by decide)), Int.le_refl _, ?_⟩
      rw [Int.add_mul]; omega
    · rw [if_neg hg]
      have e1 : 1074 = (f + 1074).toNat + (-f).toNat := by omega
      have e3 : (2 : Nat) ^ 1074 = 2 ^ (f + 1074).toNat * 2 ^ (-f).toNat := by rw [← Nat.pow_add, ← e1]
      rw [e3]
      have hA : 0 < 2 ^ (f + 1074).toNat := Nat.two_pow_pos _
      have hB : 0 < 2 ^ (-f).toNat := Nat.two_pow_pos _
      have e4 : ((2 : Int) ^ (-f).toNat) = ((2 ^ (-f).toNat : Nat) : Int) := by rw [Int.natCast_pow]; rfl
      rw [e4]
      generalize (2 : Nat) ^ (f + 1074).toNat = A at *
      generalize (2 : Nat) ^ (-f).toNat = B at *
      have e5 : (m : Int).fdiv (B : Int) = ((m / B : Nat) : Int) := by
        rw [Int.fdiv_eq_ediv_of_nonneg _ (by omega)]; rfl
      rw [e5]
      have hn := Nat.div_add_mod m B
      have hr := Nat.mod_lt m hB
      generalize m / B = q at *
      generalize m % B = r' at *
      refine ⟨by omega, ?_, ?_⟩
      · have : q * (A * B) ≤ m * A := by
          rw [← hn, Nat.add_mul]
          have : q * (A * B) = B * q * A := by ac_rfl
          omega
        rw [← Int.natCast_mul]
        exact Int.ofNat_le.mpr this
      · have : m * A < (q + 1) * (A * B) := by
          have h2 : m < B * q + B := by omega
          have h3 : m * A < (B * q + B) * A := (Nat.mul_lt_mul_right hA).mpr h2
          have h4 : (q + 1) * (A * B) = (B * q + B) * A := by rw [Nat.add_mul, Nat.add_mul, Nat.one_mul]; ac_rfl
          omega
        have e6 : ((q : Int) + 1) = ((q + 1 : Nat) : Int) := by omega
        rw [e6, ← Int.natCast_mul]
        exact Int.ofNat_lt.mpr this
  obtain ⟨i, hi, i0, i1, i2⟩ := key
  rw [hT, hi]
  have hO := one_pos
  have hx : (val r : Rat) / ONE * ONE = (val r : Rat) := Rat.div_mul_cancel (by grind)
  have j1 := Rat.intCast_le_intCast.mpr i1
  have j2 := Rat.intCast_lt_intCast.mpr i2
  rw [Rat.intCast_mul, Rat.intCast_natCast, one_nat] at j1 j2
  rw [Rat.intCast_add] at j2
  have e1 : ((1 : Int) : Rat) = 1 := rfl
  rw [e1] at j2
  refine ⟨?_, ?_, i0⟩
  · exact le_div hO j1
  · refine Rat.lt_of_mul_lt_mul_right (c := ONE) ?_ (by grind)
    show (val r : Rat) / ONE * ONE < _
    rw [hx]; exact j2
end Mine.Fl
end
section
open PySem PySem.Float64
namespace Mine.Fl
theorem const_near {x : UInt64} {m N : Nat} {f : Int} (hd : decode x = .fin false m f) (h : m * 2 ^ (f + 1074).toNat = N * 2 ^ 1074) : Near x (N : Rat) 0 := by
  have hr : rv x = (N : Rat) := by
    unfold rv
    rw [val_eq hd, h]
    simp only [sgn, Bool.false_eq_true, if_false]
    rw [Rat.intCast_natCast, Rat.natCast_mul, one_nat]
    have hO := one_pos
    exact Rat.mul_div_cancel (by grind)
  exact ⟨⟨_, _, _, hd⟩, by rw [hr]; grind, by rw [hr]; grind⟩
theorem dec_c1 : decode c1 = .fin false (2 ^ 52) (-52) := by unfold decode; rfl
theorem near_c1 : Near c1 1 0 := const_near (m := 2 ^ 52) (N := 1) (f := -52) (by unfold decode; rfl) (by rw [show ((-52 : Int) + 1074).toNat = 1022 from rfl, ← Nat.pow_add, Nat.one_mul])
theorem near_c2 : Near c2 2 0 := const_near (m := 2 ^ 52) (N := 2) (f := -51) (by unfold decode; rfl) (by rw [show ((-51 : Int) + 1074).toNat = 1023 from rfl, ← Nat.pow_add, show (2 : Nat) * 2 ^ 1074 = 2 ^ (1 + 1074) from by rw [Nat.pow_add]])
theorem near_c4 : Near c4 4 0 := const_near (m := 2 ^ 52) (N := 4) (f := -50) (by unfold decode; rfl) (by rw [show ((-50 : Int) + 1074).toNat = 1024 from rfl, ← Nat.pow_add, show (4 : Nat) * 2 ^ 1074 = 2 ^ (2 + 1074) from by rw [Nat.pow_add]])
theorem near_c6 : Near c6 6 0 := const_near (m := 3 * 2 ^ 51) (N := 6) (f := -50) (by unfold decode; rfl) (by rw [show ((-50 : Int) + 1074).toNat = 1024 from rfl, Nat.mul_assoc, ← Nat.pow_add, show (6 : Nat) * 2 ^ 1074 = 3 * 2 ^ (1 + 1074) from by rw [Nat.pow_add, ← Nat.mul_assoc]])
theorem ofBin_right {a : Bool} {m : Nat} {e : Int} (he : -1074 ≤ e) : Right (ofBin a m e) a (m * 2 ^ (e + 1074).toNat) 1 := by
  unfold ofBin
  refine ofFrac_right (shift_pos1 m e) ?_ Nat.one_pos
  have := shift_one m e 1074 (by omega)
  rw [Nat.mul_one]
  exact this
theorem fmod_near {r : UInt64} (hf : IsFin r) (h1 : -1 < rv r) (h2 : rv r < 1) : Near (fmod r c1) (rv r) uu := by
  obtain ⟨a, m, e, hd⟩ := hf
  have he := decode_ge hd
  have hs := rv_sgn hd
  have hO := one_pos
  have hx : (val r : Rat) / ONE * ONE = (val r : Rat) := Rat.div_mul_cancel (by grind)
  have hlt : (val r).natAbs < 2 ^ 1074 := by
    apply Rat.natCast_lt_natCast.mp
    rw [one_nat]
    unfold rv at h1 h2
    have k1 : -1 * ONE < (val r : Rat) := by rw [← hx]; exact (Rat.mul_lt_mul_right hO).mpr h1
    have k2 : (val r : Rat) < 1 * ONE := by rw [← hx]; exact (Rat.mul_lt_mul_right hO).mpr h2
    cases a <;> simp at hs <;> grind
  have hva := val_natAbs hd
  have hm : fmod r c1 = ofBin a (m * 2 ^ (e - min e (-52)).toNat % (2 ^ 52 * 2 ^ ((-52 : Int) - min e (-52)).toNat)) (min e (-52)) := by
    unfold fmod
    rw [hd, dec_c1]
    simp only [align, sgn, Bool.false_eq_true, if_false, Int.toNat_natCast]
    rfl
  have e1 : (e - min e (-52)).toNat + (min e (-52) + 1074).toNat = (e + 1074).toNat := by omega
  have e2 : 52 + (((-52 : Int) - min e (-52)).toNat + (min e (-52) + 1074).toNat) = 1074 := by omega
  have hmod : m * 2 ^ (e - min e (-52)).toNat % (2 ^ 52 * 2 ^ ((-52 : Int) - min e (-52)).toNat) = m * 2 ^ (e - min e (-52)).toNat := by
    refine Nat.mod_eq_of_lt (Nat.lt_of_mul_lt_mul_right (a := 2 ^ (min e (-52) + 1074).toNat) ?_)
    rw [Nat.mul_assoc, ← Nat.pow_add, e1, Nat.mul_assoc, ← Nat.pow_add, ← Nat.pow_add, e2, ← hva]
    exact hlt
  rw [hm, hmod]
  have hR := ofBin_right (a := a) (m := m * 2 ^ (e - min e (-52)).toNat) (e := min e (-52)) (by omega)
  rw [Nat.mul_assoc, ← Nat.pow_add, e1, ← hva] at hR
  refine right_q hR Nat.one_pos ?_ (by grind) (by grind)
  have e3 : ((1 : Nat) : Rat) = 1 := rfl
  rw [e3]
  unfold rv
  rw [hs]
  generalize (((val r).natAbs : Nat) : Rat) = p
  cases a <;> simp <;> grind
theorem divmod_two (x y : UInt64) : (divmod x y).2 = if isZero (fmod x y) then copysign (zero false) y else if lt y (zero false) != lt (fmod x y) (zero false) then add (fmod x y) y else fmod x y := by
  unfold divmod
  simp only
  split
  · rfl
  · split <;> rfl
theorem near_z (b : Bool) : Near (zero b) 0 0 := ⟨fin_zero b, by rw [rv_zero]; decide +kernel, by rw [rv_zero]; decide +kernel⟩
theorem mod_pos {r : UInt64} {X e : Rat} (h : Near r X e) (h1 : 1 / 100 ≤ X) (h2 : X ≤ 99 / 100) (he : 1000 * e ≤ 1) : Near (divmod r c1).2 X (e + uu) := by
  have hu := u1
  obtain ⟨hf, a1, a2⟩ := h
  have hm := fmod_near hf (by grind) (by grind)
  obtain ⟨mf, m1, m2⟩ := hm
  rw [divmod_two, not_zero (by grind), if_neg Bool.false_ne_true]
  have q1 : lt c1 (zero false) = false := by
    show ltF c1 (zero false) = false
    rw [ltF_iff near_c1.1 (fin_zero false), rv_zero]
    have := near_c1.2
    exact decide_eq_false (by grind)
  have q2 : lt (fmod r c1) (zero false) = false := by
    show ltF (fmod r c1) (zero false) = false
    rw [ltF_iff mf (fin_zero false), rv_zero]
    exact decide_eq_false (by grind)
  rw [q1, q2]
  simp only [bne_self_eq_false, Bool.false_eq_true, if_false]
  exact ⟨mf, by grind, by grind⟩
theorem mod_neg {r : UInt64} {X e : Rat} (h : Near r X e) (h1 : X ≤ -(1 / 100)) (h2 : -(99 / 100) ≤ X) (he : 1000 * e ≤ 1) : Near (divmod r c1).2 (X + 1) (e + 2 * uu) := by
  have hu := u1
  obtain ⟨hf, a1, a2⟩ := h
  have hm := fmod_near hf (by grind) (by grind)
  obtain ⟨mf, m1, m2⟩ := hm
  rw [divmod_two, not_zero (by grind), if_neg Bool.false_ne_true]
  have q1 : lt c1 (zero false) = false := by
    show ltF c1 (zero false) = false
    rw [ltF_iff near_c1.1 (fin_zero false), rv_zero]
    have := near_c1.2
    exact decide_eq_false (by grind)
  have q2 : lt (fmod r c1) (zero false) = true := by
    show ltF (fmod r c1) (zero false) = true
    rw [ltF_iff mf (fin_zero false), rv_zero]
    exact decide_eq_true (by grind)
  rw [q1, q2]
  have q3 : (false != true) = true := rfl
  rw [q3, if_pos rfl]
  refine add_N (X := X) (Y := 1) (e := e + uu) (f := 0) ⟨mf, by grind, by grind⟩ near_c1 (by grind) (by grind) (by grind) (by grind)
theorem sub_self {x : UInt64} (h : IsFin x) : sub x x = zero false := by
  obtain ⟨a, m, e, hd⟩ := h
  have := (sub_right hd hd).1 (by omega)
  rw [this]
  cases a <;> rfl
end Mine.Fl
end
section
open PySem PySem.Float64
namespace Mine.Fl
theorem one_rat : ((1 : Int) : Rat) = 1 := rfl
theorem six_rat : ((6 : Int) : Rat) = 6 := rfl
theorem two_rat : ((2 : Int) : Rat) = 2 := rfl
theorem four_rat : ((4 : Int) : Rat) = 4 := rfl
/-- how far below the greatest, in parts of the size -/
theorem frac_near {x y z a : Int} (hx : Dig x) (hy : Dig y) (hz : Dig z) (h : sizeI x y z ≠ 0) (ha : Dig a) (h1 : lo3 x y z ≤ a) (h2 : a ≤ hi3 x y z) :
    Near (div (sub (nf (hi3 x y z)) (nf a)) (sub (nf (hi3 x y z)) (nf (lo3 x y z)))) (((hi3 x y z : Rat) - (a : Rat)) / (sizeI x y z : Rat)) (70 * uu) := by
  have hu := u1
  have hu0 := uu_pos
  have k := int_le (size_pos hx hy hz h)
  rw [Rat.intCast_add, one_rat] at k
  have hH := dig_hi hx hy hz
  have hL := dig_lo hx hy hz
  have n1 := dif_near hH ha
  have n2 := dif_near hH hL
  have k1 := int_le h1
  have k2 := int_le h2
  rw [size_rat]
  generalize (hi3 x y z : Rat) = H at *
  generalize (lo3 x y z : Rat) = L at *
  generalize (a : Rat) = a at *
  have q1 : 0 ≤ (H - a) / (H - L) := le_div (by grind) (by grind)
  have q2 : (H - a) / (H - L) ≤ 1 := div_le (by grind) (by grind)
  have q3 : (H - a) / (H - L) * (H - L) = H - a := Rat.div_mul_cancel (by grind)
  exact div_N (X := (H - a) / 9) (Y := (H - L) / 9) (M := 1) (c := 1 / 9) (f := 3 * uu) (e := 3 * uu) n1 n2 (by grind) (by grind) q2 (by grind) (by unfold uu; decide +kernel) (by unfold uu; decide +kernel) (by unfold uu; decide +kernel) (by unfold uu; decide +kernel)
theorem hue_eq {x y z : Int} (hx : Dig x) (hy : Dig y) (hz : Dig z) (h : sizeI x y z ≠ 0) : HUE x y z =
    (divmod (div (if x = hi3 x y z then sub (div (sub (nf (hi3 x y z)) (nf z)) (sub (nf (hi3 x y z)) (nf (lo3 x y z)))) (div (sub (nf (hi3 x y z)) (nf y)) (sub (nf (hi3 x y z)) (nf (lo3 x y z))))
      else if y = hi3 x y z then sub (add c2 (div (sub (nf (hi3 x y z)) (nf x)) (sub (nf (hi3 x y z)) (nf (lo3 x y z))))) (div (sub (nf (hi3 x y z)) (nf z)) (sub (nf (hi3 x y z)) (nf (lo3 x y z))))
      else sub (add c4 (div (sub (nf (hi3 x y z)) (nf y)) (sub (nf (hi3 x y z)) (nf (lo3 x y z))))) (div (sub (nf (hi3 x y z)) (nf x)) (sub (nf (hi3 x y z)) (nf (lo3 x y z))))) c6) c1).2 := by
  show rgbHue (nf x) (nf y) (nf z) = _
  unfold rgbHue
  simp only
  rw [nf_max3 hx hy hz, nf_min3 hx hy hz, nf_eqF (dig_lo hx hy hz) (dig_hi hx hy hz), nf_eqF hx (dig_hi hx hy hz), nf_eqF hy (dig_hi hx hy hz)]
  have e : ¬ lo3 x y z = hi3 x y z := by unfold sizeI at h; omega
  rw [decide_eq_false e, if_neg Bool.false_ne_true]
  simp only [decide_eq_true_eq]
/-- h / 6 -/
theorem sixth_near {r : UInt64} {X : Rat} (h : Near r X (142 * uu)) (h1 : -6 ≤ X) (h2 : X ≤ 6) : Near (div r c6) (X / 6) (25 * uu) :=
  div_N (X := X) (Y := 6) (M := 1) (c := 6) (f := 0) (e := 142 * uu) h near_c6 (by grind) (by grind) (by grind) (by grind) (by decide +kernel) (by unfold uu; decide +kernel) (by unfold uu; decide +kernel) (by unfold uu; decide +kernel)
theorem hue_near {x y z : Int} (hx : Dig x) (hy : Dig y) (hz : Dig z) (h : sizeI x y z ≠ 0) : Near (HUE x y z) ((placeI x y z : Rat) / (6 * (sizeI x y z : Rat))) (30 * uu) := by
  have hu := u1
  have hu0 := uu_pos
  have k := size_pos hx hy hz h
  have hH := dig_hi hx hy hz
  have x1 : lo3 x y z ≤ x := hl.2.1
  have x2 : x ≤ hi3 x y z := hl.1.1
  have y1 : lo3 x y z ≤ y := hl.2.2.1
  have y2 : y ≤ hi3 x y z := hl.1.2.1
  have z1 : lo3 x y z ≤ z := hl.2.2.2
  have z2 : z ≤ hi3 x y z := hl.1.2.2
  have hn : (sizeI x y z : Rat) ≤ 9 := int_le9 (size_bounds hx hy hz).2
  have hn1 : 1 ≤ (sizeI x y z : Rat) := by
    have := size_bounds hx hy hz
    exact int_le (show 1 ≤ sizeI x y z by omega)
  have fx := frac_near hx hy hz h hx x1 x2
  have fy := frac_near hx hy hz h hy y1 y2
  have fz := frac_near hx hy hz h hz z1 z2
  have i1 : sizeI x y z = hi3 x y z - lo3 x y z := rfl
  have frac : ∀ a : Int, lo3 x y z ≤ a → a ≤ hi3 x y z → ∃ q : Rat, ((hi3 x y z : Rat) - (a : Rat)) / (sizeI x y z : Rat) = q ∧ q * (sizeI x y z : Rat) = (hi3 x y z : Rat) - (a : Rat) ∧ 0 ≤ q ∧ q ≤ 1 := by
    intro a h1 h2
    have k1 := int_le h1
    have k2 := int_le h2
    have k3 : (sizeI x y z : Rat) = (hi3 x y z : Rat) - (lo3 x y z : Rat) := size_rat
    exact ⟨_, rfl, Rat.div_mul_cancel (by grind), le_div (by grind) (by grind), div_le (by grind) (by grind)⟩
  obtain ⟨qx, ex, mx, x0, x9⟩ := frac x x1 x2
  obtain ⟨qy, ey, my, y0, y9⟩ := frac y y1 y2
  obtain ⟨qz, ez, mz, z0, z9⟩ := frac z z1 z2
  rw [ex] at fx
  rw [ey] at fy
  rw [ez] at fz
  rw [hue_eq hx hy hz h]
  unfold placeI
  by_cases cx : x = hi3 x y z
  · rw [if_pos cx, if_pos cx]
    have hq := (sub_N (g := 142 * uu) fz fy (by grind) (by grind) (by unfold uu; decide +kernel) (by grind))
    have hq6 := sixth_near hq (by grind) (by grind)
    rcases Int.lt_trichotomy z y with c | c | c
    · rw [if_pos (by omega)]
      have c' := int_lt1 c
      rw [Rat.intCast_sub]
      generalize (hi3 x y z : Rat) = H at *
      generalize (sizeI x y z : Rat) = n at *
      generalize (y : Rat) = yr at *
      generalize (z : Rat) = zr at *
      have e1 : (qz - qy) * n = yr - zr := by grind
      have e2 : (qz - qy) / 6 = (yr - zr) / (6 * n) := by grind
      have b1 : 1 / 9 ≤ qz - qy := by
        refine Rat.le_of_mul_le_mul_right (c := n) ?_ (by grind)
        rw [e1]; grind
      exact ((mod_pos hq6 (by grind) (by grind) (by unfold uu; decide +kernel)).to e2).weak (by grind)
    · subst c
      rw [if_pos (Int.le_refl _)]
      rw [sub_self fz.1]
      have e0 : (divmod (div (zero false) c6) c1).2 = zero false := by decide +kernel
      rw [e0]
      refine ((near_z false).weak (by grind)).to ?_
      have : ((z - z : Int) : Rat) = 0 := by rw [Int.sub_self]; rfl
      rw [this]
      grind
    · rw [if_neg (by omega)]
      have c' := int_lt1 c
      rw [Rat.intCast_add, Rat.intCast_mul, Rat.intCast_sub, six_rat]
      generalize (hi3 x y z : Rat) = H at *
      generalize (sizeI x y z : Rat) = n at *
      generalize (y : Rat) = yr at *
      generalize (z : Rat) = zr at *
      have e1 : (qz - qy) * n = yr - zr := by grind
      have e2 : (qz - qy) / 6 + 1 = (6 * n + (yr - zr)) / (6 * n) := by grind
      have b1 : qz - qy ≤ -(1 / 9) := by
        refine Rat.le_of_mul_le_mul_right (c := n) ?_ (by grind)
        rw [e1]; grind
      exact ((mod_neg hq6 (by grind) (by grind) (by unfold uu; decide +kernel)).to e2).weak (by grind)
  · rw [if_neg cx, if_neg cx]
    by_cases cy : y = hi3 x y z
    · rw [if_pos cy, if_pos cy]
      have ha := add_N (g := 71 * uu) near_c2 fx (by grind) (by grind) (by unfold uu; decide +kernel) (by grind)
      have hq := sub_N (g := 142 * uu) ha fz (by grind) (by grind) (by unfold uu; decide +kernel) (by grind)
      have hq6 := sixth_near hq (by grind) (by grind)
      rw [Rat.intCast_add, Rat.intCast_mul, Rat.intCast_sub, two_rat]
      generalize (hi3 x y z : Rat) = H at *
      generalize (sizeI x y z : Rat) = n at *
      generalize (x : Rat) = xr at *
      generalize (z : Rat) = zr at *
      have e2 : (2 + qx - qz) / 6 = (2 * n + (zr - xr)) / (6 * n) := by grind
      exact ((mod_pos hq6 (by grind) (by grind) (by unfold uu; decide +kernel)).to e2).weak (by grind)
    · rw [if_neg cy, if_neg cy]
      have ha := add_N (g := 71 * uu) near_c4 fy (by grind) (by grind) (by unfold uu; decide +kernel) (by grind)
      have hq := sub_N (g := 142 * uu) ha fx (by grind) (by grind) (by unfold uu; decide +kernel) (by grind)
      have hq6 := sixth_near hq (by grind) (by grind)
      rw [Rat.intCast_add, Rat.intCast_mul, Rat.intCast_sub, four_rat]
      generalize (hi3 x y z : Rat) = H at *
      generalize (sizeI x y z : Rat) = n at *
      generalize (x : Rat) = xr at *
      generalize (y : Rat) = yr at *
      have e2 : (4 + qy - qx) / 6 = (4 * n + (xr - yr)) / (6 * n) := by grind
      exact ((mod_pos hq6 (by grind) (by grind) (by unfold uu; decide +kernel)).to e2).weak (by grind)
end Mine.Fl
end
section
open PySem PySem.Float64
namespace Mine.Fl
theorem nine_rat : ((9 : Int) : Rat) = 9 := rfl
theorem of9 : Near (ofInt 9) 9 uu := ofInt_near (a := 9) (by decide) (by decide)
theorem size1 {x y z : Int} (hx : Dig x) (hy : Dig y) (hz : Dig z) (h : sizeI x y z ≠ 0) : 1 ≤ sizeI x y z ∧ sizeI x y z ≤ 9 := by
  have := size_bounds hx hy hz; omega
theorem share_bounds {x y z : Int} (hx : Dig x) (hy : Dig y) (hz : Dig z) : 0 ≤ shareR x y z ∧ shareR x y z ≤ 1 ∧ shareR x y z * (hi3 x y z : Rat) = (sizeI x y z : Rat) := by
  unfold shareR
  by_cases h : sizeI x y z = 0
  · rw [if_pos h, h]
    refine ⟨by decide +kernel, by decide +kernel, ?_⟩
    rw [Rat.zero_mul]; rfl
  · rw [if_neg h]
    have k := int_le (size_pos hx hy hz h)
    rw [Rat.intCast_add, one_rat] at k
    have l0 := int_ge0 (dig_lo hx hy hz).1
    rw [size_rat]
    generalize (hi3 x y z : Rat) = H at *
    generalize (lo3 x y z : Rat) = L at *
    exact ⟨le_div (by grind) (by grind), div_le (by grind) (by grind), Rat.div_mul_cancel (by grind)⟩
theorem size_round' {x y z : Int} (hx : Dig x) (hy : Dig y) (hz : Dig z) : RoundsTo (mul (mul (ofInt 9) (SHARE x y z)) (VAL x y z)) (sizeI x y z) := by
  have hu := u1
  have hu0 := uu_pos
  obtain ⟨s0, s1, s2⟩ := share_bounds hx hy hz
  have hb := size_bounds hx hy hz
  have b0 := int_ge0 hb.1
  have b9 := int_le9 hb.2
  have hH := dig_hi hx hy hz
  have h0 := int_ge0 hH.1
  have h9 := int_le9 hH.2
  have n1 := mul_N (A := 9) (B := 1) (g := 600 * uu) of9 (share_near hx hy hz) (by grind) (by grind) (by grind) (by grind) (by grind) (by grind) (by unfold uu; decide +kernel) (by unfold uu; decide +kernel)
  have n2 := nf_near hH
  rw [← val_nf hx hy hz] at n2
  have e : 9 * shareR x y z * ((hi3 x y z : Rat) / 9) = (sizeI x y z : Rat) := by grind
  have n3 := mul_N (A := 9) (B := 1) (g := 700 * uu) n1 n2 (by grind) (by grind) (by grind) (by grind) (by grind) (by grind) (by unfold uu; decide +kernel) (by unfold uu; decide +kernel)
  exact rounds (n3.to e) hb.1 (by unfold uu; decide +kernel)
theorem hue_bounds {x y z : Int} (hx : Dig x) (hy : Dig y) (hz : Dig z) (h : sizeI x y z ≠ 0) : ∃ q : Rat, (placeI x y z : Rat) / (6 * (sizeI x y z : Rat)) = q ∧ q * (6 * (sizeI x y z : Rat)) = (placeI x y z : Rat) ∧ 0 ≤ q ∧ q ≤ 1 := by
  have k1 := int_le (place_le (x := x) (y := y) (z := z))
  rw [Rat.intCast_mul, six_rat] at k1
  have k2 := int_ge0 (place_bounds hx hy hz).1
  have k3 := int_le (size1 hx hy hz h).1
  rw [one_rat] at k3
  exact ⟨_, rfl, Rat.div_mul_cancel (by grind), le_div (by grind) (by grind), div_le (by grind) (by grind)⟩
theorem place_round' {x y z : Int} (hx : Dig x) (hy : Dig y) (hz : Dig z) (h : sizeI x y z ≠ 0) : RoundsTo (mul (ofInt (6 * sizeI x y z)) (HUE x y z)) (placeI x y z) := by
  have hu := u1
  have hu0 := uu_pos
  obtain ⟨q, e1, e2, q0, q1⟩ := hue_bounds hx hy hz h
  have hs := size1 hx hy hz h
  have hp := place_bounds hx hy hz
  have p9 := int_le hp.2
  have p0 := int_ge0 hp.1
  have e54 : ((54 : Int) : Rat) = 54 := rfl
  rw [e54] at p9
  have n1 := ofInt_near (a := 6 * sizeI x y z) (by omega) (by omega)
  have n2 := hue_near hx hy hz h
  rw [e1] at n2
  rw [Rat.intCast_mul, six_rat] at n1
  have s1 := int_le hs.1
  have s9 := int_le9 hs.2
  rw [one_rat] at s1
  have e3 : 6 * (sizeI x y z : Rat) * q = (placeI x y z : Rat) := by grind
  have n3 := mul_N (A := 54) (B := 1) (g := 2000 * uu) n1 n2 (by grind) (by grind) (by grind) (by grind) (by grind) (by grind) (by unfold uu; decide +kernel) (by unfold uu; decide +kernel)
  exact rounds (n3.to e3) hp.1 (by unfold uu; decide +kernel)
/-! the turn -/
theorem turn6_near {x y z st : Int} (hx : Dig x) (hy : Dig y) (hz : Dig z) (hs : Step st) (h : sizeI x y z ≠ 0) : Near (mul (TURN x y z st) c6) (((placeI x y z + st : Int) : Rat) / (sizeI x y z : Rat)) (250 * uu) := by
  have hu := u1
  have hu0 := uu_pos
  obtain ⟨q, e1, e2, q0, q1⟩ := hue_bounds hx hy hz h
  have hs1 := size1 hx hy hz h
  have n1 := hue_near hx hy hz h
  rw [e1] at n1
  unfold Step at hs
  have hm : max (6 * sizeI x y z) 1 = 6 * sizeI x y z := Int.max_eq_left (by omega)
  have n2 := fdv_near (a := st) (b := 6 * sizeI x y z) (by omega) (by omega) (by omega)
  unfold TURN
  rw [hm]
  have s1 := int_le hs1.1
  have s9 := int_le9 hs1.2
  rw [one_rat] at s1
  have t1 := int_ge0 (show 0 ≤ st by omega)
  have t2 := int_le hs.2
  have e20 : ((20 : Int) : Rat) = 20 := rfl
  rw [e20] at t2
  rw [Rat.intCast_mul, six_rat] at n2
  have f2 : ∃ r : Rat, (st : Rat) / (6 * (sizeI x y z : Rat)) = r ∧ r * (6 * (sizeI x y z : Rat)) = (st : Rat) ∧ 0 ≤ r ∧ r ≤ 4 := ⟨_, rfl, Rat.div_mul_cancel (by grind), le_div (by grind) (by grind), div_le (by grind) (by grind)⟩
  obtain ⟨r, e3, e4, r0, r4⟩ := f2
  rw [e3] at n2
  have n3 := add_N (g := 32 * uu) n1 n2 (by grind) (by grind) (by unfold uu; decide +kernel) (by grind)
  have n4 := mul_N (A := 5) (B := 6) (g := 250 * uu) n3 near_c6 (by grind) (by grind) (by grind) (by grind) (by grind) (by grind) (by unfold uu; decide +kernel) (by unfold uu; decide +kernel)
  refine n4.to ?_
  rw [Rat.intCast_add]
  grind
/-- what the walk takes: the sixth, and how far in it -/
theorem turn_int {x y z st : Int} (hx : Dig x) (hy : Dig y) (hz : Dig z) (hs : Step st) (h : sizeI x y z ≠ 0) : 0 ≤ hsvI (TURN x y z st) ∧ hsvI (TURN x y z st) ≤ 27 ∧ sizeI x y z * hsvI (TURN x y z st) ≤ placeI x y z + st ∧ placeI x y z + st ≤ sizeI x y z * hsvI (TURN x y z st) + sizeI x y z := by
  have hu := u1
  have hu0 := uu_pos
  have hn := turn6_near hx hy hz hs h
  have hs1 := size1 hx hy hz h
  have hp := place_bounds hx hy hz
  have hpl := place_le (x := x) (y := y) (z := z)
  unfold Step at hs
  have s1 := int_le hs1.1
  have s9 := int_le9 hs1.2
  rw [one_rat] at s1
  have k1 := int_le (show 1 ≤ placeI x y z + st by omega)
  have k2 := int_le (show placeI x y z + st ≤ 26 * sizeI x y z by omega)
  rw [one_rat] at k1
  rw [Rat.intCast_mul] at k2
  have e26 : ((26 : Int) : Rat) = 26 := rfl
  rw [e26] at k2
  obtain ⟨c, ec, mc, c0, c9⟩ : ∃ c : Rat, ((placeI x y z + st : Int) : Rat) / (sizeI x y z : Rat) = c ∧ c * (sizeI x y z : Rat) = ((placeI x y z + st : Int) : Rat) ∧ 1 / 9 ≤ c ∧ c ≤ 26 := ⟨_, rfl, Rat.div_mul_cancel (by grind), le_div (by grind) (by grind), div_le (by grind) (by grind)⟩
  rw [ec] at hn
  obtain ⟨hf, a1, a2⟩ := hn
  obtain ⟨i1, i2, i0⟩ := truncs hf (by grind)
  show 0 ≤ Flt.toInt truncOf (mul (TURN x y z st) c6) ∧ Flt.toInt truncOf (mul (TURN x y z st) c6) ≤ 27 ∧ _ * Flt.toInt truncOf (mul (TURN x y z st) c6) ≤ _ ∧ _ ≤ _ * Flt.toInt truncOf (mul (TURN x y z st) c6) + _
  generalize Flt.toInt truncOf (mul (TURN x y z st) c6) = i at *
  generalize rv (mul (TURN x y z st) c6) = t at *
  generalize placeI x y z + st = K at *
  generalize sizeI x y z = n at *
  have g1 : ((i : Rat)) < 28 := by grind
  have e28 : ((28 : Int) : Rat) = 28 := rfl
  rw [← e28] at g1
  have g1 := Rat.intCast_lt_intCast.mp g1
  have p1 : (n : Rat) * (i : Rat) ≤ (n : Rat) * (c + 250 * uu) := Rat.mul_le_mul_of_nonneg_left (by grind) (by grind)
  have p2 : (n : Rat) * (c - 250 * uu) ≤ (n : Rat) * ((i : Rat) + 1) := Rat.mul_le_mul_of_nonneg_left (by grind) (by grind)
  have p3 : (n : Rat) * (250 * uu) ≤ 9 * (250 * uu) := Rat.mul_le_mul_of_nonneg_right s9 (by grind)
  have g2 : ((n * i : Int) : Rat) < ((K + 1 : Int) : Rat) := by
    rw [Rat.intCast_mul, Rat.intCast_add, one_rat]; grind
  have g3 : ((K : Int) : Rat) < ((n * i + n + 1 : Int) : Rat) := by
    rw [Rat.intCast_add, Rat.intCast_add, Rat.intCast_mul, one_rat]; grind
  have g2 := Rat.intCast_lt_intCast.mp g2
  have g3 := Rat.intCast_lt_intCast.mp g3
  exact ⟨i0, by omega, by omega, by omega⟩
theorem share_eqF {x y z : Int} (hx : Dig x) (hy : Dig y) (hz : Dig z) : eqF (SHARE x y z) 0 = decide (sizeI x y z = 0) := by
  have hu := u1
  have hu0 := uu_pos
  have hn := share_near hx hy hz
  rw [eqF_iff hn.1 near_zero0.1, decide_eq_decide]
  have z0 : rv 0 = 0 := by have := near_zero0.2; grind
  rw [z0]
  by_cases h : sizeI x y z = 0
  · have e : SHARE x y z = 0 := by rw [share_eq hx hy hz, if_pos h]
    rw [e, z0]
    simp [h]
  · obtain ⟨s0, s1, s2⟩ := share_bounds hx hy hz
    have k := int_le (size1 hx hy hz h).1
    rw [one_rat] at k
    have h0 := int_ge0 (dig_hi hx hy hz).1
    have h9 := int_le9 (dig_hi hx hy hz).2
    have p := Rat.mul_le_mul_of_nonneg_left h9 s0
    obtain ⟨_, a1, a2⟩ := hn
    constructor
    · intro e; exfalso; grind
    · intro e; exact absurd e h
theorem fin_not {x : UInt64} (h : IsFin x) : isNaN x = false ∧ isInf x = false := by
  obtain ⟨a, m, e, hd⟩ := h
  unfold isNaN isInf
  rw [hd]
  exact ⟨rfl, rfl⟩
theorem hsvOk_of' {x y z st : Int} (hx : Dig x) (hy : Dig y) (hz : Dig z) (hs : Step st) : HsvOk (TURN x y z st) (SHARE x y z) := by
  unfold HsvOk
  rw [share_eqF hx hy hz]
  intro h
  have h := of_decide_eq_false h
  obtain ⟨a, b⟩ := fin_not (turn6_near hx hy hz hs h).1
  have := turn_int hx hy hz hs h
  exact ⟨a, b, by omega⟩
end Mine.Fl
end
section
open PySem PySem.Float64
namespace Mine.Fl
theorem fmod_e {a b : Int} (hb : 0 ≤ b) : a.fmod b = a % b := Int.fmod_eq_emod_of_nonneg a hb
theorem fdiv_e {a b : Int} (hb : 0 ≤ b) : a.fdiv b = a / b := Int.fdiv_eq_ediv_of_nonneg a hb
theorem wheel_pl {n m q d K : Int} (hn : 1 ≤ n) (hd0 : 0 ≤ d) (hd : d < n) (hq0 : 0 ≤ q) (hq : q < 6) (hK : K = 6 * n * m + n * q + d) : (K.fmod (6 * n)).fdiv n = q ∧ (K.fmod (6 * n)).fmod n = d := by
  rw [fmod_e (by omega), fdiv_e (by omega), fmod_e (by omega)]
  have p1 : n * q ≤ n * 5 := Int.mul_le_mul_of_nonneg_left (by omega) (by omega)
  have p0 : 0 ≤ n * q := Int.mul_nonneg (by omega) hq0
  have e : K % (6 * n) = d + n * q := by
    have e1 : K = (d + n * q) + 6 * n * m := by omega
    rw [e1, Int.add_mul_emod_self_left]
    exact Int.emod_eq_of_lt (by omega) (by omega)
  rw [e]
  constructor
  · rw [Int.add_mul_ediv_left _ _ (by omega), Int.ediv_eq_zero_of_lt hd0 hd, Int.zero_add]
  · rw [Int.add_mul_emod_self_left]
    exact Int.emod_eq_of_lt hd0 hd
noncomputable def sectorI (lo hi d j : Int) : Int × Int × Int :=
  if j = 0 then (hi, lo + d, lo) else if j = 1 then (hi - d, hi, lo) else if j = 2 then (lo, hi, lo + d) else if j = 3 then (lo, hi - d, hi) else if j = 4 then (lo + d, lo, hi) else (hi, lo, hi - d)
theorem wheelI_pl {lo n m q d K : Int} (hn : 1 ≤ n) (hd0 : 0 ≤ d) (hd : d < n) (hq0 : 0 ≤ q) (hq : q < 6) (hK : K = 6 * n * m + n * q + d) : wheelI lo (lo + n) (K.fmod (6 * n)) = sectorI lo (lo + n) d q := by
  obtain ⟨h1, h2⟩ := wheel_pl hn hd0 hd hq0 hq hK
  unfold wheelI sectorI
  have e : lo + n - lo = n := by omega
  rw [e, h1, h2]
theorem wheel_sector {lo n K i : Int} (hn : 1 ≤ n) (h1 : n * i ≤ K) (h2 : K ≤ n * i + n) (hi0 : 0 ≤ i) :
    wheelI lo (lo + n) (K.fmod (6 * n)) = sectorI lo (lo + n) (K - n * i) (i.fmod 6) := by
  rw [fmod_e (a := i) (by decide)]
  have hdm := Int.mul_ediv_add_emod i 6
  have j0 := Int.emod_nonneg i (show (6 : Int) ≠ 0 by decide)
  have j6 := Int.emod_lt_of_pos i (show (0 : Int) < 6 by decide)
  generalize i / 6 = m at *
  generalize i % 6 = j at *
  have e1 : n * i = 6 * n * m + n * j := by
    rw [← hdm, Int.mul_add]
    have : n * (6 * m) = 6 * n * m := by ac_rfl
    rw [this]
  by_cases hd : K - n * i < n
  · exact wheelI_pl (m := m) hn (by omega) hd j0 j6 (by omega)
  · have hd' : K = n * i + n := by omega
    have e2 : K - n * i = n := by omega
    rw [e2]
    by_cases hj : j < 5
    · rw [wheelI_pl (m := m) (q := j + 1) (d := 0) hn (by omega) (by omega) (by omega) (by omega) (by rw [Int.mul_add, Int.mul_one]; omega)]
      unfold sectorI
      have c : j = 0 ∨ j = 1 ∨ j = 2 ∨ j = 3 ∨ j = 4 := by omega
      rcases c with rfl | rfl | rfl | rfl | rfl
      all_goals (simp; try omega)
    · have hj5 : j = 5 := by omega
      subst hj5
      rw [wheelI_pl (m := m + 1) (q := 0) (d := 0) hn (by omega) (by omega) (by omega) (by omega) (by rw [Int.mul_add, Int.mul_one]; omega)]
      unfold sectorI
      simp
/-! the channels -/
section
variable {x y z st : Int} (hx : Dig x) (hy : Dig y) (hz : Dig z) (hs : Step st) (h : sizeI x y z ≠ 0)
include hx hy hz
theorem chan_v : RoundsTo (mul (ofInt 9) (VAL x y z)) (hi3 x y z) := by
  have hu := u1
  have hu0 := uu_pos
  have hH := dig_hi hx hy hz
  have h0 := int_ge0 hH.1
  have h9 := int_le9 hH.2
  have n2 := nf_near hH
  rw [← val_nf hx hy hz] at n2
  have n3 := mul_N (A := 9) (B := 1) (g := 20 * uu) of9 n2 (by grind) (by grind) (by grind) (by grind) (by grind) (by grind) (by unfold uu; decide +kernel) (by unfold uu; decide +kernel)
  exact rounds (n3.to (by grind)) hH.1 (by unfold uu; decide +kernel)
/-- 9 v w, w near W -/
theorem chan_w {r : UInt64} {W : Rat} {N : Int} (hr : Near r W (400 * uu)) (w1 : -2 ≤ W) (w2 : W ≤ 2) (hN : (hi3 x y z : Rat) * W = (N : Rat)) (hN0 : 0 ≤ N) : RoundsTo (mul (ofInt 9) (mul (VAL x y z) r)) N := by
  have hu := u1
  have hu0 := uu_pos
  have hH := dig_hi hx hy hz
  have h0 := int_ge0 hH.1
  have h9 := int_le9 hH.2
  have n2 := nf_near hH
  rw [← val_nf hx hy hz] at n2
  obtain ⟨p1, p2⟩ := prod_bound (p := (hi3 x y z : Rat) / 9) (q := W) (a := 1) (b := 2) (by grind) (by grind) (by grind) (by grind)
  have n3 := mul_N (A := 1) (B := 2) (g := 500 * uu) n2 hr (by grind) (by grind) (by grind) (by grind) (by grind) (by grind) (by unfold uu; decide +kernel) (by unfold uu; decide +kernel)
  have n4 := mul_N (A := 9) (B := 2) (g := 6000 * uu) of9 n3 (by grind) (by grind) (by grind) (by grind) (by grind) (by grind) (by unfold uu; decide +kernel) (by unfold uu; decide +kernel)
  exact rounds (n4.to (by grind)) hN0 (by unfold uu; decide +kernel)
theorem chan_p : RoundsTo (mul (ofInt 9) (hsvP (SHARE x y z) (VAL x y z))) (lo3 x y z) := by
  have hu := u1
  have hu0 := uu_pos
  obtain ⟨s0, s1, s2⟩ := share_bounds hx hy hz
  have n1 := sub_N (g := 400 * uu) near_c1 (share_near hx hy hz) (by grind) (by grind) (by unfold uu; decide +kernel) (by grind)
  refine chan_w hx hy hz n1 (by grind) (by grind) ?_ (dig_lo hx hy hz).1
  have := size_rat (x := x) (y := y) (z := z)
  grind
include hs h
theorem fr_near : ∃ f : Rat, f * (sizeI x y z : Rat) = ((placeI x y z + st - sizeI x y z * hsvI (TURN x y z st) : Int) : Rat) ∧ 0 ≤ f ∧ f ≤ 1 ∧ Near (hsvFr (TURN x y z st)) f (252 * uu) := by
  have hu := u1
  have hu0 := uu_pos
  obtain ⟨i0, i27, j1, j2⟩ := turn_int hx hy hz hs h
  have hn := turn6_near hx hy hz hs h
  have hs1 := size1 hx hy hz h
  have s1 := int_le hs1.1
  rw [one_rat] at s1
  have n1 := ofInt_near (a := hsvI (TURN x y z st)) i0 (by omega)
  have q0 := int_ge0 i0
  have q27 := int_le i27
  have e27 : ((27 : Int) : Rat) = 27 := rfl
  rw [e27] at q27
  have d0 := int_ge0 (show 0 ≤ placeI x y z + st - sizeI x y z * hsvI (TURN x y z st) by omega)
  have d1 := int_le (show placeI x y z + st - sizeI x y z * hsvI (TURN x y z st) ≤ sizeI x y z by omega)
  unfold hsvFr
  generalize hsvI (TURN x y z st) = i at *
  generalize mul (TURN x y z st) c6 = t at *
  rw [Rat.intCast_sub, Rat.intCast_mul] at d0 d1
  rw [Rat.intCast_sub, Rat.intCast_mul]
  generalize placeI x y z + st = K at *
  generalize sizeI x y z = n at *
  have e1 : (K : Rat) / (n : Rat) * (n : Rat) = (K : Rat) := Rat.div_mul_cancel (by grind)
  generalize (K : Rat) / (n : Rat) = c at *
  have e2 : (c - (i : Rat)) * (n : Rat) = (K : Rat) - (n : Rat) * (i : Rat) := by grind
  have f0 : 0 ≤ c - (i : Rat) := by
    refine Rat.le_of_mul_le_mul_right (c := (n : Rat)) ?_ (by grind)
    rw [e2, Rat.zero_mul]; exact d0
  have f1 : c - (i : Rat) ≤ 1 := by
    refine Rat.le_of_mul_le_mul_right (c := (n : Rat)) ?_ (by grind)
    rw [e2, Rat.one_mul]; exact d1
  exact ⟨c - (i : Rat), e2, f0, f1, sub_N (g := 252 * uu) hn n1 (by grind) (by grind) (by unfold uu; decide +kernel) (by grind)⟩
theorem chan_q : RoundsTo (mul (ofInt 9) (hsvQ (TURN x y z st) (SHARE x y z) (VAL x y z))) (hi3 x y z - (placeI x y z + st - sizeI x y z * hsvI (TURN x y z st))) := by
  have hu := u1
  have hu0 := uu_pos
  obtain ⟨s0, s1, s2⟩ := share_bounds hx hy hz
  obtain ⟨f, ef, f0, f1, hf⟩ := fr_near hx hy hz hs h
  obtain ⟨i0, i27, j1, j2⟩ := turn_int hx hy hz hs h
  obtain ⟨p1, p2⟩ := prod_bound (p := shareR x y z) (q := f) (a := 1) (b := 1) (by grind) (by grind) (by grind) (by grind)
  have p3 := Rat.mul_nonneg s0 f0
  have n1 := mul_N (A := 1) (B := 1) (g := 380 * uu) (share_near hx hy hz) hf (by grind) (by grind) (by grind) (by grind) (by grind) (by grind) (by unfold uu; decide +kernel) (by unfold uu; decide +kernel)
  have n2 := sub_N (g := 400 * uu) near_c1 n1 (by grind) (by grind) (by unfold uu; decide +kernel) (by grind)
  refine chan_w hx hy hz n2 (by grind) (by grind) ?_ ?_
  · rw [Rat.intCast_sub, ← ef]
    grind
  · have := (dig_lo hx hy hz).1
    have e : sizeI x y z = hi3 x y z - lo3 x y z := rfl
    omega
theorem chan_u : RoundsTo (mul (ofInt 9) (hsvU (TURN x y z st) (SHARE x y z) (VAL x y z))) (lo3 x y z + (placeI x y z + st - sizeI x y z * hsvI (TURN x y z st))) := by
  have hu := u1
  have hu0 := uu_pos
  obtain ⟨s0, s1, s2⟩ := share_bounds hx hy hz
  obtain ⟨f, ef, f0, f1, hf⟩ := fr_near hx hy hz hs h
  obtain ⟨i0, i27, j1, j2⟩ := turn_int hx hy hz hs h
  have n0 := sub_N (g := 260 * uu) near_c1 hf (by grind) (by grind) (by unfold uu; decide +kernel) (by grind)
  obtain ⟨p1, p2⟩ := prod_bound (p := shareR x y z) (q := 1 - f) (a := 1) (b := 1) (by grind) (by grind) (by grind) (by grind)
  have p3 := Rat.mul_nonneg s0 (show 0 ≤ 1 - f by grind)
  have n1 := mul_N (A := 1) (B := 1) (g := 380 * uu) (share_near hx hy hz) n0 (by grind) (by grind) (by grind) (by grind) (by grind) (by grind) (by unfold uu; decide +kernel) (by unfold uu; decide +kernel)
  have n2 := sub_N (g := 400 * uu) near_c1 n1 (by grind) (by grind) (by unfold uu; decide +kernel) (by grind)
  refine chan_w hx hy hz n2 (by grind) (by grind) ?_ ?_
  · rw [Rat.intCast_add, ← ef]
    have := size_rat (x := x) (y := y) (z := z)
    grind
  · have := (dig_lo hx hy hz).1
    omega
end
noncomputable def Rounds3 (t : UInt64 × UInt64 × UInt64) (c : Int × Int × Int) : Prop := RoundsTo (mul (ofInt 9) t.1) c.1 ∧ RoundsTo (mul (ofInt 9) t.2.1) c.2.1 ∧ RoundsTo (mul (ofInt 9) t.2.2) c.2.2
theorem turn_rounds {x y z st : Int} (hx : Dig x) (hy : Dig y) (hz : Dig z) (hs : Step st) : Rounds3 (hsvT (TURN x y z st) (SHARE x y z) (VAL x y z)) (turnI x y z st) := by
  unfold hsvT
  rw [share_eqF hx hy hz]
  by_cases h : sizeI x y z = 0
  · rw [decide_eq_true h, if_pos rfl]
    unfold turnI
    rw [if_pos h]
    have k := chan_v hx hy hz
    have e1 : hi3 x y z = x ∧ hi3 x y z = y ∧ hi3 x y z = z := by have a := hl (x := x) (y := y) (z := z); unfold sizeI at h; generalize hi3 x y z = H at *; generalize lo3 x y z = l at *; omega
    have kx := k
    have ky := k
    rw [e1.1] at kx
    rw [e1.2.1] at ky
    rw [e1.2.2] at k
    exact ⟨kx, ky, k⟩
  · rw [decide_eq_false h, if_neg Bool.false_ne_true]
    obtain ⟨i0, i27, j1, j2⟩ := turn_int hx hy hz hs h
    have hs1 := size1 hx hy hz h
    have hw := wheel_sector (lo := lo3 x y z) hs1.1 j1 j2 i0
    have e : lo3 x y z + sizeI x y z = hi3 x y z := by unfold sizeI; omega
    rw [e] at hw
    unfold turnI
    rw [if_neg h, hw]
    unfold sectorI
    have kv := chan_v hx hy hz
    have kp := chan_p hx hy hz
    have kq := chan_q hx hy hz hs h
    have ku := chan_u hx hy hz hs h
    repeat' split
    all_goals exact ⟨by assumption, by assumption, by assumption⟩
theorem turn_round1' {x y z st : Int} (hx : Dig x) (hy : Dig y) (hz : Dig z) (hs : Step st) : RoundsTo (mul (ofInt 9) (hsvT (TURN x y z st) (SHARE x y z) (VAL x y z)).1) (turnI x y z st).1 := (turn_rounds hx hy hz hs).1
theorem turn_round2' {x y z st : Int} (hx : Dig x) (hy : Dig y) (hz : Dig z) (hs : Step st) : RoundsTo (mul (ofInt 9) (hsvT (TURN x y z st) (SHARE x y z) (VAL x y z)).2.1) (turnI x y z st).2.1 := (turn_rounds hx hy hz hs).2.1
theorem turn_round3' {x y z st : Int} (hx : Dig x) (hy : Dig y) (hz : Dig z) (hs : Step st) : RoundsTo (mul (ofInt 9) (hsvT (TURN x y z st) (SHARE x y z) (VAL x y z)).2.2) (turnI x y z st).2.2 := (turn_rounds hx hy hz hs).2.2
end Mine.Fl
end
section
open PySem PySem.W PyProof.Rows PySem.Calls PySem.Spec
namespace Mine
theorem rgbOk_of {x y z : Int} (hx : Dig x) (hy : Dig y) (hz : Dig z) : RgbOk (fdv x 9) (fdv y 9) (fdv z 9) := Fl.rgbOk_of' hx hy hz
theorem size_round {x y z : Int} (hx : Dig x) (hy : Dig y) (hz : Dig z) : RoundsTo (Float64.mul (Float64.mul (Float64.ofInt 9) (SHARE x y z)) (VAL x y z)) (sizeI x y z) := Fl.size_round' hx hy hz
theorem place_round {x y z : Int} (hx : Dig x) (hy : Dig y) (hz : Dig z) (h : sizeI x y z ≠ 0) : RoundsTo (Float64.mul (Float64.ofInt (6 * sizeI x y z)) (HUE x y z)) (placeI x y z) := Fl.place_round' hx hy hz h
theorem hsvOk_of {x y z st : Int} (hx : Dig x) (hy : Dig y) (hz : Dig z) (hs : Step st) : HsvOk (TURN x y z st) (SHARE x y z) := Fl.hsvOk_of' hx hy hz hs
theorem turn_round1 {x y z st : Int} (hx : Dig x) (hy : Dig y) (hz : Dig z) (hs : Step st) : RoundsTo (Float64.mul (Float64.ofInt 9) (hsvT (TURN x y z st) (SHARE x y z) (VAL x y z)).1) (turnI x y z st).1 := Fl.turn_round1' hx hy hz hs
theorem turn_round2 {x y z st : Int} (hx : Dig x) (hy : Dig y) (hz : Dig z) (hs : Step st) : RoundsTo (Float64.mul (Float64.ofInt 9) (hsvT (TURN x y z st) (SHARE x y z) (VAL x y z)).2.1) (turnI x y z st).2.1 := Fl.turn_round2' hx hy hz hs
theorem turn_round3 {x y z st : Int} (hx : Dig x) (hy : Dig y) (hz : Dig z) (hs : Step st) : RoundsTo (Float64.mul (Float64.ofInt 9) (hsvT (TURN x y z st) (SHARE x y z) (VAL x y z)).2.2) (turnI x y z st).2.2 := Fl.turn_round3' hx hy hz hs
end Mine
end
section
open PySem PySem.W PyProof.Rows PySem.Calls PySem.Spec
namespace Mine
noncomputable abbrev tupI (x y z : Int) (t u v : Tok) : Obj := { cls := .type "tuple", data := .seq #[.int x t, .int y u, .int z v] }
end Mine
end
section
open PySem PySem.W PyProof.Rows PySem.Calls PySem.Spec
namespace Mine
set_option maxRecDepth 100000
section
variable {prog : Program} {w : World} {A : Around} {E : Value → Shared → Prop} {s : Shared} {Q : Value → Shared → Prop} {a b : Int} {t u : Tok} {x : UInt64}
theorem div_small (ha0 : 0 ≤ a) (ha : a < 10000) (hb0 : 0 < b) (h : Q (.float (fdv a b) s.toks) { s with toks := s.toks + 1 }) :
    wpAny (model prog w) A (binaryOp .Div (.int a t) (.int b u)) Q E s :=
  AutoIntOps.truediv_2 (by simp; omega) (Flt.quot_fits (by omega) (Nat.lt_of_lt_of_le (show a.natAbs < 10000 by omega) (by decide +kernel))) h
theorem notOver {n : Int} (h : -1000 < n ∧ n < 1000) : ¬ Flt.Over n := by
  unfold Flt.Over
  have h2 : 1000 < 2 ^ 1024 - 2 ^ 970 := by decide +kernel
  have h3 : n.natAbs < 1000 := by omega
  exact fun q => absurd (Nat.lt_of_lt_of_le h2 q) (Nat.not_lt.mpr (Nat.le_of_lt h3))
theorem mul_small (hn : -1000 < a ∧ a < 1000) (h : Q (.float (Float64.mul (Float64.ofInt a) x) s.toks) { s with toks := s.toks + 1 }) :
    wpAny (model prog w) A (binaryOp .Mult (.int a t) (.float x u)) Q E s :=
  AutoFloatOps.mul_if_1 (Flt.fin_of_fits (notOver hn)) h
theorem not_nan {x : UInt64} (h : Float64.isFinite x = true) : ¬ Float64.isNaN x = true := by
  unfold Float64.isFinite at h; unfold Float64.isNaN
  split at h
  · rename_i q; rw [q]; exact Bool.false_ne_true
  · cases h
theorem not_inf {x : UInt64} (h : Float64.isFinite x = true) : ¬ Float64.isInf x = true := by
  unfold Float64.isFinite at h; unfold Float64.isInf
  split at h
  · rename_i q; rw [q]; exact Bool.false_ne_true
  · cases h
theorem round_to (hA : A.handled = none) (hr : RoundsTo x a) (h : Q (.int a s.toks) { s with toks := s.toks + 1 }) : wpAny (model prog w) A (call (.builtin "round") [.float x t]) Q E s := by
  obtain ⟨h1, rfl⟩ := hr
  exact Flt.call_round_float hA (fun q => absurd q (not_nan h1)) (fun q => absurd q (not_inf h1)) fun _ => h
end
noncomputable abbrev tup2 (x y : Int) (t u : Tok) : Obj := { cls := .type "tuple", data := .seq #[.int x t, .int y u] }
theorem divmodK {prog : Program} {w : World} {A : Around} {E : Value → Shared → Prop} {s : Shared} {Q : Value → Shared → Prop} {a b : Int} {t u : Tok} {h₀ : Heap} {L : Addr} {m : Str → Option Value} {news : List (Addr × Obj)} (F : Fr h₀ L s.heap m) (N : News h₀ L s.heap news) (hb : b ≠ 0) (hb' : -1000 < b ∧ b < 1000)
    (h : ∀ D h' tk t u, Fr h₀ L h' m → News h₀ L h' ((D, tup2 (a.fdiv b) (a.fmod b) t u) :: news) → (∀ p ∈ news, p.1 < D) → Q (.ref D) { s with heap := h', toks := tk }) :
    wpAny (model prog w) A (call (.builtin "divmod") [.int a t, .int b u]) Q E s :=
  divmod_N F N hb (fun h' F' N' => h _ h' _ _ _ F' N' (fun p hp => Heap.lt_size (N p hp).1)) (Or.inl (PyProof.noPylong_small (by omega)))
theorem allNe {d : Addr} {l : List (Addr × Obj)} (h : AllLt d l) : ∀ p ∈ l, p.1 ≠ d := by
  induction l with
  | nil => intro p hp; cases hp
  | cons q l ih =>
    intro p hp
    rcases List.mem_cons.mp hp with rfl | hp
    · exact Nat.ne_of_lt h.1
    · exact ih h.2 p hp

theorem sub_tup {prog : Program} {w : World} {A : Around} {E : Value → Shared → Prop} {s : Shared} {h₀ : Heap} {L a : Addr} {news : List (Addr × Obj)} {value slice : Expr} {l : List Value} {n : Nat} {k : Int} {u : Tok} {j : Nat} {v : Value} {Q : Value → Shared → Prop} (N : News h₀ L s.heap news) (hm : (a, ({ cls := .type "tuple", data := .seq l.toArray n } : Obj)) ∈ news)
    (hlo : -(2 ^ 63) ≤ k) (hhi : k < 2 ^ 63) (hj : seqIndex? k l.length = some j) (hx : l[j]? = some v) (h : Q v s)
    (hs : subscripted slice false (.ref a) (.int k u) = operate [.ref a, .int k u] (getItem (.ref a) (.int k u))) :
    wpAny (model prog w) A (subscriptTail value slice (.ref a) (.int k u)) Q E s := item_tupleT ⟨_, (N _ hm).1, rfl, n, rfl⟩ hlo hhi hj hx h hs
/-! the lambda's parts, read off the program -/
noncomputable def progBody : List Stmt := Challenge.pw_mq0127_01.main.body
noncomputable def bodyOf : Stmt → List Stmt
  | .FunctionDef _ _ b .. => b
  | _ => []
noncomputable def paramsOf : Stmt → Option Arguments
  | .FunctionDef _ p .. => some p
  | _ => none
noncomputable def valueOf : Stmt → Option Expr
  | .Assign _ v _ => some v
  | _ => none
noncomputable def pageStmts : List Stmt := match progBody[7]? with | some s => bodyOf s | none => []
noncomputable def lamE : Option Expr := match pageStmts[6]? with | some s => valueOf s | none => none
noncomputable def lamParts : Option (Arguments × Expr × Scope) := match lamE with | some (.Lambda p b s _) => some (p, b, s) | _ => none
noncomputable def noArgs : Arguments := ⟨[], [], none, [], [], none, []⟩
noncomputable def lamParams : Arguments := match lamParts with | some q => q.1 | none => noArgs
noncomputable def lamBody : Expr := match lamParts with | some q => q.2.1 | none => default
noncomputable def lamScope : Scope := match lamParts with | some q => q.2.2 | none => default
noncomputable def lamQ : Str := (Str.ofString "_law_page" ++ ".<locals>.") ++ Str.ofString "<lambda>"
noncomputable abbrev lamObj (cH cS cZ cV : Addr) (pm : Value) (c' : Addr) (ctv : Value) : Obj :=
  kla_obj (Str.ofString "<lambda>") lamQ lamParams lamBody lamScope [(Str.ofString "value", cV), (Str.ofString "size", cZ), (Str.ofString "share", cS), (Str.ofString "hue", cH)] pm c' ctv
noncomputable abbrev tab84 (c' : Addr) : Obj := tabObj #[rawInt 75, rawInt 16, .ref c']
noncomputable abbrev pageDict (w : World) (code : Int) (ct lam : Addr) (k1 k2 k3 k4 : Tok) : Obj :=
  dictOf [{ hash := PyData.keyHash w.params (Str.ofString "code"), key := .str (Str.ofString "code") k1, val := .int code k2 },
    { hash := PyData.keyHash w.params (Str.ofString "msg"), key := .str (Str.ofString "msg") k3, val := .ref ct },
    { hash := PyData.keyHash w.params (Str.ofString "info"), key := .str (Str.ofString "info") k4, val := .ref lam }] 3
end Mine
end
section
open PySem PySem.W PyProof.Rows PySem.Calls PySem.Spec
namespace Mine
set_option maxRecDepth 100000
/-- all of h but what lies at W is in h' as it was -/
noncomputable def Ext (W : List Addr) (h h' : Heap) : Prop := ∀ b o, h.get? b = some o → b ∉ W → h'.get? b = some o
theorem Ext.refl {W : List Addr} {h : Heap} : Ext W h h := fun _ _ e _ => e
theorem Ext.trans {W : List Addr} {h h' h'' : Heap} (a : Ext W h h') (b : Ext W h' h'') : Ext W h h'' := fun c o e n => b c o (a c o e n) n
theorem Ext.mono {W W' : List Addr} {h h' : Heap} (a : Ext W h h') (hs : ∀ x ∈ W, x ∈ W') : Ext W' h h' := fun c o e n => a c o e fun q => n (hs c q)
/-- the callee's ground holds all that the caller had but what is laid aside -/
noncomputable def Held (news : List (Addr × Obj)) (h g : Heap) : Prop := ∀ b o, h.get? b = some o → b ∉ news.map (·.1) → g.get? b = some o

section
variable {prog : Program} {w : World} {A₀ A : Around} {s : Shared} {base h₀ : Heap} {outer : List Env} {L : Addr} {m mg mb : Str → Option Value} {env : Env} {news : List (Addr × Obj)} {K : Frag} {p : Program} {loose : List Str} {mean : ExcName → Option Value}
  {R : Result → Shared → Prop} {name qual : Str} {params : Arguments} {body : List Stmt} {scope : Scope} {dV kV doc pm cdv ct oc : Value} {an od : Option Addr} {osl : Array (Option Value)} {f : Addr} {args : Args} {binds : List (Str × Value)} {cl : List (Str × Addr)} {fo : Obj}
theorem callE (B : Below A₀ base outer h₀) (F : Fr h₀ L s.heap m) (N : News h₀ L s.heap news) (hlim : h₀.NoLimit) (hA : A.frames = some (env :: outer)) (hf : env.frame = some L) (hke : env.scope.kind = .function)
    (ho : s.heap.get? f = some fo) (hd : fo.data = .func (fnX name qual params body scope cl dV kV doc pm an cdv ct)) (hcd : s.heap.CodeRec cdv qual) (hroom : A.depth < recursionLimit)
    (hbind : BindsTo s (fnX name qual params body scope cl dV kV doc pm an cdv ct) args binds) (hloc : ∀ y ∈ binds, scope.names.lookup y.1 = some .local)
    (h : ∀ g L' h₁ tk, Held news s.heap g → Fr h₀ L g m → Fr g L' h₁ (fun y => binds.reverse.lookup y) → News g L' h₁ news → Below A base (env :: outer) g → h₀.StaysIn g → (∀ p ∈ news, p.1 < L') → s.heap.objs.size ≤ L' →
      wpAny (model prog w) (A.deeper (envX qual scope L' f cdv cl)) (execs body (envX qual scope L' f cdv cl))
        (fun fl s' => LeaveK h₀ L m g R (match fl with | .ret v => v | _ => .none) s')
        (fun e s' => wpAny (model prog w) (A.deeper (envX qual scope L' f cdv cl)) (leaving (envX qual scope L' f cdv cl) e) (fun _ s'' => R (.error e) s'') (fun e' s'' => R (.error e') s'') s')
        { s with heap := h₁, toks := tk })
    (hcell : ∀ x ∈ scope.names, x.2 ≠ .cell) (hco : scope.isCoroutine = false) (hgen : scope.isGenerator = false) (hk : scope.kind = .function) : codeAny (model prog w) A (.call (.ref f) args) R s := by
  obtain ⟨FG, BG, st, lv⟩ := groundX (R := R) B F N hA hf hke
  refine codeAny_call_def (fd := fnX name qual params body scope cl dV kV doc pm an cdv ct) (body := body) (binds := binds) hroom ho hd (hlim.keeps F.keep) hcd rfl hbind hcell hloc (fun h₁ hns hk₁ => ?_) hco hgen hk
  exact wpAny_mono (h _ s.heap.objs.size h₁ _ (fun b o e n => hideAll_get _ e n) FG ⟨hns, fun b o e => hk₁ b o (of_hideAll _ e), Nat.le_of_eq (hideAll_size _ _)⟩
    (fun p hp => ⟨hk₁ _ _ (N p hp).1, Nat.ne_of_lt (Heap.lt_size (N p hp).1), hideAll_none _ (List.mem_map_of_mem hp)⟩) BG st (fun p hp => Heap.lt_size (N p hp).1) (Nat.le_refl _)) (fun fl s' hl => lv _ _ hl) fun _ _ y => y

theorem defE (B : Below A₀ base outer h₀) (F : Fr h₀ L s.heap m) (X₀ : K.In h₀) (N : News h₀ L s.heap news) (T : Top p loose mean mg mb h₀) (hA : A.frames = some (env :: outer)) (hf : env.frame = some L) (hke : env.scope.kind = .function)
    (ho : K.lookup f = some ⟨oc, od, .func (fnOf name qual params body scope dV kV doc pm an cdv ct), osl⟩) (hcd : codeIn K cdv qual = true) (hroom : A.depth < recursionLimit)
    (hbind : BindsTo s (fnOf name qual params body scope dV kV doc pm an cdv ct) args binds) (hloc : ∀ y ∈ binds, scope.names.lookup y.1 = some .local)
    (h : ∀ g L' h₁ tk, Held news s.heap g → Fr h₀ L g m → Fr g L' h₁ (fun y => binds.reverse.lookup y) → News g L' h₁ news → Below A base (env :: outer) g → K.In g → Top p loose mean mg mb g → (∀ p ∈ news, p.1 < L') → s.heap.objs.size ≤ L' →
      wpAny (model prog w) (A.deeper (envOf qual scope L' f cdv)) (execs body (envOf qual scope L' f cdv))
        (fun fl s' => LeaveK h₀ L m g R (match fl with | .ret v => v | _ => .none) s')
        (fun e s' => wpAny (model prog w) (A.deeper (envOf qual scope L' f cdv)) (leaving (envOf qual scope L' f cdv) e) (fun _ s'' => R (.error e) s'') (fun e' s'' => R (.error e') s'') s')
        { s with heap := h₁, toks := tk })
    (hco : scope.isCoroutine = false) (hgen : scope.isGenerator = false) (hk : scope.kind = .function)
    (hcell : ∀ x ∈ scope.names, x.2 ≠ .cell) : codeAny (model prog w) A (.call (.ref f) args) R s :=
  callE (cl := []) B F N T.nolimit hA hf hke ((X₀.keeps F.keep) _ _ ho) rfl (codeRec_of (X₀.keeps F.keep) hcd) hroom hbind hloc (fun g L' h₁ tk hg FG F' N' B' st lt lz => h g L' h₁ tk hg FG F' N' B' (X₀.keeps st) (T.keeps st) lt lz) hcell hco hgen hk

theorem nestE {c' : Addr} {ctv : Value} (B : Below A₀ base outer h₀) (F : Fr h₀ L s.heap m) (X₀ : K.In h₀) (N : News h₀ L s.heap news) (T : Top p loose mean mg mb h₀) (hA : A.frames = some (env :: outer)) (hf : env.frame = some L) (hke : env.scope.kind = .function)
    (ho : (f, fnMade name qual params body scope cl doc pm c' ctv) ∈ news) (hcd : s.heap.CodeRec (.ref c') qual) (hroom : A.depth < recursionLimit)
    (hbind : BindsTo s (fnX name qual params body scope cl .none .none doc pm none (.ref c') ctv) args binds) (hloc : ∀ y ∈ binds, scope.names.lookup y.1 = some .local)
    (h : ∀ g L' h₁ tk, Held news s.heap g → Fr h₀ L g m → Fr g L' h₁ (fun y => binds.reverse.lookup y) → News g L' h₁ news → Below A base (env :: outer) g → K.In g → Top p loose mean mg mb g → (∀ p ∈ news, p.1 < L') → s.heap.objs.size ≤ L' →
      wpAny (model prog w) (A.deeper (envX qual scope L' f (.ref c') cl)) (execs body (envX qual scope L' f (.ref c') cl))
        (fun fl s' => LeaveK h₀ L m g R (match fl with | .ret v => v | _ => .none) s')
        (fun e s' => wpAny (model prog w) (A.deeper (envX qual scope L' f (.ref c') cl)) (leaving (envX qual scope L' f (.ref c') cl) e) (fun _ s'' => R (.error e) s'') (fun e' s'' => R (.error e') s'') s')
        { s with heap := h₁, toks := tk })
    (hco : scope.isCoroutine = false) (hgen : scope.isGenerator = false) (hk : scope.kind = .function)
    (hcell : ∀ x ∈ scope.names, x.2 ≠ .cell) : codeAny (model prog w) A (.call (.ref f) args) R s :=
  callE (cl := cl) B F N T.nolimit hA hf hke (N _ ho).1 rfl hcd hroom hbind hloc (fun g L' h₁ tk hg FG F' N' B' st lt lz => h g L' h₁ tk hg FG F' N' B' (X₀.keeps st) (T.keeps st) lt lz) hcell hco hgen hk

theorem cellsE (B : Below A₀ base outer h₀) (F : Fr h₀ L s.heap m) (X₀ : K.In h₀) (N : News h₀ L s.heap news) (T : Top p loose mean mg mb h₀) (hA : A.frames = some (env :: outer)) (hf : env.frame = some L) (hke : env.scope.kind = .function)
    (ho : K.lookup f = some ⟨oc, od, .func (fnOf name qual params body scope dV kV doc pm an cdv ct), osl⟩) (hcd : codeIn K cdv qual = true) (hroom : A.depth < recursionLimit)
    (hbind : BindsTo s (fnOf name qual params body scope dV kV doc pm an cdv ct) args binds) (hkind : (binds.all fun y => scope.names.lookup y.1 == some .local || scope.names.lookup y.1 == some .cell) = true)
    (hnd : ((cellsFrom 0 scope.names []).map (·.1)).Nodup)
    (h : ∀ g L' h₁ tk cells, Held news s.heap g → Fr h₀ L g m → Fr g L' h₁ (bindL (envOfC qual scope L' f cdv).kindOf binds fun _ => none) → News g L' h₁ (cells ++ news) →
      CellsAre (bindC (envOfC qual scope L' f cdv).kindOf binds fun _ => none) (cellsFrom (L' + 1) scope.names []) cells → Below A base (env :: outer) g → K.In g → Top p loose mean mg mb g → (∀ p ∈ news, p.1 < L') → s.heap.objs.size ≤ L' →
      wpAny (model prog w) (A.deeper (envOfC qual scope L' f cdv)) (execs body (envOfC qual scope L' f cdv))
        (fun fl s' => LeaveK h₀ L m g R (match fl with | .ret v => v | _ => .none) s')
        (fun e s' => wpAny (model prog w) (A.deeper (envOfC qual scope L' f cdv)) (leaving (envOfC qual scope L' f cdv) e) (fun _ s'' => R (.error e) s'') (fun e' s'' => R (.error e') s'') s')
        { s with heap := h₁, toks := tk })
    (hco : scope.isCoroutine = false) (hgen : scope.isGenerator = false) (hk : scope.kind = .function) : codeAny (model prog w) A (.call (.ref f) args) R s := by
  have hkind := kindsX hkind
  obtain ⟨FG, BG, st, lv⟩ := groundX (R := R) B F N hA hf hke
  refine codeAny_call_function hroom ((X₀.keeps F.keep) _ _ ho) rfl hco hgen rfl (codeRec_of (X₀.keeps F.keep) hcd) (hbind _ _ _ _ ?_)
  refine wpAny_newFunctionEnv_cells hk (hkind _) fun env' he s' x => ?_
  subst he
  refine ⟨(T.nolimit.keeps F.keep).keeps x.toInCall.keep, codeAny_func ?_⟩
  obtain ⟨h₁, tk, rfl, _⟩ := x.done
  have hk₁ := x.toInCall.keep
  obtain ⟨cells, NC, Y⟩ := Cl.news (h₀ := s.heap) (Nat.le_refl _) fun n c hm => ⟨x.cell n c (lookup_of_mem_nodup (cellsFrom_names scope.names 0 (s.heap.objs.size + 1) [] [] rfl ▸ hnd) hm), x.above n c hm⟩
  refine wpAny_mono (h _ s.heap.objs.size h₁ tk cells (fun b o e n => hideAll_get _ e n) FG ⟨x.toInCall.ns, fun b o e => hk₁ b o (of_hideAll _ e), Nat.le_of_eq (hideAll_size _ _)⟩ (fun p hp => ?_) Y BG (X₀.keeps st) (T.keeps st) (fun p hp => Heap.lt_size (N p hp).1) (Nat.le_refl _)) (fun fl s' hl => lv _ _ hl) fun _ _ y => y
  rcases List.mem_append.mp hp with hp | hp
  · refine ⟨(NC p hp).1, (NC p hp).2.1, ?_⟩
    cases q : (hideAll s.heap (news.map (·.1))).get? p.1 with
    | none => rfl
    | some o => have := of_hideAll _ q; rw [(NC p hp).2.2] at this; cases this
  · exact ⟨hk₁ _ _ (N p hp).1, Nat.ne_of_lt (Heap.lt_size (N p hp).1), hideAll_none _ (List.mem_map_of_mem hp)⟩
end

section
variable {prog : Program} {w : World} {A A₀ : Around} {s : Shared} {K : Frag} {L : Addr} {h₀ base : Heap} {m mg mb : Str → Option Value} {news : List (Addr × Obj)} {p : Program} {loose : List Str} {mean : ExcName → Option Value}
theorem nestT {env : Env} {outer : List Env} {R : Result → Shared → Prop} {name qual : Str} {params : Arguments} {body : List Stmt} {scope : Scope} {cl : List (Str × Addr)} {doc pm ctv : Value} {c' : Addr} {f : Addr} {args : Args} {binds : List (Str × Value)}
    (B : Below A₀ base outer h₀) (F : Fr h₀ L s.heap m) (X₀ : K.In h₀) (N : News h₀ L s.heap news) (T : Top p loose mean mg mb h₀) (hA : A.frames = some (env :: outer)) (hf : env.frame = some L) (hke : env.scope.kind = .function)
    (ho : (f, fnMade name qual params body scope cl doc pm c' ctv) ∈ news) (hcd : s.heap.CodeRec (.ref c') qual) (hroom : A.depth < recursionLimit)
    (hbind : BindsTo s (fnX name qual params body scope cl .none .none doc pm none (.ref c') ctv) args binds) (hloc : ∀ y ∈ binds, scope.names.lookup y.1 = some .local)
    (h : ∀ g L' h₁ tk, Fr h₀ L g m → Fr g L' h₁ (fun y => binds.reverse.lookup y) → News g L' h₁ news → Below A base (env :: outer) g → K.In g → Top p loose mean mg mb g →
      wpAny (model prog w) (A.deeper (envX qual scope L' f (.ref c') cl)) (execs body (envX qual scope L' f (.ref c') cl))
        (fun fl s' => LeaveK h₀ L m g R (match fl with | .ret v => v | _ => .none) s')
        (fun e s' => wpAny (model prog w) (A.deeper (envX qual scope L' f (.ref c') cl)) (leaving (envX qual scope L' f (.ref c') cl) e) (fun _ s'' => R (.error e) s'') (fun e' s'' => R (.error e') s'') s')
        { s with heap := h₁, toks := tk })
    (hco : scope.isCoroutine = false) (hgen : scope.isGenerator = false) (hk : scope.kind = .function)
    (hcell : ∀ x ∈ scope.names, x.2 ≠ .cell) : codeAny (model prog w) A (.call (.ref f) args) R s :=
  code_nest B F X₀ N T hA hf hke ho hcd hroom hbind hloc (fun g L' h₁ FG F' N' B' X' T' => h g L' h₁ _ FG F' N' B' X' T') hco hgen hk hcell
theorem lamT {env : Env} {outer : List Env} {R : Result → Shared → Prop} {name qual : Str} {params : Arguments} {body : Expr} {scope : Scope} {cl : List (Str × Addr)} {pm ctv : Value} {c' : Addr} {f : Addr} {args : Args} {binds : List (Str × Value)}
    (B : Below A₀ base outer h₀) (F : Fr h₀ L s.heap m) (X₀ : K.In h₀) (N : News h₀ L s.heap news) (T : Top p loose mean mg mb h₀) (hA : A.frames = some (env :: outer)) (hf : env.frame = some L) (hke : env.scope.kind = .function)
    (ho : (f, kla_obj name qual params body scope cl pm c' ctv) ∈ news) (hcd : s.heap.CodeRec (.ref c') qual) (hroom : A.depth < recursionLimit)
    (hbind : bindArgs (kla_fn name qual params body scope cl pm (.ref c') ctv) args = pure binds) (hloc : ∀ y ∈ binds, scope.names.lookup y.1 = some .local)
    (h : ∀ g L' h₁ tk, Fr h₀ L g m → Fr g L' h₁ (fun y => binds.reverse.lookup y) → News g L' h₁ news → Below A base (env :: outer) g → K.In g → Top p loose mean mg mb g →
      wpAny (model prog w) (A.deeper (envX qual scope L' f (.ref c') cl)) (eval body (envX qual scope L' f (.ref c') cl))
        (fun v s' => LeaveK h₀ L m g R v s')
        (fun e s' => wpAny (model prog w) (A.deeper (envX qual scope L' f (.ref c') cl)) (leaving (envX qual scope L' f (.ref c') cl) e) (fun _ s'' => R (.error e) s'') (fun e' s'' => R (.error e') s'') s')
        { s with heap := h₁, toks := tk })
    (hco : scope.isCoroutine = false) (hgen : scope.isGenerator = false) (hk : scope.kind = .function)
    (hcell : ∀ x ∈ scope.names, x.2 ≠ .cell) : codeAny (model prog w) A (.call (.ref f) args) R s :=
  kla_code B F X₀ N T hA hf hke ho hcd hroom hbind hloc (fun g L' h₁ FG F' N' B' X' T' => h g L' h₁ _ FG F' N' B' X' T') hco hgen hk hcell
end

section
variable {h₀ g h h' : Heap} {L L' : Addr} {m m' : Str → Option Value} {core all news : List (Addr × Obj)} {W : List Addr}
/-- at the callee's end -/
theorem ext_of (N : News h₀ L h core) (hg : Held core h g) (F' : Fr g L' h' m') (kN : News h₀ L h' all) (hc : ∀ p ∈ core, p.1 ∈ W ∨ p ∈ all) : Ext W h h' := by
  intro b o e nW
  by_cases hb : b ∈ core.map (·.1)
  · obtain ⟨p, hp, rfl⟩ := List.mem_map.mp hb
    rcases hc p hp with q | q
    · exact absurd q nW
    · rw [(N p hp).1] at e; cases e; exact (kN p q).1
  · exact F'.keep b o (hg b o e hb)
theorem Fr.ext (F : Fr h₀ L h m) (x : Ext W h h') (hL : L ∉ W) (hW : ∀ a ∈ W, h₀.get? a = none) : Fr h₀ L h' m := by
  obtain ⟨oL, es, ep, hL', r⟩ := F.ns
  exact ⟨⟨oL, es, ep, x _ _ hL' hL, r⟩, fun b o e => x b o (F.keep b o e) fun q => (by rw [hW b q] at e; cases e), F.above⟩
theorem News.ext (N : News h₀ L h news) (x : Ext W h h') (hn : ∀ p ∈ news, p.1 ∉ W) : News h₀ L h' news := fun p hp => ⟨x _ _ (N p hp).1 (hn p hp), (N p hp).2⟩
theorem News.ext0 (N : News h₀ L h news) (x : Ext [] h h') : News h₀ L h' news := News.ext N x fun _ _ q => nomatch q
theorem News.ext1 {d : Addr} {o o' : Obj} {gg : Obj → List (Addr × Obj)} (N : News h₀ L h news) (U : UpdF d o news gg) (x : Ext [d] h h') (ho : h'.get? d = some o') : News h₀ L h' (gg o') := by
  obtain ⟨pre, post, rfl, hgg, h1, h2⟩ := U.split
  rw [hgg]
  intro p hp
  rcases List.mem_append.mp hp with hp | hp
  · exact ⟨x _ _ (N p (List.mem_append_left _ hp)).1 (by simpa using h1 p hp), (N p (List.mem_append_left _ hp)).2⟩
  · rcases List.mem_cons.mp hp with rfl | hp
    · exact ⟨ho, (N (d, o) (List.mem_append_right _ (.head _))).2⟩
    · have q := N p (List.mem_append_right _ (.tail _ hp))
      exact ⟨x _ _ q.1 (by simpa using h2 p hp), q.2⟩
theorem News.app {n1 n2 : List (Addr × Obj)} (a : News h₀ L h n1) (b : News h₀ L h n2) : News h₀ L h (n1 ++ n2) := fun p hp => (List.mem_append.mp hp).elim (a p) (b p)
theorem News.sub {n1 n2 : List (Addr × Obj)} (a : News h₀ L h n1) (hs : ∀ p ∈ n2, p ∈ n1) : News h₀ L h n2 := fun p hp => a p (hs p hp)
end
end Mine
end
section
open PySem PySem.W PyProof.Rows PySem.Calls PySem.Spec
namespace Mine
theorem leN {a b : Nat} (h : a ≤ b) : a ≤ b := h
end Mine
end
section
open PySem PySem.W PyProof.Rows PySem.Calls PySem.Spec
namespace Mine
theorem calm2 : True := by
  w_top off
  trivial
local macro_rules | `(tactic| walk_at $s:str) => `(tactic| k_extra $s)
set_option maxRecDepth 100000
set_option maxHeartbeats 8000000
noncomputable def Halt (p : Prop) : Prop := p
theorem halt {p : Prop} (h : Halt p) : p := h
section
variable {w : World} {p : Program} {loose : List Str} {mean : ExcName → Option Value} {mg mb : Str → Option Value}
    {dp un : Nat} {gd : Option (List Code)} {cn : Str} {cs : Scope} {a : Addr} {ccd : Value} {cl : List (Str × Addr)} {outer : List Env} {A₀ : Around} {base h₀ : Heap} {L : Addr} {m : Str → Option Value} {s : Shared} {Q E : Value → Shared → Prop}
    {x y z : Int} {tx ty tz : Tok} {ct : Addr}
theorem code_nz (h : sizeI x y z ≠ 0) : 100 + 100 * (placeI x y z).fdiv (sizeI x y z) + (placeI x y z).fmod (sizeI x y z) = codeI x y z := by unfold codeI; rw [if_neg h]
theorem code_z (h : sizeI x y z = 0) : 100 = codeI x y z := by unfold codeI; rw [if_pos h]
noncomputable abbrev PageRet (w : World) (Q : Value → Shared → Prop) (h₀ : Heap) (L : Addr) (m : Str → Option Value) (s : Shared) (x y z : Int) (ct : Addr) (W : List Addr) (c' : Addr) (more : List (Addr × Obj)) : Prop :=
  ∀ xp d lam cH cS cZ cV oH oS oZ oV pm ctv k1 k2 k3 k4 tH tS tZ tV h' tk, Fr h₀ L h' m →
      News h₀ L h' ((lam, lamObj cH cS cZ cV pm c' ctv) :: (xp, instObj 45 d) :: (d, pageDict w (codeI x y z) ct lam k1 k2 k3 k4) :: (cV, oV) :: (cZ, oZ) :: (cS, oS) :: (cH, oH) :: more) → Ext W s.heap h' →
      (s.heap.objs.size ≤ lam ∧ s.heap.objs.size ≤ xp ∧ s.heap.objs.size ≤ d ∧ s.heap.objs.size ≤ cV ∧ s.heap.objs.size ≤ cZ ∧ s.heap.objs.size ≤ cS ∧ s.heap.objs.size ≤ cH) →
      oH.data = .cell (some (.float (HUE x y z) tH)) → oS.data = .cell (some (.float (SHARE x y z) tS)) → oZ.data = .cell (some (.int (sizeI x y z) tZ)) → oV.data = .cell (some (.float (VAL x y z) tV)) →
      Q (.ref xp) { s with heap := h', toks := tk }
theorem page_end {W : List Addr} {all more : List (Addr × Obj)} {code : Int} {xp d lam c' cH cS cZ cV : Addr} {oH oS oZ oV : Obj} {pm ctv : Value} {k1 k2 k3 k4 tH tS tZ tV : Tok} {h' : Heap} {tk : Nat}
    (hret : PageRet w Q h₀ L m s x y z ct W c' more) (F : Fr h₀ L h' m) (N : News h₀ L h' all) (m1 : (xp, instObj 45 d) ∈ all) (m2 : (d, pageDict w code ct lam k1 k2 k3 k4) ∈ all) (m3 : (lam, lamObj cH cS cZ cV pm c' ctv) ∈ all)
    (m5 : (cV, oV) ∈ all) (m6 : (cZ, oZ) ∈ all) (m7 : (cS, oS) ∈ all) (m8 : (cH, oH) ∈ all) (mm : ∀ p ∈ more, p ∈ all) (he : code = codeI x y z) (e : Ext W s.heap h')
    (hz : s.heap.objs.size ≤ lam ∧ s.heap.objs.size ≤ xp ∧ s.heap.objs.size ≤ d ∧ s.heap.objs.size ≤ cV ∧ s.heap.objs.size ≤ cZ ∧ s.heap.objs.size ≤ cS ∧ s.heap.objs.size ≤ cH)
    (h1 : oH.data = .cell (some (.float (HUE x y z) tH))) (h2 : oS.data = .cell (some (.float (SHARE x y z) tS))) (h3 : oZ.data = .cell (some (.int (sizeI x y z) tZ))) (h4 : oV.data = .cell (some (.float (VAL x y z) tV))) : Q (.ref xp) { s with heap := h', toks := tk } := by
  subst he
  exact hret _ _ _ _ _ _ _ _ _ _ _ _ _ _ _ _ _ _ _ _ _ _ _ F (News.sub N (by
    intro p hp
    simp only [List.mem_cons] at hp
    rcases hp with rfl | rfl | rfl | rfl | rfl | rfl | rfl | hp
    all_goals first | assumption | exact mm p hp)) e hz h1 h2 h3 h4
theorem page_miss
    (B : Below A₀ base outer h₀) (F : Fr h₀ L s.heap m) (X : (hd.heap_39 w.params).In h₀) (N : News h₀ L s.heap [(ct, tupI x y z tx ty tz), (84, tabObj #[])]) (T : Top p loose mean mg mb h₀) (hk : cs.kind = .function)
    (hx : Dig x) (hy : Dig y) (hz : Dig z) (C : CodeHd base 88 84) (hne : ct ≠ 84)
    (hd : dp + 30 < recursionLimit) (hu : un + 200 < cLine) (hret : ∀ c' oc vs t, oc.data = .fields vs → vs[1]? = some (.str lamQ t) → (s.heap.objs.size ≤ c') → PageRet w Q h₀ L m s x y z ct [84] c' [(c', oc), (84, tab84 c')]) :
    wpAny (model Challenge.rw_mq0127_01.row.prog w) (ktrTop dp un gd cn cs L a ccd cl outer) (call (.ref 89) [.ref ct]) Q E s := by
  k_with_none
  k_with "call builtin:divmod" => (refine divmodK (by k_asm) (by k_asm) (by omega) (by omega) ?_; intro D_7 h_7 tk_7 t_7 u_7 F_7 N_7 l1; (try k_lt l1); (try k_sweep))
  k_with "binaryOp Div int int" => (refine div_small (by omega) (by omega) (by omega) ?_)
  k_with "binaryOp Mult int float" => (refine mul_small (by omega) ?_)
  k_with "call builtin:round" => (refine round_to rfl (by first | exact size_round (by assumption) (by assumption) (by assumption) | exact place_round (by assumption) (by assumption) (by assumption) (by assumption)) ?_)
  k_with "call ref" => ((with_reducible show wpAny _ _ (call (Value.ref 75) _) _ _ _); refine halt ?_)
  revert X; k_fill; intro X
  have hsz := size_bounds hx hy hz
  have hpl := place_bounds hx hy hz
  refine wpAny_call ?_
  k_dflt (refine' cellsE ?k1 ?k2 ?k3 ?k4 ?k5 ?kA ?kF ?kK ?k6 ?k7 ?k8 ?k9 ?kB ?kD ?_ ?c2 ?c3 ?c4; (case kA => exact rfl); (case kF => exact rfl); (case kK => first | exact rfl | assumption); (case k1 => k_asm); (case k2 => k_asm); (case k3 => k_asm); (case k4 => k_asm); (case k5 => k_asm); (case k6 => k_is); (case k7 => k_is); (case k8 => ktr_room); (case k9 => exact BindsTo.of_eq rfl); (case kB => exact rfl); (case kD => decide +kernel); (case c2 => exact rfl); (case c3 => exact rfl); (case c4 => exact rfl); k_whole; intro g_8 L_8 h_8 tk_8 cells_8 hg_8 FG_8 F_8 N_8 Y_8 B_8 X_8 T_8 l1_8 lz_8; (try k_lt l1_8); (replace lz_8 := leN lz_8); k_cells Y_8; (try simp only [List.cons_append, List.nil_append] at N_8); (try dsimp only); (try k_lift B_8); (try k_fold))
  k_steps
  unfold Halt
  k_dflt (refine' rgb_call ?B ?F ?X ?N ?T ?hk ?hd ?hu ?ok ?_; (case B => k_asm); (case F => k_asm); (case X => k_asm); (case N => k_asm); (case T => k_asm); (case hk => exact rfl); (case hd => ktr_room); (case hu => ktr_units); (case ok => exact rgbOk_of (by assumption) (by assumption) (by assumption)); k_whole); intro D_9 h_9 tk_9 t_9 u_9 v_9 F_9 N_9 l1; (try k_lt l1); (try k_sweep)
  k_steps
  all_goals (
    refine page_end (hret _ _ _ _ (by assumption) (by assumption) ?hz2) (by assumption) (by assumption) (by k_mem) (by k_mem) (by k_mem) (by k_mem) (by k_mem) (by k_mem) (by k_mem) ?hm (by first | exact code_nz (by assumption) | exact code_z (by assumption)) (ext_of N (by assumption) (by assumption) (by assumption) ?hc) ?hz (by assumption) (by assumption) (by assumption) (by assumption)
    case hz2 => omega
    case hm => exact List.forall_mem_cons.mpr ⟨by k_mem, List.forall_mem_cons.mpr ⟨by k_mem, List.forall_mem_nil _⟩⟩
    case hz => omega
    case hc => exact List.forall_mem_cons.mpr ⟨.inr (by k_mem), List.forall_mem_cons.mpr ⟨.inl (by decide), List.forall_mem_nil _⟩⟩)
theorem page_hit {c' : Addr} {oc : Obj} {vs : Array Value} {t : Tok}
    (B : Below A₀ base outer h₀) (F : Fr h₀ L s.heap m) (X : (hd.heap_39 w.params).In h₀) (N : News h₀ L s.heap [(ct, tupI x y z tx ty tz), (84, tab84 c'), (c', oc)]) (T : Top p loose mean mg mb h₀) (hk : cs.kind = .function)
    (hx : Dig x) (hy : Dig y) (hz : Dig z) (C : CodeHd base 88 84) (d1 : oc.data = .fields vs) (d2 : vs[1]? = some (.str lamQ t))
    (hd : dp + 30 < recursionLimit) (hu : un + 200 < cLine) (hret : PageRet w Q h₀ L m s x y z ct [] c' []) :
    wpAny (model Challenge.rw_mq0127_01.row.prog w) (ktrTop dp un gd cn cs L a ccd cl outer) (call (.ref 89) [.ref ct]) Q E s := by
  k_with_none
  k_with "call builtin:divmod" => (refine divmodK (by k_asm) (by k_asm) (by omega) (by omega) ?_; intro D_7 h_7 tk_7 t_7 u_7 F_7 N_7 l1; (try k_lt l1); (try k_sweep))
  k_with "binaryOp Div int int" => (refine div_small (by omega) (by omega) (by omega) ?_)
  k_with "binaryOp Mult int float" => (refine mul_small (by omega) ?_)
  k_with "call builtin:round" => (refine round_to rfl (by first | exact size_round (by assumption) (by assumption) (by assumption) | exact place_round (by assumption) (by assumption) (by assumption) (by assumption)) ?_)
  k_with "call ref" => ((with_reducible show wpAny _ _ (call (Value.ref 75) _) _ _ _); refine halt ?_)
  revert X; k_fill; intro X
  have hsz := size_bounds hx hy hz
  have hpl := place_bounds hx hy hz
  refine wpAny_call ?_
  k_dflt (refine' cellsE ?k1 ?k2 ?k3 ?k4 ?k5 ?kA ?kF ?kK ?k6 ?k7 ?k8 ?k9 ?kB ?kD ?_ ?c2 ?c3 ?c4; (case kA => exact rfl); (case kF => exact rfl); (case kK => first | exact rfl | assumption); (case k1 => k_asm); (case k2 => k_asm); (case k3 => k_asm); (case k4 => k_asm); (case k5 => k_asm); (case k6 => k_is); (case k7 => k_is); (case k8 => ktr_room); (case k9 => exact BindsTo.of_eq rfl); (case kB => exact rfl); (case kD => decide +kernel); (case c2 => exact rfl); (case c3 => exact rfl); (case c4 => exact rfl); k_whole; intro g_8 L_8 h_8 tk_8 cells_8 hg_8 FG_8 F_8 N_8 Y_8 B_8 X_8 T_8 l1_8 lz_8; (try k_lt l1_8); (replace lz_8 := leN lz_8); k_cells Y_8; (try simp only [List.cons_append, List.nil_append] at N_8); (try dsimp only); (try k_lift B_8); (try k_fold))
  k_steps
  unfold Halt
  k_dflt (refine' rgb_call ?B ?F ?X ?N ?T ?hk ?hd ?hu ?ok ?_; (case B => k_asm); (case F => k_asm); (case X => k_asm); (case N => k_asm); (case T => k_asm); (case hk => exact rfl); (case hd => ktr_room); (case hu => ktr_units); (case ok => exact rgbOk_of (by assumption) (by assumption) (by assumption)); k_whole); intro D_9 h_9 tk_9 t_9 u_9 v_9 F_9 N_9 l1; (try k_lt l1); (try k_sweep)
  k_steps
  all_goals (
    refine page_end hret (by assumption) (by assumption) (by k_mem) (by k_mem) (by k_mem) (by k_mem) (by k_mem) (by k_mem) (by k_mem) (List.forall_mem_nil _) (by first | exact code_nz (by assumption) | exact code_z (by assumption)) (ext_of N (by assumption) (by assumption) (by assumption) ?hc) ?hz (by assumption) (by assumption) (by assumption) (by assumption)
    case hz => omega
    case hc => exact List.forall_mem_cons.mpr ⟨.inr (by k_mem), List.forall_mem_cons.mpr ⟨.inr (by k_mem), List.forall_mem_cons.mpr ⟨.inr (by k_mem), List.forall_mem_nil _⟩⟩⟩)
end
end Mine
end
section
open PySem PySem.W PyProof.Rows PySem.Calls PySem.Spec
namespace Mine
set_option maxRecDepth 100000
/-! the closure _law_error, read off the program -/
noncomputable def runStmts : List Stmt := match progBody[8]? with | some s => bodyOf s | none => []
noncomputable def defParts : Stmt → Option (Arguments × List Stmt × Scope)
  | .FunctionDef _ p b _ _ _ s .. => some (p, b, s)
  | _ => none
noncomputable def errParts : Option (Arguments × List Stmt × Scope) := match runStmts[3]? with
  | some s => defParts s
  | none => none
noncomputable def errParams : Arguments := match errParts with | some q => q.1 | none => noArgs
noncomputable def errBody : List Stmt := match errParts with | some q => q.2.1 | none => []
noncomputable def errScope : Scope := match errParts with | some q => q.2.2 | none => default
noncomputable def errQ : Str := (Str.ofString "_law_run" ++ ".<locals>.") ++ Str.ofString "_law_error"
noncomputable abbrev errObj (cT cP : Addr) (doc pm : Value) (ce : Addr) (ctv : Value) : Obj :=
  fnMade (Str.ofString "_law_error") errQ errParams errBody errScope [(Str.ofString "told", cT), (Str.ofString "processor", cP)] doc pm ce ctv
noncomputable abbrev errDict (w : World) (fe : Addr) (k : Tok) : Obj := dictOf [{ hash := PyData.keyHash w.params (Str.ofString "error"), key := .str (Str.ofString "error") k, val := .ref fe }] 1
noncomputable abbrev parDict (w : World) (pa : Addr) (k : Tok) : Obj := dictOf [{ hash := PyData.keyHash w.params (Str.ofString "parent"), key := .str (Str.ofString "parent") k, val := .ref pa }] 1

/-! what is told -/
noncomputable abbrev entObj (st code : Int) (ct : Addr) (t1 t2 t3 t4 : Tok) : Obj := { cls := .type "tuple", data := .seq #[.str (Str.ofString "http") t1, .int st t2, .int code t3, .ref ct, .int code t4, .ref ct] }
noncomputable def EntAt (h : Heap) (st : Int) (v : Value) (c : Int × Int × Int) : Prop :=
  ∃ a ct t1 t2 t3 t4 u1 u2 u3, v = .ref a ∧ h.get? a = some (entObj st (codeI c.1 c.2.1 c.2.2) ct t1 t2 t3 t4) ∧ h.get? ct = some (tupI c.1 c.2.1 c.2.2 u1 u2 u3)
inductive ToldAt (h : Heap) (st : Int) : List Value → List (Int × Int × Int) → Prop
  | nil : ToldAt h st [] []
  | cons {v vs c cs} : EntAt h st v c → ToldAt h st vs cs → ToldAt h st (v :: vs) (c :: cs)
theorem ToldAt.length {h : Heap} {st : Int} {vs : List Value} {cs : List (Int × Int × Int)} (x : ToldAt h st vs cs) : vs.length = cs.length := by
  induction x with
  | nil => rfl
  | cons _ _ ih => simp [ih]
theorem ToldAt.snoc {h : Heap} {st : Int} {vs : List Value} {cs : List (Int × Int × Int)} {v : Value} {c : Int × Int × Int} (x : ToldAt h st vs cs) (e : EntAt h st v c) : ToldAt h st (vs ++ [v]) (cs ++ [c]) := by
  induction x with
  | nil => exact .cons e .nil
  | cons a _ ih => exact .cons a ih
theorem EntAt.ext {h h' : Heap} {st : Int} {v : Value} {c : Int × Int × Int} {tl : Addr} {its : Array Value} {n : Nat} (x : EntAt h st v c) (e : Ext [tl] h h') (ht : h.get? tl = some (W.listOf its n)) : EntAt h' st v c := by
  obtain ⟨a, ct, t1, t2, t3, t4, u1, u2, u3, rfl, h1, h2⟩ := x
  have ne : ∀ b o, h.get? b = some o → o.cls = .type "tuple" → b ∉ [tl] := fun b o hb hc q => by
    rw [List.mem_singleton.mp q, ht] at hb; cases hb; injection hc with q'; exact absurd q' (by decide)
  exact ⟨a, ct, t1, t2, t3, t4, u1, u2, u3, rfl, e _ _ h1 (ne _ _ h1 rfl), e _ _ h2 (ne _ _ h2 rfl)⟩
theorem ToldAt.ext {h h' : Heap} {st : Int} {vs : List Value} {cs : List (Int × Int × Int)} {tl : Addr} {its : Array Value} {n : Nat} (x : ToldAt h st vs cs) (e : Ext [tl] h h') (ht : h.get? tl = some (W.listOf its n)) : ToldAt h' st vs cs := by
  induction x with
  | nil => exact .nil
  | cons a _ ih => exact .cons (a.ext e ht) ih
theorem ext_of2 {h₀ g g2 h h' : Heap} {L L' L2 : Addr} {m m' m2 : Str → Option Value} {core all : List (Addr × Obj)} {W : List Addr}
    (N : News h₀ L h core) (hg : Held core h g) (FG : Fr g L' g2 m') (F' : Fr g2 L2 h' m2) (kN : News g2 L2 h' all) (hc : ∀ p ∈ core, p.1 ∈ W ∨ p ∈ all) : Ext W h h' := by
  intro b o e nW
  by_cases hb : b ∈ core.map (·.1)
  · obtain ⟨p, hp, rfl⟩ := List.mem_map.mp hb
    rcases hc p hp with q | q
    · exact absurd q nW
    · rw [(N p hp).1] at e; cases e; exact (kN p q).1
  · exact F'.keep b o (FG.keep b o (hg b o e hb))
theorem max2K {prog : Program} {w : World} {A : Around} {E : Value → Shared → Prop} {s : Shared} {Q : Value → Shared → Prop} {a b : Int} {t u : Tok} {h₀ : Heap} {L : Addr} {m : Str → Option Value} {news : List (Addr × Obj)} (hh : A.handled = none) (F : Fr h₀ L s.heap m) (N : News h₀ L s.heap news)
    (h : ∀ h' tk v, Fr h₀ L h' m → News h₀ L h' news → Q (.int (max a b) v) { s with heap := h', toks := tk }) :
    wpAny (model prog w) A (call (.builtin "max") [.int a t, .int b u]) Q E s :=
  Flt.max_two_num hh (.int a t) (.int b u) fun h' tk kp => by
    by_cases c : a < b
    · have := h h' tk u (F.grownK kp) (N.grown kp)
      rw [Int.max_eq_right (Int.le_of_lt c)] at this
      simpa [Flt.ltV, c] using this
    · have := h h' tk t (F.grownK kp) (N.grown kp)
      rw [Int.max_eq_left (Int.not_lt.mp c)] at this
      simpa [Flt.ltV, c] using this
noncomputable def isL (o : Obj) : Bool := match o.cls, o.data with
  | .type t, .seq .. => t == "list"
  | _, _ => false
theorem isL_cell {o : Obj} {v : Option Value} (h : o.data = .cell v) : isL o = false := by unfold isL; rw [h]; split <;> simp_all
theorem isL_fields {o : Obj} {v : Array Value} (h : o.data = .fields v) : isL o = false := by unfold isL; rw [h]; split <;> simp_all
theorem neL {h₀ h : Heap} {L a b : Addr} {o o' : Obj} {news : List (Addr × Obj)} (N : News h₀ L h news) (h1 : (a, o) ∈ news) (h2 : (b, o') ∈ news) (e1 : isL o = true) (e2 : isL o' = false) : @Ne Nat a b := by
  intro e
  have q1 := (N _ h1).1
  have q2 := (N _ h2).1
  dsimp only at q1 q2
  rw [show a = b from e, q2] at q1
  cases q1
  rw [e1] at e2; cases e2
theorem lenK {prog : Program} {w : World} {A : Around} {E : Value → Shared → Prop} {s : Shared} {Q : Value → Shared → Prop} {h₀ : Heap} {L a : Addr} {news : List (Addr × Obj)} {its : List Value} {v : Value} {n : Nat} (N : News h₀ L s.heap news) (hm : (a, W.listOf (its ++ [v]).toArray n) ∈ news) (hl : its.length < 1000)
    (h : ∀ t tk, Q (.int ((its.length : Int) + 1) t) { s with toks := tk }) : wpAny (model prog w) A (call (.builtin "len") [.ref a]) Q E s :=
  len_list (items := (its ++ [v]).toArray) ⟨_, (N _ hm).1, rfl, n, rfl⟩ (by simp; omega) (by
    have e : (((its ++ [v]).toArray.size : Nat) : Int) = (its.length : Int) + 1 := by simp
    rw [e]; exact h _ _)
noncomputable def Apart (a b : Nat) : Prop := a ≠ b
theorem Apart.l {a b : Nat} (h : Apart a b) : a ≠ b := h
theorem Apart.r {a b : Nat} (h : Apart a b) : b ≠ a := Ne.symm h
theorem apL {h₀ h : Heap} {L a b : Addr} {o o' : Obj} {news : List (Addr × Obj)} (N : News h₀ L h news) (h1 : (a, o) ∈ news) (h2 : (b, o') ∈ news) (e1 : isL o = true) (e2 : isL o' = false) : Apart a b := neL N h1 h2 e1 e2
theorem neObj {h₀ h : Heap} {L a b : Addr} {o o' : Obj} {news : List (Addr × Obj)} (N : News h₀ L h news) (h1 : (a, o) ∈ news) (h2 : (b, o') ∈ news) (hne : o ≠ o') : @Ne Nat a b := by
  intro e
  have q1 := (N _ h1).1
  have q2 := (N _ h2).1
  dsimp only at q1 q2
  rw [show a = b from e, q2] at q1
  cases q1
  exact hne rfl
end Mine
end
section
open PySem PySem.W PyProof.Rows PySem.Calls PySem.Spec
namespace Mine
set_option maxRecDepth 100000
/-! a list comprehension over a tuple of the ledger's -/
noncomputable def TupS (ax : Addr) (its : Array Value) (news : List (Addr × Obj)) : Prop := False ∨ ∃ o, (ax, o) ∈ news ∧ o.cls = .type "tuple" ∧ ∃ n, o.data = .seq its n
theorem TupS.tup {h₀ h : Heap} {L ax : Addr} {its : Array Value} {news : List (Addr × Obj)} (x : TupS ax its news) (N : News h₀ L h news) : h.IsTuple ax its := by
  rcases x with x | ⟨o, hm, r⟩
  · exact x.elim
  · exact ⟨o, (N _ hm).1, r⟩
section
variable {prog : Program} {w : World} {A : Around} {E : Value → Shared → Prop} {s : Shared} {h₀ : Heap} {L : Addr} {m : Str → Option Value} {env : Env}
noncomputable def TupSrc (prog : Program) (w : World) (A : Around) (h₀ : Heap) (L : Addr) (m : Str → Option Value) (env : Env) (elt : Expr) (x : Str) (scope : Scope) (cl : List (Str × Addr)) (Fin : Shared → List Value → List (Addr × Obj) → Prop) (xv : Value) (s₁ : Shared) : Prop :=
  ∃ ax its news, xv = .ref ax ∧ A.handled = none ∧ Fr h₀ L s₁.heap m ∧ News h₀ L s₁.heap news ∧ TupS ax its news ∧ its.size ≤ sizeLine ∧
    ∀ s₂ : Shared, (∃ h, s₂ = { s₁ with heap := h }) → LCg.CompRest prog w A h₀ L m env elt x scope cl s₂ (TupS ax its) (fun i v => its[i]? = some v) (Fin s₂) its.size 0 [] news
theorem TupSrc.ledger {elt : Expr} {x : Str} {scope : Scope} {cl : List (Str × Addr)} {Fin : Shared → List Value → List (Addr × Obj) → Prop} {ax : Addr} {its : Array Value} {k : Nat} {news : List (Addr × Obj)} {s₁ : Shared}
    (hh : A.handled = none) (F : Fr h₀ L s₁.heap m) (N : News h₀ L s₁.heap news) (hm : (ax, ({ cls := .type "tuple", data := .seq its k } : Obj)) ∈ news) (hsz : its.size ≤ sizeLine)
    (h : ∀ g, LCg.CompRest prog w A h₀ L m env elt x scope cl { s₁ with heap := g } (TupS ax its) (fun i v => its[i]? = some v) (Fin { s₁ with heap := g }) its.size 0 [] news) :
    TupSrc prog w A h₀ L m env elt x scope cl Fin (.ref ax) s₁ := ⟨ax, its, news, rfl, hh, F, N, .inr ⟨_, hm, rfl, _, rfl⟩, hsz, fun _ ⟨g, e⟩ => e ▸ h g⟩
theorem tup_st {ax I : Addr} {its : Array Value} : ∀ i (h h' : Heap) (o : Obj) (nw : List (Addr × Obj)), (h.IsTupleIter I ax i ∧ h.IsTuple ax its) → h.get? I = some o → h'.get? I = some o → (∀ b o, h₀.get? b = some o → h'.get? b = some o) → News h₀ L h' nw → TupS ax its nw → (h'.IsTupleIter I ax i ∧ h'.IsTuple ax its) :=
  fun i h h' o nw st e e' _ N S => ⟨by obtain ⟨o', q, r⟩ := st.1; rw [e] at q; cases q; exact ⟨o, e', r⟩, S.tup N⟩
theorem ListComp_T {elt iter : Expr} {x : Str} {px : Pos} {scope : Scope} {cl : List (Str × Addr)} {pos : Pos} {Q : Value → Shared → Prop} (_F₀ : Fr h₀ L s.heap m)
    (hclos : closureFor scope env = pure cl) (hcell : ∀ y ∈ scope.names, y.2 ≠ .cell) (hkind : scope.kind = .function)
    (hnames : ∀ y ∈ scope.names, y.2 = .local → scope.names.lookup y.1 = some .local) (hx : scope.names.lookup x = some .local)
    (h : wpAny (model prog w) A (eval iter env) (TupSrc prog w A h₀ L m env elt x scope cl (fun s₂ => LCg.FinE h₀ L m s₂ Q)) E s)
    (hs : ∀ x, foldedSetIterable iter env x = pure x := by intro _; rfl) :
    wpAny (model prog w) A (eval (.ListComp elt [⟨.Name x px, iter, [], 0⟩] scope pos) env) Q E s := by
  rw [eval_ListComp]
  refine wpAny_comprehension_free (use := none) rfl hs hclos hkind hnames (wpAny_mono h (fun xv s₁ h₁ => ?_) fun _ _ e => e)
  obtain ⟨ax, its, news, rfl, hh, F, N, S, hsz, R⟩ := h₁
  have hl := S.tup N
  have hlt : ax < s₁.heap.objs.size := by obtain ⟨_, e, _⟩ := hl; exact Heap.lt_size e
  refine wpAny_pyIter_tuple hl ?_
  have up : ∀ b o, s₁.heap.get? b = some o → (s₁.heap.push { cls := .type "tuple_iterator", data := .fields #[.ref ax, .int 0 0] }).get? b = some o := fun b o e => Heap.get?_push_of_some _ e
  refine LCg.block_U (Walks.tuple hh s₁.heap.objs.size ax (Nat.ne_of_lt hlt) its) hsz (fun i h st => by obtain ⟨o, e, _⟩ := st.1; exact ⟨o, e⟩) tup_st hcell hkind hx ⟨⟨_, Heap.get?_push_size _ rfl, rfl, rfl⟩, hl.push _⟩ (fun b hb => ?_)
    (F.keeps up) (N.grown up) (Nat.ne_of_lt F.ns.lt) (next_is_new F) (fun p hp => Nat.ne_of_lt (Heap.lt_size (N p hp).1)) S (R _ ⟨_, rfl⟩) ?_
  · show b < (s₁.heap.push _).objs.size
    rw [Heap.size_push]
    rcases List.mem_cons.mp hb with rfl | hb
    · exact Nat.lt_succ_self _
    · rw [List.mem_singleton.mp hb]; exact Nat.lt_succ_of_lt hlt
  · intro D C h tk m' ys news' F' N' o1 hn hC₀ hD₀ hCL hDL hCD offC fin
    refine ⟨m', hn, fun h'' hs'' => fin D h'' tk (F'.change hs'' hCL hC₀) (fun p hp => ?_) o1⟩
    refine ⟨hs''.extBut _ _ ?_ (N' p hp).1, (N' p hp).2⟩
    rcases List.mem_cons.mp hp with rfl | hp
    · exact Ne.symm hCD
    · exact offC p hp
end
theorem EntAt.same {h h' : Heap} {st : Int} {v : Value} {c : Int × Int × Int} {L : Addr} {m : Str → Option Value} (x : EntAt h st v c) (hs : Heap.SameBut L h h') (hn : h.Ns L m) : EntAt h' st v c := by
  obtain ⟨a, ct, t1, t2, t3, t4, u1, u2, u3, rfl, h1, h2⟩ := x
  obtain ⟨oL, es, ep, hL, hd, _⟩ := hn
  have ne : ∀ b o vs n, h.get? b = some o → o.data = .seq vs n → b ≠ L := fun b o vs n hb hc q => by
    rw [q, hL] at hb; cases hb; rw [hd] at hc; cases hc
  exact ⟨a, ct, t1, t2, t3, t4, u1, u2, u3, rfl, (hs.2 _ (ne _ _ _ _ h1 rfl)).trans h1, (hs.2 _ (ne _ _ _ _ h2 rfl)).trans h2⟩
theorem ToldAt.same {h h' : Heap} {st : Int} {vs : List Value} {cs : List (Int × Int × Int)} {L : Addr} {m : Str → Option Value} (x : ToldAt h st vs cs) (hs : Heap.SameBut L h h') (hn : h.Ns L m) : ToldAt h' st vs cs := by
  induction x with
  | nil => exact .nil
  | cons a _ ih => exact .cons (a.same hs hn) ih
theorem ToldAt.grown {h h' : Heap} {st : Int} {vs : List Value} {cs : List (Int × Int × Int)} (x : ToldAt h st vs cs) (hk : ∀ b o, h.get? b = some o → h'.get? b = some o) : ToldAt h' st vs cs := by
  induction x with
  | nil => exact .nil
  | cons a _ ih =>
    obtain ⟨a, ct, t1, t2, t3, t4, u1, u2, u3, rfl, h1, h2⟩ := a
    exact .cons ⟨a, ct, t1, t2, t3, t4, u1, u2, u3, rfl, hk _ _ h1, hk _ _ h2⟩ ih
theorem EntAt.of {h₀ h : Heap} {L a ct : Addr} {news : List (Addr × Obj)} {st x y z : Int} {t1 t2 t3 t4 u1 u2 u3 : Tok} (N : News h₀ L h news) (h1 : (a, entObj st (codeI x y z) ct t1 t2 t3 t4) ∈ news) (h2 : (ct, tupI x y z u1 u2 u3) ∈ news) : EntAt h st (.ref a) (x, y, z) :=
  ⟨a, ct, t1, t2, t3, t4, u1, u2, u3, rfl, (N _ h1).1, (N _ h2).1⟩
end Mine
end
section
open PySem PySem.W PyProof.Rows PySem.Calls PySem.Spec
namespace Mine
theorem calm3 : True := by
  w_top off
  trivial
local macro_rules | `(tactic| walk_at $s:str) => `(tactic| k_extra $s)
set_option maxRecDepth 100000
set_option maxHeartbeats 8000000
noncomputable def Marked (p : Prop) : Prop := p
theorem mark {M : Model} {A : Around} {t : Sem Value} {Q E : Value → Shared → Prop} {s : Shared} (h : Marked (wpAny M A t Q E s)) : wpAny M A t Q E s := h
noncomputable def Stop (p : Prop) : Prop := p
theorem stop {p : Prop} (h : Stop p) : p := h
/-- a test's answer, known whatever the ways through it -/
noncomputable def TestP (b : Bool) (s : Shared) (c : Bool) (s' : Shared) : Prop := c = b ∧ ∃ tk, s' = { s with toks := tk }
theorem test_as {M : Model} {A : Around} {t : Sem Bool} {Q : Bool → Shared → Prop} {E : Value → Shared → Prop} {s : Shared} (b : Bool) (h1 : wpAny M A t (TestP b s) E s) (h2 : ∀ tk, Q b { s with toks := tk }) : wpAny M A t Q E s :=
  wpAny_mono h1 (fun c s' h => by obtain ⟨hb, tk, e⟩ := h; subst hb e; exact h2 tk) fun _ _ e => e
local macro_rules | `(tactic| k_room) => `(tactic| ktr_room)
local macro_rules | `(tactic| k_units) => `(tactic| ktr_units)
local macro_rules | `(tactic| k_steps) => `(tactic| repeat' (first | ((with_reducible show wpAny _ _ (eval lamBody _) _ _ _); (conv => arg 3; arg 1; whnf)) | ((with_reducible show wpAny _ _ (execs errBody _) _ _ _); (conv => arg 3; arg 1; whnf)) | (k_unfold; (try dsimp only)) | (k_end; wrow_close) | walk1 | (dsimp only; walk1) | (leave1; walk_say "STEP leave1"; try dsimp only) | fail "no step"))
local macro_rules | `(tactic| k_ne) => `(tactic| (refine neN ?_; (try dsimp only); (first | (refine Apart.l ?_; with_reducible assumption) | (refine Apart.r ?_; with_reducible assumption))))
noncomputable abbrev HttpRet (w : World) (Q : Value → Shared → Prop) (h₀ : Heap) (L : Addr) (m : Str → Option Value) (s : Shared) (st : Int) (tl : Addr) (told : List (Int × Int × Int)) (c : Int × Int × Int) : Prop :=
  ∀ xq dq lq ctq q1 q2 q3 q4 u1 u2 u3 its' nn' h' tk, Fr h₀ L h' m →
    News h₀ L h' [(xq, instObj 45 dq), (dq, pageDict w (codeI c.1 c.2.1 c.2.2) ctq lq q1 q2 q3 q4), (ctq, tupI c.1 c.2.1 c.2.2 u1 u2 u3), (tl, W.listOf (List.toArray its') nn')] → Ext [tl] s.heap h' → ToldAt h' st its' told → Q (.ref xq) { s with heap := h', toks := tk }
noncomputable def HttpSpecP (P : Int → Prop) (w : World) (st : Int) (k : Nat) : Prop :=
  ∀ {p : Program} {loose : List Str} {mean : ExcName → Option Value} {mg mb : Str → Option Value}
    {dp un : Nat} {gd : Option (List Code)} {cn : Str} {cs : Scope} {a : Addr} {ccd : Value} {cl : List (Str × Addr)} {outer : List Env} {A₀ : Around} {base h₀ : Heap} {L : Addr} {m : Str → Option Value} {s : Shared} {Q E : Value → Shared → Prop}
    {x y z : Int} {tx ty tz ts : Tok} {all : List (Addr × Obj)}
    {tl fe ce pa dpa pr dpr cT cP lam xp d cV cZ cS cH ct clm : Addr} {oT oP oce ocl oV oZ oS oH : Obj} {its : List Value} {nn : Nat} {doc pm ctv pm' ctv' : Value} {ke kp k1 k2 k3 k4 tH tS tZ tV t1 t2 : Tok} {vs1 vs2 : Array Value} {told : List (Int × Int × Int)},
    Below A₀ base outer h₀ → Fr h₀ L s.heap m → (hd.heap_39 w.params).In h₀ → News h₀ L s.heap all → Top p loose mean mg mb h₀ → cs.kind = .function → CodeHd base 88 84 →
    (xp, instObj 45 d) ∈ all → (d, pageDict w (codeI x y z) ct lam k1 k2 k3 k4) ∈ all → (lam, lamObj cH cS cZ cV pm' clm ctv') ∈ all → (cV, oV) ∈ all → (cZ, oZ) ∈ all → (cS, oS) ∈ all → (cH, oH) ∈ all → (ct, tupI x y z tx ty tz) ∈ all →
    (pr, instObj 66 dpr) ∈ all → (dpr, parDict w pa kp) ∈ all → (pa, instObj 45 dpa) ∈ all → (dpa, errDict w fe ke) ∈ all → (fe, errObj cT cP doc pm ce ctv) ∈ all → (ce, oce) ∈ all → (cT, oT) ∈ all → (cP, oP) ∈ all → (84, tab84 clm) ∈ all → (clm, ocl) ∈ all →
    oT.data = .cell (some (.ref tl)) → (tl, W.listOf its.toArray nn) ∈ all → oP.data = .cell (some (.ref pr)) →
    oH.data = .cell (some (.float (HUE x y z) tH)) → oS.data = .cell (some (.float (SHARE x y z) tS)) → oZ.data = .cell (some (.int (sizeI x y z) tZ)) → oV.data = .cell (some (.float (VAL x y z) tV)) →
    ocl.data = .fields vs1 → vs1[1]? = some (.str lamQ t1) → oce.data = .fields vs2 → vs2[1]? = some (.str errQ t2) →
    Dig x → Dig y → Dig z → P (codeI x y z) → ToldAt s.heap st its told → told.length + k = 11 → dp + 10 * k + 50 < recursionLimit → un + 60 * k + 300 < cLine →
    HttpRet w Q h₀ L m s st tl (runI st k x y z told).1 (runI st k x y z told).2 →
    wpAny (model Challenge.rw_mq0127_01.row.prog w) (ktrTop dp un gd cn cs L a ccd cl outer) (call (.ref 63) [.ref pr, .int st ts, .ref xp]) Q E s
noncomputable abbrev HttpSpec (w : World) (st : Int) (k : Nat) : Prop := HttpSpecP (fun _ => True) w st k

theorem http_step {w : World} {st : Int} {k : Nat} (hs : Step st) (IH : ∀ j, k = j + 1 → HttpSpec w st j) : HttpSpec w st k := by
  k_with_none
  k_with "mine nest" => (refine nestT (by k_asm) (by k_asm) (by k_asm) (by k_asm) (by k_asm) rfl rfl rfl (by k_mem) (by exact codeRec_news (by k_asm) (by k_mem) (by assumption) (by assumption)) (by ktr_room) (by exact BindsTo.of_eq rfl) (by exact locs rfl) ?_ (by exact rfl) (by exact rfl) (by exact rfl) (by decide); k_whole; intro g_7 L_7 h_7 tk_7 FG_7 F_7 N_7 B_7 X_7 T_7; (try dsimp only); (try k_lift B_7); (try k_fold))
  k_with "mine lam" => (refine lamT (by k_asm) (by k_asm) (by k_asm) (by k_asm) (by k_asm) rfl rfl rfl (by k_mem) (by exact codeRec_news (by k_asm) (by k_mem) (by assumption) (by assumption)) (by ktr_room) (by exact rfl) (by exact locs rfl) ?_ (by exact rfl) (by exact rfl) (by exact rfl) (by decide); k_whole; intro g_7 L_7 h_7 tk_7 FG_7 F_7 N_7 B_7 X_7 T_7; (try dsimp only); (try k_lift B_7); (try k_fold))
  k_with "binaryOp Div int int" => (refine div_small (by omega) (by omega) (by omega) ?_)
  k_with "binaryOp Mult int float" => (refine mul_small (by omega) ?_)
  k_with "call builtin:max" => ((with_reducible show wpAny _ _ (call _ [Value.int _ _, Value.int _ _]) _ _ _); refine max2K rfl (by k_asm) (by k_asm) ?_; intro h_7 tk_7 q_7 F_7 N_7; (try k_sweep))
  k_with "call builtin:round" => (refine round_to rfl (by first | exact turn_round1 (by assumption) (by assumption) (by assumption) (by assumption) | exact turn_round2 (by assumption) (by assumption) (by assumption) (by assumption) | exact turn_round3 (by assumption) (by assumption) (by assumption) (by assumption)) ?_)
  k_with "call ref" => (k_here; k_dflt (refine wpAny_call ?_; first | (walk_at "mine lam") | (walk_at "mine nest")))
  k_with "call builtin:len" => ((with_reducible show wpAny _ _ (call (Value.builtin "len") [Value.ref _]) _ _ _); k_dflt (refine lenK (by k_asm) (by k_mem) (by omega) ?_); intro t_7 tk_7)
  k_with "call ref" => ((first | (with_reducible show wpAny _ _ (call (Value.ref 82) _) _ _ _) | (with_reducible show wpAny _ _ (call (Value.ref 89) _) _ _ _) | (with_reducible show wpAny _ _ (call (Value.ref 63) _) _ _ _)); refine mark ?_)
  k_with "storeName" => (k_here; k_dflt (refine stNK (by k_asm) (by k_asm) ?_); intro h_7 F_7 N_7 hs_7 hn_7; (have hT_7 := ToldAt.same (by with_reducible assumption) hs_7 hn_7); (try k_sweep))
  k_with "eval ListComp" => (k_here; k_dflt (refine ListComp_T (by k_asm) (by rfl) (by decide) (by rfl) (by decide) (by rfl) ?_))
  k_with "CompRest" => (with_unfolding_all first  | (refine LCg.CompRest.succ ?_; intro v_7 I_7 oI_7 C_7 oC_7 D_7 m_7 h_7 tk_7 E_7 hv_7 hC_7 hx_7 F_7 N_7 off_7 ne_7; lcg_open hv_7)  | refine LCg.CompRest.zero ?_)
  k_with "CompEnd" => (refine LCg.CompEnd.intro (by assumption) (by assumption) _ (by exact fun p hp => hp) (by assumption) (by lcg_src) ?_)
  k_with "FinE" => ((unfold LCg.FinE); intro D_7 h_7 tk_7 F_7 N_7 o1_7; (try simp only [List.nil_append, List.cons_append] at N_7); (try dsimp only))
  k_with "TupSrc" => (k_here; k_dflt (refine TupSrc.ledger (by rfl) (by k_asm) (by k_asm) (by k_mem) (by exact Nat.le_of_ble_eq_true rfl) ?_; intro g_7; lcg_lit))
  k_with "isTrue UnaryOp" => ((fail_if_success (with_reducible show wpAny _ _ _ (TestP _ _) _ _)); refine stop ?_)
  k_with "storeName" => (k_here; k_dflt (refine stXK (by k_asm) (by k_asm) ?_); intro h_7 F_7 N_7 hs_7 hn_7; (have hT_7 := ToldAt.same (by with_reducible assumption) hs_7 hn_7); (try k_sweep))
  k_with "newTuple" => (k_here; k_dflt (refine newTuple_NK (by k_asm) (by k_asm) ?_ (by exact Nat.le_of_ble_eq_true rfl)); intro h_7 F_7 N_7 kp_7; (have hT_7 := ToldAt.grown (by with_reducible assumption) kp_7); (try k_sweep))
  intro p loose mean mg mb dp un gd cn cs a ccd cl outer A₀ base h₀ L m s Q E x y z tx ty tz ts all tl fe ce pa dpa pr dpr cT cP lam xp d cV cZ cS cH ct clm oT oP oce ocl oV oZ oS oH its nn doc pm ctv pm' ctv' ke kp k1 k2 k3 k4 tH tS tZ tV t1 t2 vs1 vs2 told
    B F X N T hk C m1 m2 m3 m4 m5 m6 m7 m8 m9 m10 m11 m12 m13 m14 m15 m16 m17 m18 eT m19 eP eH eS eZ eV e1 e2 e3 e4 hx hy hz _ hT hl hd hu hret
  have N0 : News h₀ L s.heap ((tl, W.listOf its.toArray nn) :: [(lam, lamObj cH cS cZ cV pm' clm ctv'), (xp, instObj 45 d), (d, pageDict w (codeI x y z) ct lam k1 k2 k3 k4), (cV, oV), (cZ, oZ), (cS, oS), (cH, oH), (ct, tupI x y z tx ty tz),
      (fe, errObj cT cP doc pm ce ctv), (ce, oce), (pa, instObj 45 dpa), (dpa, errDict w fe ke), (pr, instObj 66 dpr), (dpr, parDict w pa kp), (cT, oT), (cP, oP), (84, tab84 clm), (clm, ocl)]) := by
    refine News.sub N ?_
    intro p hp
    simp only [List.mem_cons, List.not_mem_nil, or_false] at hp
    rcases hp with rfl | rfl | rfl | rfl | rfl | rfl | rfl | rfl | rfl | rfl | rfl | rfl | rfl | rfl | rfl | rfl | rfl | rfl | rfl <;> assumption
  clear N m1 m2 m3 m4 m5 m6 m7 m8 m9 m10 m11 m12 m13 m14 m15 m16 m17 m18 m19
  revert X; k_fill; intro X
  have hsz := size_bounds hx hy hz
  have hil := hT.length
  obtain ⟨hx', hy', hz'⟩ := turn_dig (st := st) hx hy hz
  have n1 : Apart tl lam := apL N0 (by k_mem) (by k_mem) rfl rfl
  have n2 : Apart tl xp := apL N0 (by k_mem) (by k_mem) rfl rfl
  have n3 : Apart tl d := apL N0 (by k_mem) (by k_mem) rfl rfl
  have n4 : Apart tl cV := apL N0 (by k_mem) (by k_mem) rfl (isL_cell eV)
  have n5 : Apart tl cZ := apL N0 (by k_mem) (by k_mem) rfl (isL_cell eZ)
  have n6 : Apart tl cS := apL N0 (by k_mem) (by k_mem) rfl (isL_cell eS)
  have n7 : Apart tl cH := apL N0 (by k_mem) (by k_mem) rfl (isL_cell eH)
  have n8 : Apart tl ct := apL N0 (by k_mem) (by k_mem) rfl rfl
  have n9 : Apart tl fe := apL N0 (by k_mem) (by k_mem) rfl rfl
  have n10 : Apart tl ce := apL N0 (by k_mem) (by k_mem) rfl (isL_fields e3)
  have n11 : Apart tl pa := apL N0 (by k_mem) (by k_mem) rfl rfl
  have n12 : Apart tl dpa := apL N0 (by k_mem) (by k_mem) rfl rfl
  have n13 : Apart tl pr := apL N0 (by k_mem) (by k_mem) rfl rfl
  have n14 : Apart tl dpr := apL N0 (by k_mem) (by k_mem) rfl rfl
  have n15 : Apart tl cT := apL N0 (by k_mem) (by k_mem) rfl (isL_cell eT)
  have n16 : Apart tl cP := apL N0 (by k_mem) (by k_mem) rfl (isL_cell eP)
  have n17 : Apart tl 84 := apL N0 (by k_mem) (by k_mem) rfl rfl
  have n18 : Apart tl clm := apL N0 (by k_mem) (by k_mem) rfl (isL_fields e1)
  have hW : ∀ p ∈ ([(lam, lamObj cH cS cZ cV pm' clm ctv'), (xp, instObj 45 d), (d, pageDict w (codeI x y z) ct lam k1 k2 k3 k4), (cV, oV), (cZ, oZ), (cS, oS), (cH, oH), (ct, tupI x y z tx ty tz),
      (fe, errObj cT cP doc pm ce ctv), (ce, oce), (pa, instObj 45 dpa), (dpa, errDict w fe ke), (pr, instObj 66 dpr), (dpr, parDict w pa kp), (cT, oT), (cP, oP), (84, tab84 clm), (clm, ocl)] : List (Addr × Obj)), p.1 ∉ [tl] := by
    intro p hp q
    rw [List.mem_singleton] at q
    simp only [List.mem_cons, List.not_mem_nil, or_false] at hp
    rcases hp with rfl | rfl | rfl | rfl | rfl | rfl | rfl | rfl | rfl | rfl | rfl | rfl | rfl | rfl | rfl | rfl | rfl | rfl <;> first | exact n1.r q | exact n2.r q | exact n3.r q | exact n4.r q | exact n5.r q | exact n6.r q | exact n7.r q | exact n8.r q | exact n9.r q | exact n10.r q | exact n11.r q | exact n12.r q | exact n13.r q | exact n14.r q | exact n15.r q | exact n16.r q | exact n17.r q | exact n18.r q
  have ht0 : s.heap.get? tl = some (W.listOf its.toArray nn) := (N0 _ (.head _)).1
  refine wpAny_call ?_
  k_dflt (refine' defE ?k1 ?k2 ?k3 ?k4 ?k5 ?kA ?kF ?kK ?k6 ?k7 ?k8 ?k9 ?kB ?_ ?c2 ?c3 ?c4 ?c5; (case kA => exact rfl); (case kF => exact rfl); (case kK => first | exact rfl | assumption); (case k1 => k_asm); (case k2 => k_asm); (case k3 => k_asm); (case k4 => k_asm); (case k5 => k_asm); (case k6 => k_is); (case k7 => k_is); (case k8 => ktr_room); (case k9 => exact BindsTo.of_eq rfl); (case c5 => decide); (case kB => exact locs rfl); (case c2 => exact rfl); (case c3 => exact rfl); (case c4 => exact rfl); k_whole; intro g_8 L_8 h_8 tk_8 hg_8 FG_8 F_8 N_8 B_8 X_8 T_8 l1_8 lz_8; (try k_lt l1_8); (replace lz_8 := leN lz_8); (try dsimp only); (try k_lift B_8); (try k_fold))
  k_steps
  unfold Stop
  refine test_as (decide (¬ (200 ≤ codeI x y z ∧ codeI x y z < 300))) ?_ fun tk9 => ?_
  · k_steps
    all_goals first
      | exact ⟨Eq.symm (decide_eq_true (by omega)), _, rfl⟩
      | exact ⟨by (rw [Bool.eq_iff_iff]; simp; omega), _, rfl⟩
  by_cases hcode : 200 ≤ codeI x y z ∧ codeI x y z < 300
  · have hd1 : decide (¬ (200 ≤ codeI x y z ∧ codeI x y z < 300)) = false := decide_eq_false (fun q => q hcode)
    rw [hd1]
    simp only [Bool.false_eq_true, if_false]
    have hrun : runI st k x y z told = (told, (x, y, z)) := by cases k <;> (rw [runI]; rw [if_pos hcode])
    rw [hrun] at hret
    k_steps
    have hx9 : Ext [tl] s.heap _ := ext_of N0 (by assumption) (by assumption) (by assumption) (List.forall_mem_cons.mpr ⟨.inl (by simp), by
        refine fun p hp => Or.inr ?_
        revert p
        lcg_sub⟩)
    exact hret _ _ _ _ _ _ _ _ _ _ _ _ _ _ _ (by assumption) (News.sub (by assumption) (by lcg_sub)) hx9 (hT.ext hx9 ht0)
  have hd1 : decide (¬ (200 ≤ codeI x y z ∧ codeI x y z < 300)) = true := decide_eq_true hcode
  rw [hd1]
  simp only [if_true]
  k_steps
  · have hk0 : k = 0 := by omega
    subst hk0
    have hrun : runI st 0 x y z told = (told ++ [(x, y, z)], (x, y, z)) := by rw [runI]; rw [if_neg hcode]
    rw [hrun] at hret
    have hx9 : Ext [tl] s.heap _ := ext_of N0 (by assumption) (by assumption) (by assumption) (List.forall_mem_cons.mpr ⟨.inl (by simp), by
        refine fun p hp => Or.inr ?_
        revert p
        lcg_sub⟩)
    exact hret _ _ _ _ _ _ _ _ _ _ _ _ _ _ _ (by assumption) (News.sub (by assumption) (by lcg_sub)) hx9 (ToldAt.snoc (hT.ext hx9 ht0) (EntAt.of (by assumption) (by k_mem) (by k_mem)))
  · obtain ⟨j, rfl⟩ : ∃ j, k = j + 1 := ⟨k - 1, by omega⟩
    have hrun : runI st (j + 1) x y z told = runI st j (turnI x y z st).1 (turnI x y z st).2.1 (turnI x y z st).2.2 (told ++ [(x, y, z)]) := by rw [runI]; rw [if_neg hcode]
    rw [hrun] at hret
    unfold Marked
    k_dflt (refine' hsv_call ?B ?F ?X ?N ?T ?hk ?hd ?hu ?ok ?_; (case B => k_asm); (case F => k_asm); (case X => k_asm); (case N => k_asm); (case T => k_asm); (case hk => exact rfl); (case hd => ktr_room); (case hu => ktr_units); (case ok => exact hsvOk_of (by assumption) (by assumption) (by assumption) (by assumption)); k_whole); intro D_9 h_9 tk_9 t_9 u_9 v_9 F_9 N_9 l1; (try k_lt l1); (try k_sweep)
    k_steps
    unfold Marked
    k_dflt (refine' page_hit ?B_2 ?F_2 ?X_2 (News.sub (n1 := ?nn_2) ?N_2 ?sub_2) ?T_2 ?hk_2 ?hx_2 ?hy_2 ?hz_2 ?C_2 ?d1_2 ?d2_2 ?hd_2 ?hu_2 ?_; (case B_2 => k_asm); (case F_2 => k_asm); (case X_2 => k_asm); (case N_2 => k_asm); (case sub_2 => exact List.forall_mem_cons.mpr ⟨by k_mem, List.forall_mem_cons.mpr ⟨by k_mem, List.forall_mem_cons.mpr ⟨by k_mem, List.forall_mem_nil _⟩⟩⟩); (case T_2 => k_asm); (case hk_2 => exact rfl); (case hx_2 => assumption); (case hy_2 => assumption); (case hz_2 => assumption); (case C_2 => assumption); (case d1_2 => assumption); (case d2_2 => assumption); (case hd_2 => ktr_room); (case hu_2 => ktr_units); k_whole); intro xp_9 d_9 lam_9 cH_9 cS_9 cZ_9 cV_9 oH_9 oS_9 oZ_9 oV_9 pm_9 ctv_9 k1_9 k2_9 k3_9 k4_9 tH_9 tS_9 tZ_9 tV_9 h_9 tk_9 F_9 NW_9 ext_9 lz_9 eH_9 eS_9 eZ_9 eV_9; (have N_9 := News.app NW_9 (News.ext0 (by k_asm) ext_9)); (simp only [List.cons_append, List.nil_append] at N_9); clear NW_9; (try k_sweep)
    k_steps
    unfold Marked
    have hT2 := ToldAt.snoc (hT.ext (ext_of2 (m := fun _ => none) N0 (by assumption) (by assumption) (by assumption) (by assumption) (List.forall_mem_cons.mpr ⟨.inl (by simp), by
        refine fun p hp => Or.inr ?_
        revert p
        lcg_sub⟩)) ht0) (EntAt.of (by assumption) (by k_mem) (by k_mem))
    refine IH j rfl (by k_asm) (by k_asm) (by k_asm) (by k_asm) (by k_asm) rfl (by assumption) (by k_mem) (by k_mem) (by k_mem) (by k_mem) (by k_mem) (by k_mem) (by k_mem) (by k_mem) (by k_mem) (by k_mem) (by k_mem) (by k_mem) (by k_mem) (by k_mem) (by k_mem) (by k_mem) (by k_mem) (by k_mem) (by assumption) (by k_mem) (by assumption)
      (by assumption) (by assumption) (by assumption) (by assumption) (by assumption) (by assumption) (by assumption) (by assumption) hx' hy' hz' trivial hT2 (by simp; omega) (by ktr_room) (by ktr_units) ?_
    intro xq dq lq ctq q1 q2 q3 q4 u1 u2 u3 its' nn' h' tk F9 N9 ext9 hT9
    have N8 := News.ext (News.sub (n2 := [(lam, lamObj cH cS cZ cV pm' clm ctv'), (xp, instObj 45 d), (d, pageDict w (codeI x y z) ct lam k1 k2 k3 k4), (cV, oV), (cZ, oZ), (cS, oS), (cH, oH), (ct, tupI x y z tx ty tz),
      (fe, errObj cT cP doc pm ce ctv), (ce, oce), (pa, instObj 45 dpa), (dpa, errDict w fe ke), (pr, instObj 66 dpr), (dpr, parDict w pa kp), (cT, oT), (cP, oP), (84, tab84 clm), (clm, ocl)]) (by k_asm) (by lcg_sub)) ext9 hW
    have N7 := News.app N9 N8
    simp only [List.cons_append, List.nil_append] at N7
    clear N8 N9
    try dsimp only at F9 N7 hT9
    k_steps
    all_goals (
      have hx9 : Ext [tl] s.heap _ := ext_of N0 (by assumption) (by assumption) (by assumption) (List.forall_mem_cons.mpr ⟨.inl (by simp), by
        refine fun p hp => Or.inr ?_
        revert p
        lcg_sub⟩)
      exact hret _ _ _ _ _ _ _ _ _ _ _ _ _ _ _ (by assumption) (News.sub (by assumption) (by lcg_sub)) hx9 (by assumption))

theorem http_all {w : World} {st : Int} (hs : Step st) (k : Nat) : HttpSpec w st k := by
  induction k with
  | zero => exact http_step hs fun j h => absurd h (by omega)
  | succ k ih => exact http_step hs fun j h => by cases h; exact ih

theorem stXK {M : Model} {A : Around} {E : Value → Shared → Prop} {s : Shared} {h₀ : Heap} {L a : Addr} {m : Str → Option Value} {cn : Str} {cs : Scope} {ccd : Value} {cl : List (Str × Addr)} {x : Str} {v : Value} {Q : Unit → Shared → Prop} {news : List (Addr × Obj)} (F : Fr h₀ L s.heap m) (N : News h₀ L s.heap news)
    (h : ∀ h', Fr h₀ L h' (fun y => if y = x then some v else m y) → News h₀ L h' news → Heap.SameBut L s.heap h' → s.heap.Ns L m → Q () { s with heap := h', toks := s.toks + 1 })
    (hk : cs.kind = .function := by rfl) (hx : (envX cn cs L a ccd cl).kindOf x = some .local := by rfl) : wpAny M A (storeName (envX cn cs L a ccd cl) x v) Q E s :=
  wpAny_storeName_local hx F.ns (fun h' hn hs => h h' (F.set hn hs) (N.set hs) hs F.ns) (by show (cs.kind == .class || (cs.kind == .module && L != mainGlobals)) = false; rw [hk]; rfl)
section
variable {w : World} {p : Program} {loose : List Str} {mean : ExcName → Option Value} {mg mb : Str → Option Value}
    {dp un : Nat} {gd : Option (List Code)} {cn : Str} {cs : Scope} {a : Addr} {ccd : Value} {cl : List (Str × Addr)} {outer : List Env} {A₀ : Around} {base h₀ : Heap} {L : Addr} {m : Str → Option Value} {s : Shared} {Q E : Value → Shared → Prop}
    {x y z st : Int} {tx ty tz ts : Tok} {ct : Addr}
noncomputable abbrev tab91 (c : Addr) : Obj := tabObj #[rawInt 82, rawInt 4, .ref c]
noncomputable abbrev resObj (tl : Addr) (code : Int) (ct : Addr) (t : Tok) : Obj := { cls := .type "tuple", data := .seq #[.ref tl, .int code t, .ref ct] }
noncomputable abbrev RunRet (Q : Value → Shared → Prop) (h₀ : Heap) (L : Addr) (m : Str → Option Value) (s : Shared) (st x y z : Int) (Ws : List Addr) (more : List (Addr × Obj)) : Prop :=
  ∀ D tl ctq its nn t u1 u2 u3 h' tk, Fr h₀ L h' m →
    News h₀ L h' ((D, resObj tl (codeI (runI st 11 x y z []).2.1 (runI st 11 x y z []).2.2.1 (runI st 11 x y z []).2.2.2) ctq t) :: (tl, W.listOf (List.toArray its) nn) :: (ctq, tupI (runI st 11 x y z []).2.1 (runI st 11 x y z []).2.2.1 (runI st 11 x y z []).2.2.2 u1 u2 u3) :: more) →
    Ext Ws s.heap h' → ToldAt h' st its (runI st 11 x y z []).1 → Q (.ref D) { s with heap := h', toks := tk }
theorem run_end {P : Addr → Addr → Prop} {Ws : List Addr} {all : List (Addr × Obj)} {D tl ctq c1 c2 : Addr} {oc1 oc2 : Obj} {vs1 vs2 : Array Value} {its : List Value} {nn tk : Nat} {t u1 u2 u3 t1 t2 : Tok} {h' : Heap}
    (hret : ∀ c1 oc1 vs1 t1 c2 oc2 vs2 t2, oc1.data = .fields vs1 → vs1[1]? = some (.str lamQ t1) → oc2.data = .fields vs2 → vs2[1]? = some (.str errQ t2) → P c1 c2 → RunRet Q h₀ L m s st x y z Ws [(84, tab84 c1), (c1, oc1), (91, tab91 c2), (c2, oc2)])
    (F : Fr h₀ L h' m) (N : News h₀ L h' all) (m1 : (D, resObj tl (codeI (runI st 11 x y z []).2.1 (runI st 11 x y z []).2.2.1 (runI st 11 x y z []).2.2.2) ctq t) ∈ all) (m2 : (tl, W.listOf (List.toArray its) nn) ∈ all)
    (m3 : (ctq, tupI (runI st 11 x y z []).2.1 (runI st 11 x y z []).2.2.1 (runI st 11 x y z []).2.2.2 u1 u2 u3) ∈ all) (m4 : (84, tab84 c1) ∈ all) (m5 : (c1, oc1) ∈ all) (m6 : (91, tab91 c2) ∈ all) (m7 : (c2, oc2) ∈ all)
    (d1 : oc1.data = .fields vs1) (d2 : vs1[1]? = some (.str lamQ t1)) (d3 : oc2.data = .fields vs2) (d4 : vs2[1]? = some (.str errQ t2)) (hP : P c1 c2) (e : Ext Ws s.heap h') (hT : ToldAt h' st its (runI st 11 x y z []).1) : Q (.ref D) { s with heap := h', toks := tk } :=
  hret c1 oc1 vs1 t1 c2 oc2 vs2 t2 d1 d2 d3 d4 hP _ _ _ _ _ _ _ _ _ _ _ F (News.sub N (by
    intro p hp
    simp only [List.mem_cons, List.not_mem_nil, or_false] at hp
    rcases hp with rfl | rfl | rfl | rfl | rfl | rfl | rfl <;> assumption)) e hT
theorem run_miss
    (B : Below A₀ base outer h₀) (F : Fr h₀ L s.heap m) (X : (hd.heap_39 w.params).In h₀) (N : News h₀ L s.heap [(ct, tupI x y z tx ty tz), (84, tabObj #[]), (91, tabObj #[])]) (T : Top p loose mean mg mb h₀) (hk : cs.kind = .function)
    (hx : Dig x) (hy : Dig y) (hz : Dig z) (hs : Step st) (C : CodeHd base 88 84) (C2 : CodeHd base 95 91) (hne : @Ne Nat ct 84) (hne2 : @Ne Nat ct 91)
    (hd : dp + 230 < recursionLimit) (hu : un + 1300 < cLine)
    (hret : ∀ c1 oc1 vs1 t1 c2 oc2 vs2 t2, oc1.data = .fields vs1 → vs1[1]? = some (.str lamQ t1) → oc2.data = .fields vs2 → vs2[1]? = some (.str errQ t2) → (s.heap.objs.size ≤ c1 ∧ s.heap.objs.size ≤ c2) → RunRet Q h₀ L m s st x y z [84, 91] [(84, tab84 c1), (c1, oc1), (91, tab91 c2), (c2, oc2)]) :
    wpAny (model Challenge.rw_mq0127_01.row.prog w) (ktrTop dp un gd cn cs L a ccd cl outer) (call (.ref 96) [.ref ct, .int st ts]) Q E s := by
  k_with_none
  k_with "mine nest" => (refine nestT (by k_asm) (by k_asm) (by k_asm) (by k_asm) (by k_asm) rfl rfl rfl (by k_mem) (by exact codeRec_news (by k_asm) (by k_mem) (by assumption) (by assumption)) (by ktr_room) (by exact BindsTo.of_eq rfl) (by exact locs rfl) ?_ (by exact rfl) (by exact rfl) (by exact rfl) (by decide); k_whole; intro g_7 L_7 h_7 tk_7 FG_7 F_7 N_7 B_7 X_7 T_7; (try dsimp only); (try k_lift B_7); (try k_fold))
  k_with "mine lam" => (refine lamT (by k_asm) (by k_asm) (by k_asm) (by k_asm) (by k_asm) rfl rfl rfl (by k_mem) (by exact codeRec_news (by k_asm) (by k_mem) (by assumption) (by assumption)) (by ktr_room) (by exact rfl) (by exact locs rfl) ?_ (by exact rfl) (by exact rfl) (by exact rfl) (by decide); k_whole; intro g_7 L_7 h_7 tk_7 FG_7 F_7 N_7 B_7 X_7 T_7; (try dsimp only); (try k_lift B_7); (try k_fold))
  k_with "binaryOp Div int int" => (refine div_small (by omega) (by omega) (by omega) ?_)
  k_with "binaryOp Mult int float" => (refine mul_small (by omega) ?_)
  k_with "call builtin:max" => ((with_reducible show wpAny _ _ (call _ [Value.int _ _, Value.int _ _]) _ _ _); refine max2K rfl (by k_asm) (by k_asm) ?_; intro h_7 tk_7 q_7 F_7 N_7; (try k_sweep))
  k_with "call builtin:round" => (refine round_to rfl (by first | exact turn_round1 (by assumption) (by assumption) (by assumption) (by assumption) | exact turn_round2 (by assumption) (by assumption) (by assumption) (by assumption) | exact turn_round3 (by assumption) (by assumption) (by assumption) (by assumption)) ?_)
  k_with "call ref" => (k_here; k_dflt (refine wpAny_call ?_; first | (walk_at "mine lam") | (walk_at "mine nest")))
  k_with "call builtin:len" => ((with_reducible show wpAny _ _ (call (Value.builtin "len") [Value.ref _]) _ _ _); k_dflt (refine lenK (by k_asm) (by k_mem) (by omega) ?_); intro t_7 tk_7)
  k_with "call ref" => ((first | (with_reducible show wpAny _ _ (call (Value.ref 82) _) _ _ _) | (with_reducible show wpAny _ _ (call (Value.ref 89) _) _ _ _) | (with_reducible show wpAny _ _ (call (Value.ref 63) _) _ _ _)); refine mark ?_)
  k_with "storeName" => (k_here; k_dflt (refine stNK (by k_asm) (by k_asm) ?_); intro h_7 F_7 N_7 hs_7 hn_7; (have hT_7 := ToldAt.same (by with_reducible assumption) hs_7 hn_7); (try k_sweep))
  k_with "eval ListComp" => (k_here; k_dflt (refine ListComp_T (by k_asm) (by rfl) (by decide) (by rfl) (by decide) (by rfl) ?_))
  k_with "CompRest" => (with_unfolding_all first  | (refine LCg.CompRest.succ ?_; intro v_7 I_7 oI_7 C_7 oC_7 D_7 m_7 h_7 tk_7 E_7 hv_7 hC_7 hx_7 F_7 N_7 off_7 ne_7; lcg_open hv_7)  | refine LCg.CompRest.zero ?_)
  k_with "CompEnd" => (refine LCg.CompEnd.intro (by assumption) (by assumption) _ (by exact fun p hp => hp) (by assumption) (by lcg_src) ?_)
  k_with "FinE" => ((unfold LCg.FinE); intro D_7 h_7 tk_7 F_7 N_7 o1_7; (try simp only [List.nil_append, List.cons_append] at N_7); (try dsimp only))
  k_with "TupSrc" => (k_here; k_dflt (refine TupSrc.ledger (by rfl) (by k_asm) (by k_asm) (by k_mem) (by exact Nat.le_of_ble_eq_true rfl) ?_; intro g_7; lcg_lit))
  k_with "isTrue UnaryOp" => ((fail_if_success (with_reducible show wpAny _ _ _ (TestP _ _) _ _)); refine stop ?_)
  k_with "storeName" => (k_here; k_dflt (refine stXK (by k_asm) (by k_asm) ?_); intro h_7 F_7 N_7 hs_7 hn_7; (have hT_7 := ToldAt.same (by with_reducible assumption) hs_7 hn_7); (try k_sweep))
  k_with "newTuple" => (k_here; k_dflt (refine newTuple_NK (by k_asm) (by k_asm) ?_ (by exact Nat.le_of_ble_eq_true rfl)); intro h_7 F_7 N_7 kp_7; (have hT_7 := ToldAt.grown (by with_reducible assumption) kp_7); (try k_sweep))
  revert X; k_fill; intro X
  refine wpAny_call ?_
  k_dflt (refine' cellsE ?k1 ?k2 ?k3 ?k4 ?k5 ?kA ?kF ?kK ?k6 ?k7 ?k8 ?k9 ?kB ?kD ?_ ?c2 ?c3 ?c4; (case kA => exact rfl); (case kF => exact rfl); (case kK => first | exact rfl | assumption); (case k1 => k_asm); (case k2 => k_asm); (case k3 => k_asm); (case k4 => k_asm); (case k5 => k_asm); (case k6 => k_is); (case k7 => k_is); (case k8 => ktr_room); (case k9 => exact BindsTo.of_eq rfl); (case kB => exact rfl); (case kD => decide +kernel); (case c2 => exact rfl); (case c3 => exact rfl); (case c4 => exact rfl); k_whole; intro g_8 L_8 h_8 tk_8 cells_8 hg_8 FG_8 F_8 N_8 Y_8 B_8 X_8 T_8 l1_8 lz_8; (try k_lt l1_8); (replace lz_8 := leN lz_8); k_cells Y_8; (try simp only [List.cons_append, List.nil_append] at N_8); (try dsimp only); (try k_lift B_8); (try k_fold))
  k_steps
  unfold Marked
  have l5 := allLt_of fun p hp => Heap.lt_size ((by k_asm : News _ _ _ _) p hp).1
  simp only [AllLt, and_true] at l5
  refine' page_miss ?B ?F ?X (News.sub (n1 := ?nn) ?N ?sub) ?T ?hk hx hy hz ?C ?ne ?hd ?hu ?_
  (case B => k_asm)
  (case F => k_asm)
  (case X => k_asm)
  (case N => k_asm)
  (case sub => exact List.forall_mem_cons.mpr ⟨by k_mem, List.forall_mem_cons.mpr ⟨by k_mem, List.forall_mem_nil _⟩⟩)
  (case T => k_asm)
  (case hk => exact rfl)
  (case C => assumption)
  (case ne => exact hne)
  (case hd => ktr_room)
  (case hu => ktr_units)
  intro c1 oc1 vs1 t1 d1 d2 hzc xp d lam cH cS cZ cV oH oS oZ oV pm ctv k1 k2 k3 k4 tH tS tZ tV h5 tk5 F5 NW5 ext5 lz5 eH eS eZ eV
  have N6 := News.ext1 (by k_asm) (by k_updF : UpdF 84 (tabObj #[]) _ _) ext5 (NW5.get (a := 84) (by k_mem))
  try dsimp only at N6
  try dsimp only at lz5
  try dsimp only at hzc
  have N7 := News.app NW5 N6
  simp only [List.cons_append, List.nil_append] at N7
  clear NW5 N6
  k_steps
  unfold Marked
  refine http_all hs 11 (its := []) (told := []) (by k_asm) (by k_asm) (by k_asm) (by k_asm) (by k_asm) rfl (by assumption) (by k_mem) (by k_mem) (by k_mem) (by k_mem) (by k_mem) (by k_mem) (by k_mem) (by k_mem) (by k_mem) (by k_mem) (by k_mem) (by k_mem) (by k_mem) (by k_mem) (by k_mem) (by k_mem) (by k_mem) (by k_mem) (by assumption) (by k_mem) (by assumption)
      (by assumption) (by assumption) (by assumption) (by assumption) (by assumption) (by assumption) (by assumption) (by assumption) hx hy hz trivial .nil rfl (by ktr_room) (by ktr_units) ?_
  intro xq dq lq ctq q1 q2 q3 q4 u1 u2 u3 its' nn' h9 tk9 F9 N9 ext9 hT9
  have N6 := News.ext1 (by k_asm) (by k_updF) ext9 (N9.get (by k_mem))
  try dsimp only at N6
  have N7 := News.app N9 N6
  simp only [List.cons_append, List.nil_append] at N7
  clear N9 N6
  k_steps
  refine run_end (P := fun c1 c2 => s.heap.objs.size ≤ c1 ∧ s.heap.objs.size ≤ c2) hret (by assumption) (by assumption) (by k_mem) (by k_mem) (by k_mem) (by k_mem) (by k_mem) (by k_mem) (by k_mem) (by assumption) (by assumption) (by assumption) (by assumption) (by omega) (ext_of N (by assumption) (by assumption) (by assumption) ?_) (by assumption)
  exact List.forall_mem_cons.mpr ⟨.inr (by k_mem), List.forall_mem_cons.mpr ⟨.inl (by decide), List.forall_mem_cons.mpr ⟨.inl (by decide), List.forall_mem_nil _⟩⟩⟩
end

section
variable {w : World} {p : Program} {loose : List Str} {mean : ExcName → Option Value} {mg mb : Str → Option Value}
    {dp un : Nat} {gd : Option (List Code)} {cn : Str} {cs : Scope} {a : Addr} {ccd : Value} {cl : List (Str × Addr)} {outer : List Env} {A₀ : Around} {base h₀ : Heap} {L : Addr} {m : Str → Option Value} {s : Shared} {Q E : Value → Shared → Prop}
    {x y z st : Int} {tx ty tz ts : Tok} {ct : Addr}
theorem run_hit {c1 c2 : Addr} {oc1 oc2 : Obj} {vs1 vs2 : Array Value} {t1 t2 : Tok}
    (B : Below A₀ base outer h₀) (F : Fr h₀ L s.heap m) (X : (hd.heap_39 w.params).In h₀) (N : News h₀ L s.heap [(ct, tupI x y z tx ty tz), (84, tab84 c1), (c1, oc1), (91, tab91 c2), (c2, oc2)]) (T : Top p loose mean mg mb h₀) (hk : cs.kind = .function)
    (hx : Dig x) (hy : Dig y) (hz : Dig z) (hs : Step st) (C : CodeHd base 88 84) (C2 : CodeHd base 95 91) (d1 : oc1.data = .fields vs1) (d2 : vs1[1]? = some (.str lamQ t1)) (d3 : oc2.data = .fields vs2) (d4 : vs2[1]? = some (.str errQ t2))
    (hd : dp + 230 < recursionLimit) (hu : un + 1300 < cLine)
    (hret : ∀ c1 oc1 vs1 t1 c2 oc2 vs2 t2, oc1.data = .fields vs1 → vs1[1]? = some (.str lamQ t1) → oc2.data = .fields vs2 → vs2[1]? = some (.str errQ t2) → RunRet Q h₀ L m s st x y z [] [(84, tab84 c1), (c1, oc1), (91, tab91 c2), (c2, oc2)]) :
    wpAny (model Challenge.rw_mq0127_01.row.prog w) (ktrTop dp un gd cn cs L a ccd cl outer) (call (.ref 96) [.ref ct, .int st ts]) Q E s := by
  k_with_none
  k_with "mine nest" => (refine nestT (by k_asm) (by k_asm) (by k_asm) (by k_asm) (by k_asm) rfl rfl rfl (by k_mem) (by exact codeRec_news (by k_asm) (by k_mem) (by assumption) (by assumption)) (by ktr_room) (by exact BindsTo.of_eq rfl) (by exact locs rfl) ?_ (by exact rfl) (by exact rfl) (by exact rfl) (by decide); k_whole; intro g_7 L_7 h_7 tk_7 FG_7 F_7 N_7 B_7 X_7 T_7; (try dsimp only); (try k_lift B_7); (try k_fold))
  k_with "mine lam" => (refine lamT (by k_asm) (by k_asm) (by k_asm) (by k_asm) (by k_asm) rfl rfl rfl (by k_mem) (by exact codeRec_news (by k_asm) (by k_mem) (by assumption) (by assumption)) (by ktr_room) (by exact rfl) (by exact locs rfl) ?_ (by exact rfl) (by exact rfl) (by exact rfl) (by decide); k_whole; intro g_7 L_7 h_7 tk_7 FG_7 F_7 N_7 B_7 X_7 T_7; (try dsimp only); (try k_lift B_7); (try k_fold))
  k_with "binaryOp Div int int" => (refine div_small (by omega) (by omega) (by omega) ?_)
  k_with "binaryOp Mult int float" => (refine mul_small (by omega) ?_)
  k_with "call builtin:max" => ((with_reducible show wpAny _ _ (call _ [Value.int _ _, Value.int _ _]) _ _ _); refine max2K rfl (by k_asm) (by k_asm) ?_; intro h_7 tk_7 q_7 F_7 N_7; (try k_sweep))
  k_with "call builtin:round" => (refine round_to rfl (by first | exact turn_round1 (by assumption) (by assumption) (by assumption) (by assumption) | exact turn_round2 (by assumption) (by assumption) (by assumption) (by assumption) | exact turn_round3 (by assumption) (by assumption) (by assumption) (by assumption)) ?_)
  k_with "call ref" => (k_here; k_dflt (refine wpAny_call ?_; first | (walk_at "mine lam") | (walk_at "mine nest")))
  k_with "call builtin:len" => ((with_reducible show wpAny _ _ (call (Value.builtin "len") [Value.ref _]) _ _ _); k_dflt (refine lenK (by k_asm) (by k_mem) (by omega) ?_); intro t_7 tk_7)
  k_with "call ref" => ((first | (with_reducible show wpAny _ _ (call (Value.ref 82) _) _ _ _) | (with_reducible show wpAny _ _ (call (Value.ref 89) _) _ _ _) | (with_reducible show wpAny _ _ (call (Value.ref 63) _) _ _ _)); refine mark ?_)
  k_with "storeName" => (k_here; k_dflt (refine stNK (by k_asm) (by k_asm) ?_); intro h_7 F_7 N_7 hs_7 hn_7; (have hT_7 := ToldAt.same (by with_reducible assumption) hs_7 hn_7); (try k_sweep))
  k_with "eval ListComp" => (k_here; k_dflt (refine ListComp_T (by k_asm) (by rfl) (by decide) (by rfl) (by decide) (by rfl) ?_))
  k_with "CompRest" => (with_unfolding_all first  | (refine LCg.CompRest.succ ?_; intro v_7 I_7 oI_7 C_7 oC_7 D_7 m_7 h_7 tk_7 E_7 hv_7 hC_7 hx_7 F_7 N_7 off_7 ne_7; lcg_open hv_7)  | refine LCg.CompRest.zero ?_)
  k_with "CompEnd" => (refine LCg.CompEnd.intro (by assumption) (by assumption) _ (by exact fun p hp => hp) (by assumption) (by lcg_src) ?_)
  k_with "FinE" => ((unfold LCg.FinE); intro D_7 h_7 tk_7 F_7 N_7 o1_7; (try simp only [List.nil_append, List.cons_append] at N_7); (try dsimp only))
  k_with "TupSrc" => (k_here; k_dflt (refine TupSrc.ledger (by rfl) (by k_asm) (by k_asm) (by k_mem) (by exact Nat.le_of_ble_eq_true rfl) ?_; intro g_7; lcg_lit))
  k_with "isTrue UnaryOp" => ((fail_if_success (with_reducible show wpAny _ _ _ (TestP _ _) _ _)); refine stop ?_)
  k_with "storeName" => (k_here; k_dflt (refine stXK (by k_asm) (by k_asm) ?_); intro h_7 F_7 N_7 hs_7 hn_7; (have hT_7 := ToldAt.same (by with_reducible assumption) hs_7 hn_7); (try k_sweep))
  k_with "newTuple" => (k_here; k_dflt (refine newTuple_NK (by k_asm) (by k_asm) ?_ (by exact Nat.le_of_ble_eq_true rfl)); intro h_7 F_7 N_7 kp_7; (have hT_7 := ToldAt.grown (by with_reducible assumption) kp_7); (try k_sweep))
  revert X; k_fill; intro X
  refine wpAny_call ?_
  k_dflt (refine' cellsE ?k1 ?k2 ?k3 ?k4 ?k5 ?kA ?kF ?kK ?k6 ?k7 ?k8 ?k9 ?kB ?kD ?_ ?c2 ?c3 ?c4; (case kA => exact rfl); (case kF => exact rfl); (case kK => first | exact rfl | assumption); (case k1 => k_asm); (case k2 => k_asm); (case k3 => k_asm); (case k4 => k_asm); (case k5 => k_asm); (case k6 => k_is); (case k7 => k_is); (case k8 => ktr_room); (case k9 => exact BindsTo.of_eq rfl); (case kB => exact rfl); (case kD => decide +kernel); (case c2 => exact rfl); (case c3 => exact rfl); (case c4 => exact rfl); k_whole; intro g_8 L_8 h_8 tk_8 cells_8 hg_8 FG_8 F_8 N_8 Y_8 B_8 X_8 T_8 l1_8 lz_8; (try k_lt l1_8); (replace lz_8 := leN lz_8); k_cells Y_8; (try simp only [List.cons_append, List.nil_append] at N_8); (try dsimp only); (try k_lift B_8); (try k_fold))
  k_steps
  unfold Marked
  have l5 := allLt_of fun p hp => Heap.lt_size ((by k_asm : News _ _ _ _) p hp).1
  simp only [AllLt, and_true] at l5
  refine' page_hit ?B ?F ?X (News.sub (n1 := ?nn) ?N ?sub) ?T ?hk hx hy hz ?C d1 d2 ?hd ?hu ?_
  (case B => k_asm)
  (case F => k_asm)
  (case X => k_asm)
  (case N => k_asm)
  (case sub => exact List.forall_mem_cons.mpr ⟨by k_mem, List.forall_mem_cons.mpr ⟨by k_mem, List.forall_mem_cons.mpr ⟨by k_mem, List.forall_mem_nil _⟩⟩⟩)
  (case T => k_asm)
  (case hk => exact rfl)
  (case C => assumption)
  (case hd => ktr_room)
  (case hu => ktr_units)
  intro xp d lam cH cS cZ cV oH oS oZ oV pm ctv k1 k2 k3 k4 tH tS tZ tV h5 tk5 F5 NW5 ext5 lz5 eH eS eZ eV
  have N6 := News.ext0 (by k_asm) ext5
  try dsimp only at N6
  try dsimp only at lz5
  have N7 := News.app NW5 N6
  simp only [List.cons_append, List.nil_append] at N7
  clear NW5 N6
  k_steps
  unfold Marked
  refine http_all hs 11 (its := []) (told := []) (by k_asm) (by k_asm) (by k_asm) (by k_asm) (by k_asm) rfl (by assumption) (by k_mem) (by k_mem) (by k_mem) (by k_mem) (by k_mem) (by k_mem) (by k_mem) (by k_mem) (by k_mem) (by k_mem) (by k_mem) (by k_mem) (by k_mem) (by k_mem) (by k_mem) (by k_mem) (by k_mem) (by k_mem) (by assumption) (by k_mem) (by assumption)
      (by assumption) (by assumption) (by assumption) (by assumption) (by assumption) (by assumption) (by assumption) (by assumption) hx hy hz trivial .nil rfl (by ktr_room) (by ktr_units) ?_
  intro xq dq lq ctq q1 q2 q3 q4 u1 u2 u3 its' nn' h9 tk9 F9 N9 ext9 hT9
  have N6 := News.ext1 (by k_asm) (by k_updF) ext9 (N9.get (by k_mem))
  try dsimp only at N6
  have N7 := News.app N9 N6
  simp only [List.cons_append, List.nil_append] at N7
  clear N9 N6
  k_steps
  refine run_end (P := fun _ _ => True) (fun c1 oc1 vs1 t1 c2 oc2 vs2 t2 d1 d2 d3 d4 _ => hret c1 oc1 vs1 t1 c2 oc2 vs2 t2 d1 d2 d3 d4) (by assumption) (by assumption) (by k_mem) (by k_mem) (by k_mem) (by k_mem) (by k_mem) (by k_mem) (by k_mem) (by assumption) (by assumption) (by assumption) (by assumption) trivial (ext_of N (by assumption) (by assumption) (by assumption) ?_) (by assumption)
  exact List.forall_mem_cons.mpr ⟨.inr (by k_mem), List.forall_mem_cons.mpr ⟨.inr (by k_mem), List.forall_mem_cons.mpr ⟨.inr (by k_mem), List.forall_mem_cons.mpr ⟨.inr (by k_mem), List.forall_mem_cons.mpr ⟨.inr (by k_mem), List.forall_mem_nil _⟩⟩⟩⟩⟩
end

end Mine
end
section
open PySem PySem.W PyProof.Rows PySem.Calls PySem.Spec
namespace Mine
set_option maxRecDepth 100000
/-! lists of colour tuples, in an abstract tail of the ledger -/
noncomputable def TupIn (tl : List (Addr × Obj)) (v : Value) (c : Int × Int × Int) : Prop := ∃ a t1 t2 t3, v = .ref a ∧ (a, tupI c.1 c.2.1 c.2.2 t1 t2 t3) ∈ tl
inductive TupsIn (tl : List (Addr × Obj)) : List Value → List (Int × Int × Int) → Prop
  | nil : TupsIn tl [] []
  | cons {v vs c cs} : TupIn tl v c → TupsIn tl vs cs → TupsIn tl (v :: vs) (c :: cs)
theorem TupsIn.mono {tl tl' : List (Addr × Obj)} {vs : List Value} {cs : List (Int × Int × Int)} (x : TupsIn tl vs cs) (h : ∀ p ∈ tl, p ∈ tl') : TupsIn tl' vs cs := by
  induction x with
  | nil => exact .nil
  | cons a _ ih => obtain ⟨a, t1, t2, t3, e, m⟩ := a; exact .cons ⟨a, t1, t2, t3, e, h _ m⟩ ih
theorem TupsIn.append {tl : List (Addr × Obj)} {vs ws : List Value} {cs ds : List (Int × Int × Int)} (x : TupsIn tl vs cs) (y : TupsIn tl ws ds) : TupsIn tl (vs ++ ws) (cs ++ ds) := by
  induction x with
  | nil => exact y
  | cons a _ ih => exact .cons a ih
theorem TupsIn.length {tl : List (Addr × Obj)} {vs : List Value} {cs : List (Int × Int × Int)} (x : TupsIn tl vs cs) : vs.length = cs.length := by
  induction x with
  | nil => rfl
  | cons _ _ ih => simp [ih]
theorem TupsIn.get {tl : List (Addr × Obj)} {vs : List Value} {cs : List (Int × Int × Int)} (x : TupsIn tl vs cs) : ∀ {i : Nat} {c : Int × Int × Int}, cs[i]? = some c → ∃ v, vs[i]? = some v ∧ TupIn tl v c := by
  induction x with
  | nil => intro i c h; simp at h
  | cons a _ ih =>
    intro i c h
    cases i with
    | zero => simp at h; subst h; exact ⟨_, rfl, a⟩
    | succ i => exact ih (by simpa using h)
/-- a ledger: what is written, then the tail -/
inductive Split (tl : List (Addr × Obj)) : List (Addr × Obj) → List (Addr × Obj) → Prop
  | nil : Split tl tl []
  | cons {p n c} : Split tl n c → Split tl (p :: n) (p :: c)
theorem Split.eq {tl n c : List (Addr × Obj)} (x : Split tl n c) : n = c ++ tl := by
  induction x with
  | nil => rfl
  | cons _ ih => rw [ih]; rfl
section
variable {prog : Program} {w : World} {A : Around} {E : Value → Shared → Prop} {h₀ : Heap} {L : Addr} {m : Str → Option Value} {env : Env} {elt : Expr} {x : Str} {scope : Scope} {cl : List (Str × Addr)}
/-- one element: a new tuple -/
noncomputable def Elt3 (h₀ : Heap) (L : Addr) (m : Str → Option Value) (all : List (Addr × Obj)) (c : Int × Int × Int) (s : Shared) (y : Value) (s' : Shared) : Prop :=
  ∃ a h' tk' t1 t2 t3, y = .ref a ∧ s' = { s with heap := h', toks := tk' } ∧ Fr h₀ L h' m ∧ News h₀ L h' ((a, tupI c.1 c.2.1 c.2.2 t1 t2 t3) :: all) ∧ ∀ p ∈ all, p.1 < a
theorem tcf_rest {s : Shared} {ax : Addr} {its : Array Value} {P : Nat → Value → Prop} {Fin : List Value → List (Addr × Obj) → Prop} {conc tl : List (Addr × Obj)} {n : Nat} {ks : List Int} (g : Int → Int × Int × Int) (hks : ks.length = n)
    (hsrc : ∀ t, LCg.SrcAt h₀ ax its (conc ++ t))
    (hP : ∀ i v, i < n → P i v → ∃ k t, ks[i]? = some k ∧ v = .int k t)
    (turn : ∀ k t I oI C oC D m₂ ys tl h tk (E' : Value → Shared → Prop), LCg.NsObj oC m₂ → m₂ x = some (.int k t) → Fr h₀ L h m → News h₀ L h ((I, oI) :: (C, oC) :: (D, LCg.lst ys) :: (conc ++ tl)) →
      wpAny (model prog w) A (eval elt (compEnvC scope cl C env)) (Elt3 h₀ L m ((I, oI) :: (C, oC) :: (D, LCg.lst ys) :: (conc ++ tl)) (g k) { s with heap := h, toks := tk }) E' { s with heap := h, toks := tk })
    (fin : ∀ ys tl', (∀ p ∈ tl, p ∈ tl') → TupsIn tl' ys (ks.map g) → Fin ys (conc ++ tl')) : LCg.CompRest prog w A h₀ L m env elt x scope cl s (LCg.SrcAt h₀ ax its) P Fin n 0 [] (conc ++ tl) := by
  have key : ∀ (j i : Nat) (ys : List Value) (tl' : List (Addr × Obj)), i + j = n → (∀ p ∈ tl, p ∈ tl') → TupsIn tl' ys ((ks.take i).map g) → LCg.CompRest prog w A h₀ L m env elt x scope cl s (LCg.SrcAt h₀ ax its) P Fin j i ys (conc ++ tl') := by
    intro j
    induction j with
    | zero =>
      intro i ys tl' hi hs hy
      have e : i = ks.length := by omega
      subst e
      rw [List.take_length] at hy
      exact LCg.CompRest.zero (fin ys tl' hs hy)
    | succ j ih =>
      intro i ys tl' hi hs hy
      refine LCg.CompRest.succ ?_
      intro v I oI C oC D m₂ h tk E' hv hC hx F N off ne
      obtain ⟨k, t, hk, hv'⟩ := hP i v (by omega) hv
      rw [hv'] at hx
      refine wpAny_mono (turn k t I oI C oC D m₂ ys tl' h tk E' hC hx F N) (fun y s₂ hq => ?_) fun _ _ e => e
      obtain ⟨a, h', tk', t1, t2, t3, rfl, e, F', N', l⟩ := hq
      refine ⟨h', tk', conc ++ ((a, tupI (g k).1 (g k).2.1 (g k).2.2 t1 t2 t3) :: tl'), e, F', fun p hp => N' p ?_, LCg.Off3.of fun p hp => ?_, hsrc _, ?_⟩
      · simp only [List.mem_cons, List.mem_append] at hp ⊢
        rcases hp with hp | hp | hp | hp | hp | hp
        · exact .inr (.inl hp)
        · exact .inr (.inr (.inl hp))
        · exact .inr (.inr (.inr (.inl hp)))
        · exact .inr (.inr (.inr (.inr (.inl hp))))
        · exact .inl hp
        · exact .inr (.inr (.inr (.inr (.inr hp))))
      · rcases List.mem_append.mp hp with hp | hp
        · exact off.mem p (List.mem_append.mpr (.inl hp))
        · rcases List.mem_cons.mp hp with rfl | hp
          · exact ⟨Nat.ne_of_gt (l _ (.head _)), Nat.ne_of_gt (l _ (.tail _ (.head _))), Nat.ne_of_gt (l _ (.tail _ (.tail _ (.head _))))⟩
          · exact off.mem p (List.mem_append.mpr (.inr hp))
      · refine ih (i + 1) _ _ (by omega) (fun p hp => .tail _ (hs p hp)) ?_
        rw [List.take_add_one, hk]
        simpa using TupsIn.append (hy.mono fun p hp => .tail _ hp) (.cons ⟨a, t1, t2, t3, rfl, .head _⟩ .nil)
  exact key n 0 [] tl (by omega) (fun _ h => h) (by simp only [List.take_zero, List.map_nil]; exact .nil)
theorem tcf_src {s₁ : Shared} {ax : Addr} {vs : List Value} {ns : List Int} {k : Nat} {Fin : Shared → List Value → List (Addr × Obj) → Prop} {news conc tl : List (Addr × Obj)} (g : Int → Int × Int × Int)
    (hh : A.handled = none) (F : Fr h₀ L s₁.heap m) (N : News h₀ L s₁.heap news) (hsp : Split tl news conc) (hm : (ax, ({ cls := .type "list", data := .seq vs.toArray k } : Obj)) ∈ conc) (hi : IntsAre vs ns) (hsz : ns.length ≤ sizeLine)
    (turn : ∀ (s : Shared) k t I oI C oC D m₂ ys tl h tk (E' : Value → Shared → Prop), LCg.NsObj oC m₂ → m₂ x = some (.int k t) → Fr h₀ L h m → News h₀ L h ((I, oI) :: (C, oC) :: (D, LCg.lst ys) :: (conc ++ tl)) →
      wpAny (model prog w) A (eval elt (compEnvC scope cl C env)) (Elt3 h₀ L m ((I, oI) :: (C, oC) :: (D, LCg.lst ys) :: (conc ++ tl)) (g k) { s with heap := h, toks := tk }) E' { s with heap := h, toks := tk })
    (fin : ∀ ys tl' h, (∀ p ∈ tl, p ∈ tl') → TupsIn tl' ys (ns.map g) → Fin { s₁ with heap := h } ys (conc ++ tl')) : LCg.CompSrc prog w A h₀ L m env elt x scope cl Fin (.ref ax) s₁ := by
  have e := hsp.eq
  subst e
  refine LCg.CompSrc.ledger hh F N (List.mem_append.mpr (.inl hm)) (by rw [List.size_toArray, hi.length]; exact hsz) fun h => ?_
  exact tcf_rest (ks := ns) g (by rw [List.size_toArray]; exact hi.length.symm) (fun t => .inr ⟨_, List.mem_append.mpr (.inl hm), rfl, _, rfl⟩)
    (fun i v _ hv => by
      obtain ⟨k, t, e, hk⟩ := IntsAre.at hi i v (by simpa using hv)
      exact ⟨k, t, hk, e⟩) (turn _) fun ys tl' hs hT => fin ys tl' h hs hT
theorem tup3_eval {s : Shared} {e1 e2 e3 : Expr} {env : Env} {k : Nat} {pos : Pos} {x y z : Int} {t1 t2 t3 : Tok} {all : List (Addr × Obj)} (F : Fr h₀ L s.heap m) (N : News h₀ L s.heap all)
    (h1 : ∀ Q, Q (.int x t1) s → wpAny (model prog w) A (eval e1 env) Q E s) (h2 : ∀ Q, Q (.int y t2) s → wpAny (model prog w) A (eval e2 env) Q E s) (h3 : ∀ Q, Q (.int z t3) s → wpAny (model prog w) A (eval e3 env) Q E s)
    (q1 : starEach [e1, e2, e3] env = (false, eval e1 env) :: starEach [e2, e3] env) (q2 : starEach [e2, e3] env = (false, eval e2 env) :: starEach [e3] env) (q3 : starEach [e3] env = (false, eval e3 env) :: starEach [] env) :
    wpAny (model prog w) A (eval (.Tuple [e1, e2, e3] k pos) env) (Elt3 h₀ L m all (x, y, z) s) E s := by
  refine Tuple_ (spliced_more (h1 _ (spliced_more (h2 _ (spliced_more (h3 _ (spliced_none ?_)) q3)) q2)) q1)
  refine newTuple_N F N (fun h' F' N' => ⟨_, h', s.toks, t1, t2, t3, rfl, rfl, F', N', fun p hp => Heap.lt_size (N p hp).1⟩) (by show 3 ≤ sizeLine; decide)
theorem addTups {s : Shared} {a b : Addr} {ys zs : List Value} {n n' : Nat} {news : List (Addr × Obj)} {Q : Value → Shared → Prop} (F : Fr h₀ L s.heap m) (N : News h₀ L s.heap news)
    (ha : (a, ({ cls := .type "list", data := .seq ys.toArray n } : Obj)) ∈ news) (hb : (b, ({ cls := .type "list", data := .seq zs.toArray n' } : Obj)) ∈ news) (hl : ys.length ≤ 100) (hl' : zs.length ≤ 100)
    (h : ∀ D h', Fr h₀ L h' m → News h₀ L h' ((D, W.listOf (ys ++ zs).toArray 0) :: news) → Q (.ref D) { s with heap := h' }) : wpAny (model prog w) A (binaryOp .Add (.ref a) (.ref b)) Q E s :=
  add_lists F N ⟨_, (N _ ha).1, rfl, _, rfl⟩ ⟨_, (N _ hb).1, rfl, _, rfl⟩ (fun h' F' N' => h _ h' F' N') (Nat.le_trans (Nat.add_le_add hl hl') (by decide +kernel))
end
end Mine
end
section
open PySem PySem.W PyProof.Rows PySem.Calls PySem.Spec
namespace Mine
theorem calm4 : True := by
  w_top off
  trivial
local macro_rules | `(tactic| walk_at $s:str) => `(tactic| k_extra $s)
set_option maxRecDepth 100000
set_option maxHeartbeats 8000000
noncomputable abbrev upsI (lo hi : Int) : List Int := List.map (fun k' => lo + k') (rangeKs 0 (hi - lo - 0).toNat)
noncomputable abbrev downsI (lo hi : Int) : List Int := List.map (fun k' => hi - k') (rangeKs 0 (hi - lo - 0).toNat)
noncomputable def wheelL (lo hi : Int) : List (Int × Int × Int) :=
  ((((((upsI lo hi).map fun k => (hi, k, lo)) ++ (downsI lo hi).map fun k => (k, hi, lo)) ++ (upsI lo hi).map fun k => (lo, hi, k)) ++ (downsI lo hi).map fun k => (lo, k, hi)) ++ (upsI lo hi).map fun k => (k, lo, hi)) ++ (downsI lo hi).map fun k => (hi, lo, k)
local macro_rules | `(tactic| k_room) => `(tactic| ktr_room)
local macro_rules | `(tactic| k_units) => `(tactic| ktr_units)
theorem len_ok {ys : List Value} {tl : List (Addr × Obj)} {ks : List Int} {g : Int → Int × Int × Int} {f : Int → Int} {lo hi : Int} (h1 : 0 ≤ lo) (h3 : hi ≤ 9) (h : TupsIn tl ys (List.map g (List.map f (rangeKs 0 (hi - lo - 0).toNat)))) : ys.length ≤ 9 := by
  rw [h.length]; simp [rangeKs_length]; omega
theorem fit_ok {lo hi : Int} {f : Int → Int} (h1 : 0 ≤ lo) (h3 : hi ≤ 9) : (List.map f (rangeKs 0 (hi - lo - 0).toNat)).length ≤ sizeLine := by
  simp [rangeKs_length, sizeLine_eq]; omega
theorem app_ok {ys zs : List Value} {n : Nat} (h : ys.length ≤ n) (h' : zs.length ≤ 9) : (ys ++ zs).length ≤ n + 9 := by
  rw [List.length_append]; omega
theorem hun {n k : Nat} (h : n ≤ k) (hk : k ≤ 100) : n ≤ 100 := Nat.le_trans h hk
section
variable {w : World} {p : Program} {loose : List Str} {mean : ExcName → Option Value} {mg mb : Str → Option Value}
    {dp un : Nat} {gd : Option (List Code)} {cn : Str} {cs : Scope} {a : Addr} {ccd : Value} {cl : List (Str × Addr)} {outer : List Env} {A₀ : Around} {base h₀ : Heap} {L : Addr} {m : Str → Option Value} {s : Shared} {Q E : Value → Shared → Prop}
    {lo hi : Int} {t1 t2 : Tok}
theorem wheel_call
    (B : Below A₀ base outer h₀) (F : Fr h₀ L s.heap m) (X : (hd.heap_39 w.params).In h₀) (T : Top p loose mean mg mb h₀) (hk : cs.kind = .function)
    (h1 : 0 ≤ lo) (h2 : lo ≤ hi) (h3 : hi ≤ 9) 
    (hd : dp + 30 < recursionLimit) (hu : un + 200 < cLine)
    (hret : ∀ D tl ys n h' tk, Fr h₀ L h' m → News h₀ L h' ((D, W.listOf (List.toArray ys) n) :: tl) → TupsIn tl ys (wheelL lo hi) → Ext [] s.heap h' → Q (.ref D) { s with heap := h', toks := tk }) :
    wpAny (model Challenge.rw_mq0127_01.row.prog w) (ktrTop dp un gd cn cs L a ccd cl outer) (call (.ref 101) [.int lo t1, .int hi t2]) Q E s := by
  k_with_none
  k_with "CompSrc" => ((with_reducible show LCg.CompSrc _ _ _ _ _ _ _ (Expr.Tuple _ _ _) _ _ _ _ _ _); refine stop ?_)
  k_with "binaryOp Add ref ref" => (refine stop ?_)
  revert X; k_fill; intro X
  have N : News h₀ L s.heap [] := News.nil
  refine wpAny_call ?_
  k_dflt (refine' cellsE ?k1 ?k2 ?k3 ?k4 ?k5 ?kA ?kF ?kK ?k6 ?k7 ?k8 ?k9 ?kB ?kD ?_ ?c2 ?c3 ?c4; (case kA => exact rfl); (case kF => exact rfl); (case kK => first | exact rfl | assumption); (case k1 => k_asm); (case k2 => k_asm); (case k3 => k_asm); (case k4 => k_asm); (case k5 => k_asm); (case k6 => k_is); (case k7 => k_is); (case k8 => ktr_room); (case k9 => exact BindsTo.of_eq rfl); (case kB => exact rfl); (case kD => decide +kernel); (case c2 => exact rfl); (case c3 => exact rfl); (case c4 => exact rfl); k_whole; intro g_8 L_8 h_8 tk_8 cells_8 hg_8 FG_8 F_8 N_8 Y_8 B_8 X_8 T_8 l1_8 lz_8; (try k_lt l1_8); (replace lz_8 := leN lz_8); k_cells Y_8; (try simp only [List.cons_append, List.nil_append] at N_8); (try dsimp only); (try k_lift B_8); (try k_fold))
  k_steps
  unfold Stop
  refine' tcf_src (tl := []) (fun k => (hi, k, lo)) rfl ?F ?N ?sp ?hm ?hi ?hz ?turn ?_
  (case F => k_asm)
  (case N => k_asm)
  (case sp => repeat' (first | exact Split.nil | refine' Split.cons ?_))
  (case hm => k_mem)
  (case hi => assumption)
  (case hz => exact fit_ok h1 h3)
  case turn =>
    intro s k t I oI C oC D m₂ ys tl h tk E' hC hx F N
    simp only [List.cons_append, List.nil_append] at N ⊢
    refine' tup3_eval F N ?q1 ?q2 ?q3 rfl rfl rfl
    case q1 => intro Q q; first | exact LCgL.ld_own N (by k_mem) hC hx q | exact kcf_cell N rfl (by k_mem) (by assumption) q
    case q2 => intro Q q; first | exact LCgL.ld_own N (by k_mem) hC hx q | exact kcf_cell N rfl (by k_mem) (by assumption) q
    case q3 => intro Q q; first | exact LCgL.ld_own N (by k_mem) hC hx q | exact kcf_cell N rfl (by k_mem) (by assumption) q
  intro ys1 tl1 h11 sb1 hT1
  simp only [List.cons_append, List.nil_append]
  have hl1 : ys1.length ≤ 9 := len_ok (ks := []) h1 h3 hT1
  k_steps
  unfold Stop
  refine' tcf_src (tl := tl1) (fun k => (k, hi, lo)) rfl ?F ?N ?sp ?hm ?hi ?hz ?turn ?_
  (case F => k_asm)
  (case N => k_asm)
  (case sp => repeat' (first | exact Split.nil | refine' Split.cons ?_))
  (case hm => k_mem)
  (case hi => assumption)
  (case hz => exact fit_ok h1 h3)
  case turn =>
    intro s k t I oI C oC D m₂ ys tl h tk E' hC hx F N
    simp only [List.cons_append, List.nil_append] at N ⊢
    refine' tup3_eval F N ?q1 ?q2 ?q3 rfl rfl rfl
    case q1 => intro Q q; first | exact LCgL.ld_own N (by k_mem) hC hx q | exact kcf_cell N rfl (by k_mem) (by assumption) q
    case q2 => intro Q q; first | exact LCgL.ld_own N (by k_mem) hC hx q | exact kcf_cell N rfl (by k_mem) (by assumption) q
    case q3 => intro Q q; first | exact LCgL.ld_own N (by k_mem) hC hx q | exact kcf_cell N rfl (by k_mem) (by assumption) q
  intro ys2 tl2 h12 sb2 hT2
  simp only [List.cons_append, List.nil_append]
  have hl2 : ys2.length ≤ 9 := len_ok (ks := []) h1 h3 hT2
  k_steps
  unfold Stop
  refine' addTups ?F ?N ?ha ?hb ?l1 ?l2 ?_
  (case F => k_asm)
  (case N => k_asm)
  (case ha => k_mem)
  (case hb => k_mem)
  (case l1 => exact hun hl1 (by decide))
  (case l2 => exact hun hl2 (by decide))
  intro D2 hh2 FF2 NN2
  k_steps
  unfold Stop
  refine' tcf_src (tl := tl2) (fun k => (lo, hi, k)) rfl ?F ?N ?sp ?hm ?hi ?hz ?turn ?_
  (case F => k_asm)
  (case N => k_asm)
  (case sp => repeat' (first | exact Split.nil | refine' Split.cons ?_))
  (case hm => k_mem)
  (case hi => assumption)
  (case hz => exact fit_ok h1 h3)
  case turn =>
    intro s k t I oI C oC D m₂ ys tl h tk E' hC hx F N
    simp only [List.cons_append, List.nil_append] at N ⊢
    refine' tup3_eval F N ?q1 ?q2 ?q3 rfl rfl rfl
    case q1 => intro Q q; first | exact LCgL.ld_own N (by k_mem) hC hx q | exact kcf_cell N rfl (by k_mem) (by assumption) q
    case q2 => intro Q q; first | exact LCgL.ld_own N (by k_mem) hC hx q | exact kcf_cell N rfl (by k_mem) (by assumption) q
    case q3 => intro Q q; first | exact LCgL.ld_own N (by k_mem) hC hx q | exact kcf_cell N rfl (by k_mem) (by assumption) q
  intro ys3 tl3 h13 sb3 hT3
  simp only [List.cons_append, List.nil_append]
  have hl3 : ys3.length ≤ 9 := len_ok (ks := []) h1 h3 hT3
  k_steps
  unfold Stop
  refine' addTups ?F ?N ?ha ?hb ?l1 ?l2 ?_
  (case F => k_asm)
  (case N => k_asm)
  (case ha => k_mem)
  (case hb => k_mem)
  (case l1 => exact hun (app_ok hl1 hl2) (by decide))
  (case l2 => exact hun hl3 (by decide))
  intro D3 hh3 FF3 NN3
  k_steps
  unfold Stop
  refine' tcf_src (tl := tl3) (fun k => (lo, k, hi)) rfl ?F ?N ?sp ?hm ?hi ?hz ?turn ?_
  (case F => k_asm)
  (case N => k_asm)
  (case sp => repeat' (first | exact Split.nil | refine' Split.cons ?_))
  (case hm => k_mem)
  (case hi => assumption)
  (case hz => exact fit_ok h1 h3)
  case turn =>
    intro s k t I oI C oC D m₂ ys tl h tk E' hC hx F N
    simp only [List.cons_append, List.nil_append] at N ⊢
    refine' tup3_eval F N ?q1 ?q2 ?q3 rfl rfl rfl
    case q1 => intro Q q; first | exact LCgL.ld_own N (by k_mem) hC hx q | exact kcf_cell N rfl (by k_mem) (by assumption) q
    case q2 => intro Q q; first | exact LCgL.ld_own N (by k_mem) hC hx q | exact kcf_cell N rfl (by k_mem) (by assumption) q
    case q3 => intro Q q; first | exact LCgL.ld_own N (by k_mem) hC hx q | exact kcf_cell N rfl (by k_mem) (by assumption) q
  intro ys4 tl4 h14 sb4 hT4
  simp only [List.cons_append, List.nil_append]
  have hl4 : ys4.length ≤ 9 := len_ok (ks := []) h1 h3 hT4
  k_steps
  unfold Stop
  refine' addTups ?F ?N ?ha ?hb ?l1 ?l2 ?_
  (case F => k_asm)
  (case N => k_asm)
  (case ha => k_mem)
  (case hb => k_mem)
  (case l1 => exact hun (app_ok (app_ok hl1 hl2) hl3) (by decide))
  (case l2 => exact hun hl4 (by decide))
  intro D4 hh4 FF4 NN4
  k_steps
  unfold Stop
  refine' tcf_src (tl := tl4) (fun k => (k, lo, hi)) rfl ?F ?N ?sp ?hm ?hi ?hz ?turn ?_
  (case F => k_asm)
  (case N => k_asm)
  (case sp => repeat' (first | exact Split.nil | refine' Split.cons ?_))
  (case hm => k_mem)
  (case hi => assumption)
  (case hz => exact fit_ok h1 h3)
  case turn =>
    intro s k t I oI C oC D m₂ ys tl h tk E' hC hx F N
    simp only [List.cons_append, List.nil_append] at N ⊢
    refine' tup3_eval F N ?q1 ?q2 ?q3 rfl rfl rfl
    case q1 => intro Q q; first | exact LCgL.ld_own N (by k_mem) hC hx q | exact kcf_cell N rfl (by k_mem) (by assumption) q
    case q2 => intro Q q; first | exact LCgL.ld_own N (by k_mem) hC hx q | exact kcf_cell N rfl (by k_mem) (by assumption) q
    case q3 => intro Q q; first | exact LCgL.ld_own N (by k_mem) hC hx q | exact kcf_cell N rfl (by k_mem) (by assumption) q
  intro ys5 tl5 h15 sb5 hT5
  simp only [List.cons_append, List.nil_append]
  have hl5 : ys5.length ≤ 9 := len_ok (ks := []) h1 h3 hT5
  k_steps
  unfold Stop
  refine' addTups ?F ?N ?ha ?hb ?l1 ?l2 ?_
  (case F => k_asm)
  (case N => k_asm)
  (case ha => k_mem)
  (case hb => k_mem)
  (case l1 => exact hun (app_ok (app_ok (app_ok hl1 hl2) hl3) hl4) (by decide))
  (case l2 => exact hun hl5 (by decide))
  intro D5 hh5 FF5 NN5
  k_steps
  unfold Stop
  refine' tcf_src (tl := tl5) (fun k => (hi, lo, k)) rfl ?F ?N ?sp ?hm ?hi ?hz ?turn ?_
  (case F => k_asm)
  (case N => k_asm)
  (case sp => repeat' (first | exact Split.nil | refine' Split.cons ?_))
  (case hm => k_mem)
  (case hi => assumption)
  (case hz => exact fit_ok h1 h3)
  case turn =>
    intro s k t I oI C oC D m₂ ys tl h tk E' hC hx F N
    simp only [List.cons_append, List.nil_append] at N ⊢
    refine' tup3_eval F N ?q1 ?q2 ?q3 rfl rfl rfl
    case q1 => intro Q q; first | exact LCgL.ld_own N (by k_mem) hC hx q | exact kcf_cell N rfl (by k_mem) (by assumption) q
    case q2 => intro Q q; first | exact LCgL.ld_own N (by k_mem) hC hx q | exact kcf_cell N rfl (by k_mem) (by assumption) q
    case q3 => intro Q q; first | exact LCgL.ld_own N (by k_mem) hC hx q | exact kcf_cell N rfl (by k_mem) (by assumption) q
  intro ys6 tl6 h16 sb6 hT6
  simp only [List.cons_append, List.nil_append]
  have hl6 : ys6.length ≤ 9 := len_ok (ks := []) h1 h3 hT6
  k_steps
  unfold Stop
  refine' addTups ?F ?N ?ha ?hb ?l1 ?l2 ?_
  (case F => k_asm)
  (case N => k_asm)
  (case ha => k_mem)
  (case hb => k_mem)
  (case l1 => exact hun (app_ok (app_ok (app_ok (app_ok hl1 hl2) hl3) hl4) hl5) (by decide))
  (case l2 => exact hun hl6 (by decide))
  intro D6 hh6 FF6 NN6
  k_steps
  refine hret D6 tl6 (ys1 ++ ys2 ++ ys3 ++ ys4 ++ ys5 ++ ys6) 0 _ _ (by assumption) (News.sub (by assumption) ?hs) ?hT (ext_of N (by assumption) (by assumption) (by assumption) (List.forall_mem_nil _))
  case hs =>
    intro p hp
    rcases List.mem_cons.mp hp with rfl | hp
    · k_mem
    · repeat (first | exact hp | apply List.Mem.tail)
  case hT =>
    unfold wheelL
    exact TupsIn.append (TupsIn.append (TupsIn.append (TupsIn.append (TupsIn.append (hT1.mono fun p hp => sb6 _ (sb5 _ (sb4 _ (sb3 _ (sb2 _ hp))))) (hT2.mono fun p hp => sb6 _ (sb5 _ (sb4 _ (sb3 _ hp))))) (hT3.mono fun p hp => sb6 _ (sb5 _ (sb4 _ hp)))) (hT4.mono fun p hp => sb6 _ (sb5 _ hp))) (hT5.mono sb6)) hT6
end
end Mine
end
section
open PySem PySem.W PyProof.Rows PySem.Calls PySem.Spec
namespace Mine
set_option maxRecDepth 100000
section
variable {prog : Program} {w : World} {A : Around} {E : Value → Shared → Prop} {s : Shared} {Q : Value → Shared → Prop} {h₀ : Heap} {L : Addr} {m : Str → Option Value} {news : List (Addr × Obj)} {x y z : Int} {t u v : Tok} {ct : Addr}
theorem max1T (hh : A.handled = none) (F : Fr h₀ L s.heap m) (N : News h₀ L s.heap news) (hm : (ct, tupI x y z t u v) ∈ news)
    (h : ∀ h' tk q, Fr h₀ L h' m → News h₀ L h' news → Q (.int (hi3 x y z) q) { s with heap := h', toks := tk }) :
    wpAny (model prog w) A (call (.builtin "max") [.ref ct]) Q E s := by
  have hT : s.heap.IsTuple ct #[.int x t, .int y u, .int z v] := ⟨_, (N _ hm).1, rfl, 0, rfl⟩
  have hlt : ct < s.heap.objs.size := Heap.lt_size (N _ hm).1
  refine call_max_walk (wpAny_pyIter_tuple hT ?_)
  refine ⟨_, [_, ct], [_], _, _, _, _, rfl, Walks.tuple (A := A.in1) hh _ ct (Nat.ne_of_lt hlt) #[.int x t, .int y u, .int z v],
    ⟨⟨_, Heap.get?_push_size _ rfl, rfl, rfl⟩, hT.push _⟩, fun c hc => ?_, by simp, Flt.cmpOf_gt #[.int x t, .int y u, .int z v] (by intro a ha; simp at ha; rcases ha with rfl | rfl | rfl <;> exact .int _ _), fun r h' tk hP hk => ?_⟩
  · show c < (s.heap.push _).objs.size
    rw [Heap.size_push]
    rcases List.mem_cons.mp hc with rfl | hc
    · exact Nat.lt_succ_self _
    · rw [List.mem_singleton.mp hc]; exact Nat.lt_succ_of_lt hlt
  · have hold : ∀ c o, s.heap.get? c = some o → h'.get? c = some o := fun c o e => by
      refine hk c o (fun hm => ?_) (Heap.get?_push_of_some _ e)
      have := Heap.lt_size e; rw [List.mem_singleton.mp hm] at this; exact Nat.lt_irrefl _ this
    have hv : ∃ q, r = .int (hi3 x y z) q := by
      by_cases h1 : x < y
      · by_cases h2 : y < z
        · refine ⟨v, ?_⟩
          simp [argBest, Flt.ltV, h1, h2] at hP
          have e : hi3 x y z = z := by unfold hi3; omega
          rw [e]; exact hP.symm
        · refine ⟨u, ?_⟩
          simp [argBest, Flt.ltV, h1, h2] at hP
          have e : hi3 x y z = y := by unfold hi3; omega
          rw [e]; exact hP.symm
      · by_cases h2 : x < z
        · refine ⟨v, ?_⟩
          simp [argBest, Flt.ltV, h1, h2] at hP
          have e : hi3 x y z = z := by unfold hi3; omega
          rw [e]; exact hP.symm
        · refine ⟨t, ?_⟩
          simp [argBest, Flt.ltV, h1, h2] at hP
          have e : hi3 x y z = x := by unfold hi3; omega
          rw [e]; exact hP.symm
    obtain ⟨q, rfl⟩ := hv
    exact h h' tk q (F.grownK hold) (N.grown hold)
theorem min1T (hh : A.handled = none) (F : Fr h₀ L s.heap m) (N : News h₀ L s.heap news) (hm : (ct, tupI x y z t u v) ∈ news)
    (h : ∀ h' tk q, Fr h₀ L h' m → News h₀ L h' news → Q (.int (lo3 x y z) q) { s with heap := h', toks := tk }) :
    wpAny (model prog w) A (call (.builtin "min") [.ref ct]) Q E s := by
  have hT : s.heap.IsTuple ct #[.int x t, .int y u, .int z v] := ⟨_, (N _ hm).1, rfl, 0, rfl⟩
  have hlt : ct < s.heap.objs.size := Heap.lt_size (N _ hm).1
  refine call_min_walk (wpAny_pyIter_tuple hT ?_)
  refine ⟨_, [_, ct], [_], _, _, _, _, rfl, Walks.tuple (A := A.in1) hh _ ct (Nat.ne_of_lt hlt) #[.int x t, .int y u, .int z v],
    ⟨⟨_, Heap.get?_push_size _ rfl, rfl, rfl⟩, hT.push _⟩, fun c hc => ?_, by simp, Flt.cmpOf_lt #[.int x t, .int y u, .int z v] (by intro a ha; simp at ha; rcases ha with rfl | rfl | rfl <;> exact .int _ _), fun r h' tk hP hk => ?_⟩
  · show c < (s.heap.push _).objs.size
    rw [Heap.size_push]
    rcases List.mem_cons.mp hc with rfl | hc
    · exact Nat.lt_succ_self _
    · rw [List.mem_singleton.mp hc]; exact Nat.lt_succ_of_lt hlt
  · have hold : ∀ c o, s.heap.get? c = some o → h'.get? c = some o := fun c o e => by
      refine hk c o (fun hm => ?_) (Heap.get?_push_of_some _ e)
      have := Heap.lt_size e; rw [List.mem_singleton.mp hm] at this; exact Nat.lt_irrefl _ this
    have hv : ∃ q, r = .int (lo3 x y z) q := by
      by_cases h1 : y < x
      · by_cases h2 : z < y
        · refine ⟨v, ?_⟩
          simp [argBest, Flt.ltV, h1, h2] at hP
          have e : lo3 x y z = z := by unfold lo3; omega
          rw [e]; exact hP.symm
        · refine ⟨u, ?_⟩
          simp [argBest, Flt.ltV, h1, h2] at hP
          have e : lo3 x y z = y := by unfold lo3; omega
          rw [e]; exact hP.symm
      · by_cases h2 : z < x
        · refine ⟨v, ?_⟩
          simp [argBest, Flt.ltV, h1, h2] at hP
          have e : lo3 x y z = z := by unfold lo3; omega
          rw [e]; exact hP.symm
        · refine ⟨t, ?_⟩
          simp [argBest, Flt.ltV, h1, h2] at hP
          have e : lo3 x y z = x := by unfold lo3; omega
          rw [e]; exact hP.symm
    obtain ⟨q, rfl⟩ := hv
    exact h h' tk q (F.grownK hold) (N.grown hold)
/-- the truth of a list -/
theorem truthL {l : Addr} {vs : List Value} {n : Nat} {Q : Bool → Shared → Prop} (N : News h₀ L s.heap news) (hm : (l, W.listOf vs.toArray n) ∈ news) (hl : vs.length < 1000)
    (h : ∀ tk, Q (decide (0 < vs.length)) { s with toks := tk }) : wpAny (model prog w) A (truthy (.ref l)) Q E s :=
  wpAny_truthy_list (items := vs.toArray) ⟨_, (N _ hm).1, rfl, n, rfl⟩ (by simp; omega) (by
    have e : (!vs.toArray.isEmpty) = decide (0 < vs.length) := by cases vs <;> simp
    rw [e]; exact h _)
theorem lenW {a : Addr} {vs : List Value} {n : Nat} (N : News h₀ L s.heap news) (hm : (a, W.listOf vs.toArray n) ∈ news) (hl : vs.length < 1000)
    (h : ∀ t tk, Q (.int (vs.length : Int) t) { s with toks := tk }) : wpAny (model prog w) A (call (.builtin "len") [.ref a]) Q E s :=
  len_list (items := vs.toArray) ⟨_, (N _ hm).1, rfl, n, rfl⟩ (by simp; omega) (by
    have e : ((vs.toArray.size : Nat) : Int) = (vs.length : Int) := by simp
    rw [e]; exact h _ _)
theorem appendK {D : Addr} {its : List Value} {n : Nat} {e : Value} {rest : List (Addr × Obj)} (F : Fr h₀ L s.heap m) (N : News h₀ L s.heap news) (hm : (D, W.listOf its.toArray n) ∈ news) (hr : ∀ p ∈ rest, p ∈ news) (hne : ∀ p ∈ rest, p.1 ≠ D) (hl : its.length < 1000)
    (h : ∀ h', Fr h₀ L h' m → News h₀ L h' ((D, W.listOf (its ++ [e]).toArray (n + 1)) :: rest) → Q .none { s with heap := h' }) :
    wpAny (model prog w) A (call (.builtin "list.append") [.ref D, e]) Q E s :=
  append_at (hsz := by simp [sizeLine_eq]; omega) (N _ hm).1 fun h' hs ho' => h h' (F.change hs (N _ hm).2.1 (N _ hm).2.2) (by
    intro p hp
    rcases List.mem_cons.mp hp with rfl | hp
    · refine ⟨?_, (N _ hm).2⟩
      rw [ho']
      simp [W.listOf]
    · exact ⟨hs.extBut _ _ (hne p hp) (N _ (hr p hp)).1, (N _ (hr p hp)).2⟩)
theorem readsTup {h : Heap} {a : Addr} {x y z : Int} {t u v : Tok} (e : h.get? a = some (tupI x y z t u v)) : Reads h (.ref a) (.tuple [.int x, .int y, .int z]) [] :=
  Reads.tuple e rfl rfl (ReadsAll.cons (Reads.int x t) (ReadsAll.cons (Reads.int y u) (ReadsAll.cons (Reads.int z v) ReadsAll.nil)))
noncomputable def colP (c : Int × Int × Int) : PyData := .tuple [.int c.1, .int c.2.1, .int c.2.2]
theorem colP_eqv (c d : Int × Int × Int) : PyData.eqv (colP c) (colP d) = decide (c = d) := by
  obtain ⟨a, b, e⟩ := c
  obtain ⟨a', b', e'⟩ := d
  simp [colP, PyData.eqv, PyData.eqvAll, Prod.ext_iff, Bool.beq_eq_decide_eq]
theorem colP_lay (c : Int × Int × Int) : (colP c).canLay0 = true := by simp [colP, PyData.canLay0, PyData.canLayAll0]
theorem colP_depth (c : Int × Int × Int) : (colP c).depth ≤ 2 := by simp [colP, PyData.depth, PyData.depthAll]
theorem reads_tups {h : Heap} {L : Addr} {tl : List (Addr × Obj)} {vs : List Value} {cs : List (Int × Int × Int)} (N : News h₀ L h tl) (x : TupsIn tl vs cs) : ReadsAll h vs (cs.map colP) [] := by
  induction x with
  | nil => exact .nil
  | cons a _ ih =>
    obtain ⟨a, t1, t2, t3, rfl, hm⟩ := a
    exact ReadsAll.cons (readsTup (N _ hm).1) ih
theorem tups_lay (cs : List (Int × Int × Int)) : PyData.canLayAll0 (cs.map colP) = true := by
  induction cs with
  | nil => rfl
  | cons c cs ih => simp only [List.map_cons, PyData.canLayAll0, colP_lay, ih, Bool.and_self]
theorem idxTups {l : Addr} {vs : List Value} {n : Nat} {tl : List (Addr × Obj)} {cs : List (Int × Int × Int)} {j : Nat} (N : News h₀ L s.heap news) (hm : (l, W.listOf vs.toArray n) ∈ news) (hT : TupsIn tl vs cs) (hs : ∀ p ∈ tl, p ∈ news) (hc : (ct, tupI x y z t u v) ∈ news)
    (hj : cs[j]? = some (x, y, z)) (hno : ∀ i, i < j → cs[i]? ≠ some (x, y, z)) (hl : cs.length < 1000) (hu : A.units + 4 < cLine)
    (h : Q (.int (j : Int) s.toks) { s with toks := s.toks + 1 }) : wpAny (model prog w) A (call (.builtin "list.index") [.ref l, .ref ct]) Q E s := by
  have hlen := hT.length
  have hjl : j < cs.length := (List.getElem?_eq_some_iff.mp hj).1
  have rs : ReadsAll s.heap vs.toArray.toList (cs.map colP) [] := by simpa using reads_tups (fun p hp => N p (hs p hp)) hT
  have rc : Reads s.heap (.ref ct) (colP (x, y, z)) [] := readsTup (N _ hc).1
  have hmap := SeqAt.readsAll_map _ _ _ (tups_lay cs) rs
  have hat : ∀ i (hi : i < vs.toArray.size), PyData.eqv (SeqAt.readOf s.heap vs.toArray[i]) (colP (x, y, z)) = decide (cs[i]? = some (x, y, z)) := by
    intro i hi
    have hi' : i < vs.length := by simpa using hi
    have e1 : (List.map (SeqAt.readOf s.heap) vs.toArray.toList)[i]? = some (SeqAt.readOf s.heap vs.toArray[i]) := by simp [hi']
    rw [hmap] at e1
    have hic : i < cs.length := by omega
    have e2 : (List.map colP cs)[i]? = some (colP cs[i]) := by simp [hic]
    rw [e2] at e1
    rw [← Option.some.inj e1, colP_eqv]
    simp [hic]
  refine call_meets PySem.F.slot_list_index ⟨_, (N _ hm).1, rfl⟩ PySem.F.entry_list_index (PySem.F.args_list_index_2 _ _)
    (PySem.SeqAt.list_indexAt l vs.toArray n none #[] (.ref ct) (fun y9 => PyData.eqv (SeqAt.readOf s.heap y9) (colP (x, y, z))) j (by simp; omega) (by omega) ?_ ?_) ⟨(N _ hm).1, ?_, h⟩
  · rw [hat j (by simp; omega)]; simpa using hj
  · intro i hi hlt
    rw [hat i hi]; simpa using hno i hlt
  · refine SeqAt.items_eqAt rs rc (tups_lay cs) (colP_lay _) ?_
    have := Nat.min_le_right (PyData.depthAll (cs.map colP)) (colP (x, y, z)).depth
    have := colP_depth (x, y, z)
    omega
end
end Mine
end
section
open PySem PySem.W PyProof.Rows PySem.Calls PySem.Spec
namespace Mine
set_option maxRecDepth 100000
structure WheelOk (cs : List (Int × Int × Int)) (lo hi : Int) : Prop where
  pos : 0 < cs.length
  len : cs.length < 1000
  get : ∀ p : Nat, p < cs.length → ∃ c, cs[p]? = some c ∧ codeI c.1 c.2.1 c.2.2 = 100 + 100 * (p : Int).fdiv (max (hi - lo) 1) + (p : Int).fmod (max (hi - lo) 1) ∧ ((lo < c.1 ∧ c.2.1 = hi) ↔ acceptI c.1 c.2.1 c.2.2) ∧
    ∀ st, Step st → cs[(((p : Int) + st).fmod (cs.length : Int)).toNat]? = some (turnI c.1 c.2.1 c.2.2 st)
noncomputable def chkAt (lo hi : Int) (p : Nat) : Bool :=
  let c := wheelI lo hi p
  decide (lo3 c.1 c.2.1 c.2.2 = lo) && decide (hi3 c.1 c.2.1 c.2.2 = hi) && decide (placeI c.1 c.2.1 c.2.2 = p) && (decide (lo < c.1 ∧ c.2.1 = hi) == decide (acceptI c.1 c.2.1 c.2.2))
noncomputable def chkLH (l n : Nat) : Bool :=
  let lo : Int := l
  let hi : Int := l + n
  decide (wheelL lo hi = (List.range (6 * n)).map fun (p : Nat) => wheelI lo hi p) && (List.range (6 * n)).all (chkAt lo hi)
theorem chk_all : ((List.range 10).all fun l => (List.range 10).all fun n => n == 0 || decide (9 < l + n) || chkLH l n) = true := by decide +kernel
theorem chk_lh {lo hi : Int} (h1 : 0 ≤ lo) (h2 : lo < hi) (h3 : hi ≤ 9) : wheelL lo hi = ((List.range (6 * (hi - lo).toNat)).map fun (p : Nat) => wheelI lo hi p) ∧ ∀ p : Nat, p < 6 * (hi - lo).toNat → chkAt lo hi p = true := by
  have h := chk_all
  rw [List.all_eq_true] at h
  have ha := h lo.toNat (List.mem_range.mpr (by omega))
  rw [List.all_eq_true] at ha
  have hb := ha (hi - lo).toNat (List.mem_range.mpr (by omega))
  have e1 : ((hi - lo).toNat == 0) = false := by simp; omega
  have e2 : decide (9 < lo.toNat + (hi - lo).toNat) = false := by simp; omega
  rw [e1, e2, Bool.false_or, Bool.false_or] at hb
  unfold chkLH at hb
  have e3 : ((lo.toNat : Nat) : Int) = lo := by omega
  have e4 : lo + ((hi - lo).toNat : Int) = hi := by omega
  rw [e3, e4] at hb
  simp only [Bool.and_eq_true, decide_eq_true_eq, List.all_eq_true, List.mem_range] at hb
  exact hb
theorem wheel_ok {lo hi : Int} (h1 : 0 ≤ lo) (h2 : lo < hi) (h3 : hi ≤ 9) : WheelOk (wheelL lo hi) lo hi := by
  obtain ⟨hw, hc⟩ := chk_lh h1 h2 h3
  have hlen : (wheelL lo hi).length = 6 * (hi - lo).toNat := by rw [hw]; simp
  have hget : ∀ p : Nat, p < 6 * (hi - lo).toNat → (wheelL lo hi)[p]? = some (wheelI lo hi p) := fun p hp => by rw [hw]; simp [hp]
  refine ⟨by omega, by omega, fun p hp => ?_⟩
  rw [hlen] at hp
  have hq := hc p hp
  unfold chkAt at hq
  simp only [Bool.and_eq_true, decide_eq_true_eq, beq_iff_eq, decide_eq_decide] at hq
  obtain ⟨⟨⟨q1, q2⟩, q3⟩, q4⟩ := hq
  have hsz : sizeI (wheelI lo hi p).1 (wheelI lo hi p).2.1 (wheelI lo hi p).2.2 = hi - lo := by unfold sizeI; rw [q1, q2]
  refine ⟨wheelI lo hi p, hget p hp, ?_, q4, fun st hs => ?_⟩
  · unfold codeI
    rw [hsz, if_neg (by omega), q3, Int.max_eq_left (by omega)]
  · unfold turnI
    rw [hsz, if_neg (by omega), q1, q2, q3]
    have e : ((wheelL lo hi).length : Int) = 6 * (hi - lo) := by rw [hlen]; omega
    rw [e]
    have b1 := Int.fmod_nonneg_of_pos ((p : Int) + st) (b := 6 * (hi - lo)) (by omega)
    have b2 := Int.fmod_lt_of_pos ((p : Int) + st) (b := 6 * (hi - lo)) (by omega)
    generalize ((p : Int) + st).fmod (6 * (hi - lo)) = q at *
    rw [hget q.toNat (by omega)]
    rw [show ((q.toNat : Nat) : Int) = q by omega]
theorem grey_ok {x y z : Int} (h : sizeI x y z = 0) : WheelOk [(x, y, z)] (lo3 x y z) (hi3 x y z) := by
  have hs : hi3 x y z - lo3 x y z = 0 := h
  refine ⟨by simp, by simp, fun p hp => ⟨(x, y, z), ?_, ?_, ?_, fun st _ => ?_⟩⟩
  · simp at hp; subst hp; rfl
  · simp at hp; subst hp
    unfold codeI
    rw [if_pos h, hs]
    decide
  · have e : codeI x y z = 100 := by unfold codeI; rw [if_pos h]
    unfold acceptI
    rw [e]
    unfold hi3 lo3 at *
    constructor
    · rintro ⟨a, b⟩; simp only at a b; omega
    · rintro ⟨a, b⟩; omega
  · unfold turnI
    rw [if_pos h]
    simp at hp; subst hp
    simp [Int.fmod_one]
noncomputable def chkP (x y z : Nat) : Bool :=
  let lo := lo3 x y z
  let hi := hi3 x y z
  decide (lo = hi) || (decide (wheelI lo hi (placeI x y z) = ((x : Int), (y : Int), (z : Int))) && decide (placeI x y z < 6 * (hi - lo)))
theorem chkP_all : ((List.range 10).all fun x => (List.range 10).all fun y => (List.range 10).all fun z => chkP x y z) = true := by decide +kernel
theorem place_wheel {x y z : Int} (hx : Dig x) (hy : Dig y) (hz : Dig z) (h : sizeI x y z ≠ 0) : wheelI (lo3 x y z) (hi3 x y z) (placeI x y z) = (x, y, z) ∧ placeI x y z < 6 * (hi3 x y z - lo3 x y z) := by
  have q := chkP_all
  unfold Dig at hx hy hz
  rw [List.all_eq_true] at q
  have q := q x.toNat (List.mem_range.mpr (by omega))
  rw [List.all_eq_true] at q
  have q := q y.toNat (List.mem_range.mpr (by omega))
  rw [List.all_eq_true] at q
  have q := q z.toNat (List.mem_range.mpr (by omega))
  unfold chkP at q
  rw [show ((x.toNat : Nat) : Int) = x by omega, show ((y.toNat : Nat) : Int) = y by omega, show ((z.toNat : Nat) : Int) = z by omega] at q
  simp only [Bool.or_eq_true, Bool.and_eq_true, decide_eq_true_eq] at q
  rcases q with q | q
  · exact absurd (show sizeI x y z = 0 by unfold sizeI; omega) h
  · exact q
theorem place_at {x y z : Int} (hx : Dig x) (hy : Dig y) (hz : Dig z) (h : sizeI x y z ≠ 0) :
    (wheelL (lo3 x y z) (hi3 x y z))[(placeI x y z).toNat]? = some (x, y, z) ∧ ∀ i, i < (placeI x y z).toNat → (wheelL (lo3 x y z) (hi3 x y z))[i]? ≠ some (x, y, z) := by
  have hb := place_bounds hx hy hz
  have hsb := size_bounds hx hy hz
  obtain ⟨hw1, hw2⟩ := place_wheel hx hy hz h
  have h1 : 0 ≤ lo3 x y z := (hl9 hx hy hz).2
  have h3 : hi3 x y z ≤ 9 := (hl9 hx hy hz).1
  have h2 : lo3 x y z < hi3 x y z := by unfold sizeI at hsb h; omega
  obtain ⟨hw, hc⟩ := chk_lh h1 h2 h3
  have hget : ∀ p : Nat, p < 6 * (hi3 x y z - lo3 x y z).toNat → (wheelL (lo3 x y z) (hi3 x y z))[p]? = some (wheelI (lo3 x y z) (hi3 x y z) p) := fun p hp => by rw [hw, List.getElem?_map, List.getElem?_range hp]; rfl
  refine ⟨?_, fun i hi e => ?_⟩
  · rw [hget _ (by omega), show (((placeI x y z).toNat : Nat) : Int) = placeI x y z by omega, hw1]
  · have hi' : i < 6 * (hi3 x y z - lo3 x y z).toNat := by omega
    rw [hget i hi'] at e
    have e' := Option.some.inj e
    have q := hc i hi'
    unfold chkAt at q
    simp only [Bool.and_eq_true, decide_eq_true_eq] at q
    have q3 := q.1.2
    rw [e'] at q3
    simp only at q3
    omega
end Mine
end
section
open PySem PySem.W PyProof.Rows PySem.Calls PySem.Spec
namespace Mine
set_option maxRecDepth 100000
/-! what is told, in a ledger -/
noncomputable def EntIn (tl : List (Addr × Obj)) (st : Int) (v : Value) (c : Int × Int × Int) : Prop :=
  ∃ a ct t1 t2 t3 t4 u1 u2 u3, v = .ref a ∧ (a, entObj st (codeI c.1 c.2.1 c.2.2) ct t1 t2 t3 t4) ∈ tl ∧ (ct, tupI c.1 c.2.1 c.2.2 u1 u2 u3) ∈ tl
inductive ToldIn (tl : List (Addr × Obj)) (st : Int) : List Value → List (Int × Int × Int) → Prop
  | nil : ToldIn tl st [] []
  | cons {v vs c cs} : EntIn tl st v c → ToldIn tl st vs cs → ToldIn tl st (v :: vs) (c :: cs)
theorem ToldIn.mono {tl tl' : List (Addr × Obj)} {st : Int} {vs : List Value} {cs : List (Int × Int × Int)} (x : ToldIn tl st vs cs) (h : ∀ p ∈ tl, p ∈ tl') : ToldIn tl' st vs cs := by
  induction x with
  | nil => exact .nil
  | cons a _ ih => obtain ⟨a, ct, t1, t2, t3, t4, u1, u2, u3, e, m1, m2⟩ := a; exact .cons ⟨a, ct, t1, t2, t3, t4, u1, u2, u3, e, h _ m1, h _ m2⟩ ih
theorem ToldIn.snoc {tl : List (Addr × Obj)} {st : Int} {vs : List Value} {cs : List (Int × Int × Int)} {v : Value} {c : Int × Int × Int} (x : ToldIn tl st vs cs) (e : EntIn tl st v c) : ToldIn tl st (vs ++ [v]) (cs ++ [c]) := by
  induction x with
  | nil => exact .cons e .nil
  | cons a _ ih => exact .cons a ih
theorem ToldIn.length {tl : List (Addr × Obj)} {st : Int} {vs : List Value} {cs : List (Int × Int × Int)} (x : ToldIn tl st vs cs) : vs.length = cs.length := by
  induction x with
  | nil => rfl
  | cons _ _ ih => simp [ih]
theorem ToldIn.at {h₀ h : Heap} {L : Addr} {tl : List (Addr × Obj)} {st : Int} {vs : List Value} {cs : List (Int × Int × Int)} (N : News h₀ L h tl) (x : ToldIn tl st vs cs) : ToldAt h st vs cs := by
  induction x with
  | nil => exact .nil
  | cons a _ ih => obtain ⟨a, ct, t1, t2, t3, t4, u1, u2, u3, e, m1, m2⟩ := a; exact .cons ⟨a, ct, t1, t2, t3, t4, u1, u2, u3, e, (N _ m1).1, (N _ m2).1⟩ ih
section
variable {prog : Program} {w : World} {A : Around} {E : Value → Shared → Prop} {s : Shared} {env : Env} {h₀ : Heap} {x : Str} {body : List Stmt} {Q : Flow → Shared → Prop}
theorem UnrPost.mono {L I : Addr} {s₁ s₂ : Shared} {it : Obj} {r r' : (Str → Option Value) → List (Addr × Obj) → Prop} {f : Flow} (h : UnrPost h₀ L s₁ I it r Q f s₂) (hr : ∀ m n, r m n → r' m n) : UnrPost h₀ L s₁ I it r' Q f s₂ := by
  unfold UnrPost at *
  have e : ∀ {s₂}, UnrEnd h₀ L s₁ I it r s₂ → UnrEnd h₀ L s₁ I it r' s₂ := fun ⟨h', tk, m', news', e, F, N, o, q⟩ => ⟨h', tk, m', news', e, F, N, o, hr _ _ q⟩
  cases f <;> first | exact h | exact e h
/-- a loop over a written range, by what holds between the turns -/
theorem rest_ind {I : Addr} {a : Int} {n : Nat} {m : Str → Option Value} {news : List (Addr × Obj)} (Inv : Nat → Nat → (Str → Option Value) → List (Addr × Obj) → Prop)
    (h0 : Inv n 0 m news) (hz : ∀ i m news, Inv 0 i m news → ∀ h tk, Fr h₀ env.locals h m → News h₀ env.locals h news → Q .next { s with heap := h, toks := tk })
    (hs : ∀ k i m news, Inv (k + 1) i m news → ∀ t h tk, Fr h₀ env.locals h (fun y => if y = x then some (.int (a + (i : Int)) t) else m y) →
      News h₀ env.locals h ((I, itR (a + ((i + 1 : Nat) : Int)) ((n : Int) - ((i + 1 : Nat) : Int))) :: news) →
      wpAny (model prog w) A (execs body env) (UnrPost h₀ env.locals { s with heap := h, toks := tk } I (itR (a + ((i + 1 : Nat) : Int)) ((n : Int) - ((i + 1 : Nat) : Int))) (Inv k (i + 1)) Q) E { s with heap := h, toks := tk }) :
    RangeRest prog w A E h₀ env x body Q s I a n n 0 m news := by
  have key : ∀ k i m news, Inv k i m news → RangeRest prog w A E h₀ env x body Q s I a n k i m news := by
    intro k
    induction k with
    | zero => exact fun i m news hi => RangeRest.zero (hz i m news hi)
    | succ k ih =>
      intro i m news hi
      refine RangeRest.succ fun t h tk F N => ?_
      exact wpAny_mono (hs k i m news hi t h tk F N) (fun f s₂ p => UnrPost.mono p (ih (i + 1))) fun _ _ e => e
  exact key n 0 m news h0
/-- `wheel = _law_wheel(low, high) or [colour]` -/
noncomputable def WheelP (g : Heap) (L : Addr) (m : Str → Option Value) (s : Shared) (ct : Addr) (x y z : Int) (tx ty tz : Tok) (v : Value) (s' : Shared) : Prop :=
  ∃ (D : Addr) (ys : List Value) (n : Nat) (tl : List (Addr × Obj)) (cs : List (Int × Int × Int)) (h' : Heap) (tk j : Nat), v = .ref D ∧ s' = { s with heap := h', toks := tk } ∧ Fr g L h' m ∧ News g L h' ((D, W.listOf (List.toArray ys) n) :: (ct, tupI x y z tx ty tz) :: tl) ∧ TupsIn ((ct, tupI x y z tx ty tz) :: tl) ys cs ∧ WheelOk cs (lo3 x y z) (hi3 x y z) ∧
    cs[j]? = some (x, y, z) ∧ ∀ i : Nat, i < j → cs[i]? ≠ some (x, y, z)
theorem or_wheel {t : Sem Value} {Q : Value → Shared → Prop} {g : Heap} {L : Addr} {m : Str → Option Value} {news : List (Addr × Obj)} {ct : Addr} {a b c : Int} {ta tb tc : Tok} (F : Fr g L s.heap m) (N : News g L s.heap news) (hm : (ct, tupI a b c ta tb tc) ∈ news)
    (h2 : News g L s.heap [(ct, tupI a b c ta tb tc)] → wpAny (model prog w) A t (WheelP g L m s ct a b c ta tb tc) E s)
    (h1 : ∀ D ys n tl cs h' tk j, Fr g L h' m → News g L h' ((D, W.listOf (List.toArray ys) n) :: (ct, tupI a b c ta tb tc) :: tl) → TupsIn ((ct, tupI a b c ta tb tc) :: tl) ys cs → WheelOk cs (lo3 a b c) (hi3 a b c) → cs[j]? = some (a, b, c) → (∀ i : Nat, i < j → cs[i]? ≠ some (a, b, c)) → Q (.ref D) { s with heap := h', toks := tk }) :
    wpAny (model prog w) A t Q E s :=
  wpAny_mono (h2 (News.sub N fun p hp => by rw [List.mem_singleton.mp hp]; exact hm)) (fun v s' h => by
    obtain ⟨D, ys, n, tl, cs, h', tk, j, e1, e2, F', N', q1, q2, q3, q4⟩ := h
    subst e1 e2
    exact h1 D ys n tl cs h' tk j F' N' q1 q2 q3 q4) fun _ _ e => e
end
theorem WheelOk.at {cs : List (Int × Int × Int)} {lo hi P : Int} (x : WheelOk cs lo hi) (h0 : 0 ≤ P) (h1 : P < cs.length) :
    ∃ c, cs[P.toNat]? = some c ∧ 100 + 100 * P.fdiv (max (hi - lo) 1) + P.fmod (max (hi - lo) 1) = codeI c.1 c.2.1 c.2.2 ∧ ((lo < c.1 ∧ c.2.1 = hi) ↔ acceptI c.1 c.2.1 c.2.2) ∧
    ∀ st, Step st → cs[((P + st).fmod (cs.length : Int)).toNat]? = some (turnI c.1 c.2.1 c.2.2 st) := by
  obtain ⟨c, e1, e2, e3, e4⟩ := x.get P.toNat (by omega)
  have e : ((P.toNat : Nat) : Int) = P := by omega
  rw [e] at e2 e4
  exact ⟨c, e1, e2.symm, e3, e4⟩
theorem wheel_nil {x y z : Int} (h : sizeI x y z = 0) : wheelL (lo3 x y z) (hi3 x y z) = [] := by
  unfold wheelL upsI downsI
  have e : (hi3 x y z - lo3 x y z - 0).toNat = 0 := by unfold sizeI at h; omega
  rw [e]
  rfl
theorem upd6 {u : Str → Option Value} {k1 k2 k3 k4 k5 k6 : Str} {v1 v2 v3 v4 v5 v6 : Value} (h1 : u k1 = some v1) (h2 : u k2 = some v2) (h3 : u k3 = some v3) (h4 : u k4 = some v4) (h5 : u k5 = some v5) (h6 : u k6 = some v6) :
    u = fun y => if y = k1 then some v1 else if y = k2 then some v2 else if y = k3 then some v3 else if y = k4 then some v4 else if y = k5 then some v5 else if y = k6 then some v6 else u y := by
  funext y
  by_cases q1 : y = k1
  · subst q1; simp [h1]
  by_cases q2 : y = k2
  · subst q2; simp [h2, q1]
  by_cases q3 : y = k3
  · subst q3; simp [h3, q1, q2]
  by_cases q4 : y = k4
  · subst q4; simp [h4, q1, q2, q3]
  by_cases q5 : y = k5
  · subst q5; simp [h5, q1, q2, q3, q4]
  by_cases q6 : y = k6
  · subst q6; simp [h6, q1, q2, q3, q4, q5]
  simp [q1, q2, q3, q4, q5, q6]
theorem sub_list {prog : Program} {w : World} {A : Around} {E : Value → Shared → Prop} {s : Shared} {h₀ : Heap} {L a : Addr} {news : List (Addr × Obj)} {value slice : Expr} {l : List Value} {n : Nat} {k : Int} {u : Tok} {v : Value} {Q : Value → Shared → Prop} (N : News h₀ L s.heap news) (hm : (a, W.listOf l.toArray n) ∈ news)
    (h0 : 0 ≤ k) (hhi : k < 2 ^ 63) (hx : l[k.toNat]? = some v) (h : Q v s)
    (hs : subscripted slice false (.ref a) (.int k u) = operate [.ref a, .int k u] (getItem (.ref a) (.int k u)) := by with_unfolding_all rfl) :
    wpAny (model prog w) A (subscriptTail value slice (.ref a) (.int k u)) Q E s :=
  have hl : s.heap.IsList a l.toArray := ⟨_, (N _ hm).1, rfl, n, rfl⟩
  tail_any hl.typeIs slot_list_getitem.lookup (wpAny_getItem_list hl h0 hhi (by simpa using hx) h) hs
theorem tok_any {M : Model} {A : Around} {α : Type} {t : Sem α} {Q : α → Shared → Prop} {E : Value → Shared → Prop} {s : Shared} (h : ∀ tk, wpAny M A t Q E { s with toks := tk }) : wpAny M A t Q E s := h s.toks
theorem append_ent {prog : Program} {w : World} {A : Around} {E : Value → Shared → Prop} {s : Shared} {Q : Value → Shared → Prop} {h₀ : Heap} {L : Addr} {m : Str → Option Value} {all tl : List (Addr × Obj)} {tT I D1 D3 : Addr} {its : List Value} {nn : Nat} {it oD o3 : Obj}
    (F : Fr h₀ L s.heap m) (N : News h₀ L s.heap all) (hm : (tT, W.listOf its.toArray nn) ∈ all) (hI : (I, it) ∈ all) (hD : (D1, oD) ∈ all) (h3 : (D3, o3) ∈ all) (ht : ∀ p ∈ tl, p ∈ all) (hl : its.length < 1000)
    (n1 : tT ≠ I) (n2 : ∀ q ∈ (D1, oD) :: tl, q.1 ≠ tT) (n3 : D3 ≠ tT)
    (h : ∀ h', Fr h₀ L h' m → News h₀ L h' ((tT, W.listOf (its ++ [Value.ref D3]).toArray (nn + 1)) :: (I, it) :: (D1, oD) :: (D3, o3) :: tl) → Q .none { s with heap := h' }) :
    wpAny (model prog w) A (call (.builtin "list.append") [.ref tT, .ref D3]) Q E s :=
  appendK F N hm (List.forall_mem_cons.mpr ⟨hI, List.forall_mem_cons.mpr ⟨hD, List.forall_mem_cons.mpr ⟨h3, ht⟩⟩⟩)
    (List.forall_mem_cons.mpr ⟨Ne.symm n1, List.forall_mem_cons.mpr ⟨n2 _ (.head _), List.forall_mem_cons.mpr ⟨n3, fun p hp => n2 p (.tail _ hp)⟩⟩⟩) hl h
theorem sub3 {a b c : Addr × Obj} {all : List (Addr × Obj)} (h1 : a ∈ all) (h2 : b ∈ all) (h3 : c ∈ all) : ∀ p ∈ [a, b, c], p ∈ all :=
  List.forall_mem_cons.mpr ⟨h1, List.forall_mem_cons.mpr ⟨h2, List.forall_mem_cons.mpr ⟨h3, List.forall_mem_nil _⟩⟩⟩
/-- what holds between the turns -/
noncomputable def MInv (st : Int) (R : List (Int × Int × Int) × (Int × Int × Int)) (lo hi : Int) (cs : List (Int × Int × Int)) (ys : List Value) (n : Nat) (wh I : Addr) (kp : Addr × Obj) (k i : Nat) (u : Str → Option Value) (news : List (Addr × Obj)) : Prop :=
  ∃ tT P tp told its nn tl t1 t2 t3, news = (tT, W.listOf (List.toArray its) nn) :: (wh, W.listOf (List.toArray ys) n) :: tl ∧ i + k = 12 ∧ told.length = i ∧ 0 ≤ P ∧ P < (cs.length : Int) ∧ TupsIn tl ys cs ∧ ToldIn tl st its told ∧
    (∀ q ∈ (wh, W.listOf (List.toArray ys) n) :: tl, q.1 ≠ I) ∧ (∀ q ∈ (wh, W.listOf (List.toArray ys) n) :: tl, q.1 ≠ tT) ∧ tT ≠ I ∧ kp ∈ tl ∧ u (Str.ofString "place") = some (.int P tp) ∧ u (Str.ofString "told") = some (.ref tT) ∧ u (Str.ofString "wheel") = some (.ref wh) ∧
    u (Str.ofString "low") = some (.int lo t1) ∧ u (Str.ofString "high") = some (.int hi t2) ∧ u (Str.ofString "step") = some (.int st t3) ∧
    (∀ j, k = j + 1 → ∀ c, cs[P.toNat]? = some c → runI st j c.1 c.2.1 c.2.2 told = R) ∧
    (k = 0 → ∃ c aH tc u1 u2 u3, (told, c) = R ∧ u (Str.ofString "code") = some (.int (codeI c.1 c.2.1 c.2.2) tc) ∧ u (Str.ofString "here") = some (.ref aH) ∧ (aH, tupI c.1 c.2.1 c.2.2 u1 u2 u3) ∈ tl)
theorem runI_in {st : Int} {k : Nat} {c : Int × Int × Int} {told : List (Int × Int × Int)} (h : acceptI c.1 c.2.1 c.2.2) : runI st k c.1 c.2.1 c.2.2 told = (told, c) := by
  cases k <;> (rw [runI]; rw [if_pos h])
theorem runI_out {st : Int} {k : Nat} {c : Int × Int × Int} {told : List (Int × Int × Int)} (h : ¬ acceptI c.1 c.2.1 c.2.2) : runI st (k + 1) c.1 c.2.1 c.2.2 told = runI st k (turnI c.1 c.2.1 c.2.2 st).1 (turnI c.1 c.2.1 c.2.2 st).2.1 (turnI c.1 c.2.1 c.2.2 st).2.2 (told ++ [c]) := by
  rw [runI]; rw [if_neg h]
theorem runI_last {st : Int} {c : Int × Int × Int} {told : List (Int × Int × Int)} (h : ¬ acceptI c.1 c.2.1 c.2.2) : runI st 0 c.1 c.2.1 c.2.2 told = (told ++ [c], c) := by
  rw [runI]; rw [if_neg h]
theorem turn_end {h₀ h' : Heap} {L : Addr} {m' : Str → Option Value} {st lo hi P' cd : Int} {R : List (Int × Int × Int) × (Int × Int × Int)} {cs told : List (Int × Int × Int)} {ys its : List Value} {n1 nn' k i tk : Nat} {D1 D3 I tT aH : Addr} {kp : Addr × Obj} {it : Obj} {tl : List (Addr × Obj)} {P : Int} {c : Int × Int × Int}
    {a1 a2 a3 a4 t1 t2 t3 tp tc w1 w2 w3 : Tok} {s₁ : Shared} (F : Fr h₀ L h' m')
    (N : News h₀ L h' ((tT, W.listOf (its ++ [Value.ref D3]).toArray nn') :: (I, it) :: (D1, W.listOf ys.toArray n1) :: (D3, entObj st (codeI c.1 c.2.1 c.2.2) aH a1 a2 a3 a4) :: tl))
    (hTI : tT ≠ I) (hnI : ∀ q ∈ (D1, W.listOf (List.toArray ys) n1) :: tl, q.1 ≠ I) (hnT : ∀ q ∈ (D1, W.listOf (List.toArray ys) n1) :: tl, q.1 ≠ tT) (n3 : D3 ≠ tT) (n4 : D3 ≠ I) (hkp : kp ∈ tl)
    (hik : i + (k + 1) = 12) (hil : told.length = i) (hTs : TupsIn tl ys cs) (hTl : ToldIn tl st its told) (hmH : (aH, tupI c.1 c.2.1 c.2.2 w1 w2 w3) ∈ tl) (hpos : 0 < cs.length) (hs : Step st)
    (hc1 : cs[P.toNat]? = some c) (hc4 : ∀ st, Step st → cs[((P + st).fmod (cs.length : Int)).toNat]? = some (turnI c.1 c.2.1 c.2.2 st)) (hrun : ∀ j, k + 1 = j + 1 → ∀ c, cs[P.toNat]? = some c → runI st j c.1 c.2.1 c.2.2 told = R)
    (hacc : ¬ acceptI c.1 c.2.1 c.2.2) (hP : P' = (P + st).fmod (ys.length : Int)) (hcd : cd = codeI c.1 c.2.1 c.2.2)
    (e1 : m' (Str.ofString "place") = some (.int P' tp)) (e2 : m' (Str.ofString "told") = some (.ref tT)) (e3 : m' (Str.ofString "wheel") = some (.ref D1)) (e4 : m' (Str.ofString "low") = some (.int lo t1)) (e5 : m' (Str.ofString "high") = some (.int hi t2)) (e6 : m' (Str.ofString "step") = some (.int st t3))
    (e7 : m' (Str.ofString "code") = some (.int cd tc)) (e8 : m' (Str.ofString "here") = some (.ref aH)) :
    UnrEnd h₀ L s₁ I it (MInv st R lo hi cs ys n1 D1 I kp k (i + 1)) { s₁ with heap := h', toks := tk } := by
  have hly := hTs.length
  have hq := hrun k rfl c hc1
  have hPn : 0 ≤ P' ∧ P' < (cs.length : Int) := by
    rw [hP, hly]
    exact ⟨Int.fmod_nonneg_of_pos _ (by omega), Int.fmod_lt_of_pos _ (by omega)⟩
  subst hcd
  refine UnrEnd.intro F N ((tT, W.listOf (its ++ [Value.ref D3]).toArray nn') :: (D1, W.listOf ys.toArray n1) :: (D3, entObj st (codeI c.1 c.2.1 c.2.2) aH a1 a2 a3 a4) :: tl) ?_ ?_ ?_
  · intro p hp
    simp only [List.mem_cons] at hp ⊢
    rcases hp with hp | hp | hp | hp | hp
    · exact .inr (.inl hp)
    · exact .inl hp
    · exact .inr (.inr (.inl hp))
    · exact .inr (.inr (.inr (.inl hp)))
    · exact .inr (.inr (.inr (.inr hp)))
  · exact List.forall_mem_cons.mpr ⟨hTI, List.forall_mem_cons.mpr ⟨hnI _ (.head _), List.forall_mem_cons.mpr ⟨n4, fun p hp => hnI p (.tail _ hp)⟩⟩⟩
  · refine ⟨tT, P', tp, told ++ [c], its ++ [Value.ref D3], nn', (D3, entObj st (codeI c.1 c.2.1 c.2.2) aH a1 a2 a3 a4) :: tl, t1, t2, t3, rfl, by omega, by simp [hil], hPn.1, hPn.2, hTs.mono fun p hp => .tail _ hp, ?_, ?_, ?_, hTI, .tail _ hkp, e1, e2, e3, e4, e5, e6, ?_, ?_⟩
    · exact ToldIn.snoc (hTl.mono fun p hp => .tail _ hp) ⟨D3, aH, a1, a2, a3, a4, w1, w2, w3, rfl, .head _, .tail _ hmH⟩
    · exact List.forall_mem_cons.mpr ⟨hnI _ (.head _), List.forall_mem_cons.mpr ⟨n4, fun p hp => hnI p (.tail _ hp)⟩⟩
    · exact List.forall_mem_cons.mpr ⟨hnT _ (.head _), List.forall_mem_cons.mpr ⟨n3, fun p hp => hnT p (.tail _ hp)⟩⟩
    · intro j hj c' hc'
      subst hj
      have h4 := hc4 st hs
      rw [hP, hly, h4] at hc'
      cases hc'
      rw [runI_out hacc] at hq
      exact hq
    · intro hk
      subst hk
      rw [runI_last hacc] at hq
      exact ⟨c, aH, tc, w1, w2, w3, hq, e7, e8, .tail _ hmH⟩
end Mine
end
section
open PySem PySem.W PyProof.Rows PySem.Calls PySem.Spec
namespace Mine
theorem calm5 : True := by
  w_top off
  trivial
local macro_rules | `(tactic| walk_at $s:str) => `(tactic| k_extra $s)
set_option maxRecDepth 100000
set_option maxHeartbeats 8000000
local macro_rules | `(tactic| k_room) => `(tactic| ktr_room)
local macro_rules | `(tactic| k_units) => `(tactic| ktr_units)
section
variable {w : World} {p : Program} {loose : List Str} {mean : ExcName → Option Value} {mg mb : Str → Option Value}
    {dp un : Nat} {gd : Option (List Code)} {cn : Str} {cs : Scope} {a : Addr} {ccd : Value} {cl : List (Str × Addr)} {outer : List Env} {A₀ : Around} {base h₀ : Heap} {L : Addr} {m : Str → Option Value} {s : Shared} {Q E : Value → Shared → Prop}
    {x y z st : Int} {tx ty tz ts : Tok} {ct : Addr}
theorem meant_call
    (B : Below A₀ base outer h₀) (F : Fr h₀ L s.heap m) (X : (hd.heap_39 w.params).In h₀) (N : News h₀ L s.heap [(ct, tupI x y z tx ty tz)]) (T : Top p loose mean mg mb h₀) (hk : cs.kind = .function)
    (hx : Dig x) (hy : Dig y) (hz : Dig z) (hs : Step st)
    (hd : dp + 100 < recursionLimit) (hu : un + 600 < cLine)
    (hret : RunRet Q h₀ L m s st x y z [] []) :
    wpAny (model Challenge.rw_mq0127_01.row.prog w) (ktrTop dp un gd cn cs L a ccd cl outer) (call (.ref 108) [.ref ct, .int st ts]) Q E s := by
  k_with_none
  k_with "call builtin:min" => ((with_reducible show wpAny _ _ (call _ [Value.ref _]) _ _ _); refine min1T rfl (by k_asm) (by k_asm) (by k_mem) ?_; intro h_7 tk_7 q_7 F_7 N_7; (try k_sweep))
  k_with "call builtin:max" => ((with_reducible show wpAny _ _ (call _ [Value.ref _]) _ _ _); refine max1T rfl (by k_asm) (by k_asm) (by k_mem) ?_; intro h_7 tk_7 q_7 F_7 N_7; (try k_sweep))
  k_with "call ref" => ((with_reducible show wpAny _ _ (call (Value.ref 101) _) _ _ _); refine stop ?_)
  k_with "eval BoolOp" => ((with_reducible show wpAny _ _ (eval (Expr.BoolOp .Or _ _) _) _ _ _); refine stop ?_)
  k_with "call builtin:list.index" => (refine stop ?_)
  k_with "pyIter ref" => (refine stop ?_)
  k_with "call builtin:max" => ((with_reducible show wpAny _ _ (call _ [Value.int _ _, Value.int _ _]) _ _ _); refine max2K rfl (by k_asm) (by k_asm) ?_; intro h_7 tk_7 q_7 F_7 N_7; (try k_sweep))
  k_with "call builtin:divmod" => (refine divmodK (by k_asm) (by k_asm) (by omega) (by omega) ?_; intro D_7 h_7 tk_7 t_7 u_7 F_7 N_7 l1; (try k_lt l1); (try k_sweep))
  k_with "subscriptTail Name Name ref int" => ((with_reducible show wpAny _ _ (subscriptTail _ _ _ (Value.int _ _)) _ _ _); k_dflt (refine sub_list (by k_asm) (by k_mem) (by assumption) (by omega) (by assumption) ?_ (by with_unfolding_all rfl)))
  k_with "call builtin:list.append" => (refine stop ?_)
  k_with "call builtin:len" => (refine stop ?_)
  k_with "UnrEnd" => (refine stop ?_)
  k_with "isTrue BoolOp" => ((fail_if_success (with_reducible show wpAny _ _ _ (TestP _ _) _ _)); refine stop ?_)
  revert X; k_fill; intro X
  refine wpAny_call ?_
  k_dflt (refine' defE ?k1 ?k2 ?k3 ?k4 ?k5 ?kA ?kF ?kK ?k6 ?k7 ?k8 ?k9 ?kB ?_ ?c2 ?c3 ?c4 ?c5; (case kA => exact rfl); (case kF => exact rfl); (case kK => first | exact rfl | assumption); (case k1 => k_asm); (case k2 => k_asm); (case k3 => k_asm); (case k4 => k_asm); (case k5 => k_asm); (case k6 => k_is); (case k7 => k_is); (case k8 => ktr_room); (case k9 => exact BindsTo.of_eq rfl); (case c5 => decide); (case kB => exact locs rfl); (case c2 => exact rfl); (case c3 => exact rfl); (case c4 => exact rfl); k_whole; intro g_8 L_8 h_8 tk_8 hg_8 FG_8 F_8 N_8 B_8 X_8 T_8 l1_8 lz_8; (try k_lt l1_8); (replace lz_8 := leN lz_8); (try dsimp only); (try k_lift B_8); (try k_fold))
  k_steps
  unfold Stop
  refine' or_wheel ?F ?N ?hm ?h2 ?_
  (case F => k_asm)
  (case N => k_asm)
  (case hm => k_mem)
  case h2 =>
    intro N9
    refine BoolOp_or ?_
    k_steps
    unfold Stop
    refine' wheel_call ?B ?F ?X ?T ?hk ?h1 ?h2 ?h3 ?hd ?hu ?_
    (case B => k_asm)
    (case F => k_asm)
    (case X => k_asm)
    (case T => k_asm)
    (case hk => exact rfl)
    (case h1 => exact (hl9 hx hy hz).2)
    (case h2 => exact lo_hi)
    (case h3 => exact (hl9 hx hy hz).1)
    (case hd => ktr_room)
    (case hu => ktr_units)
    intro D1 tl1 ys1 n1 h1' tk1 F1' NW1 hT1 ext1
    have N2 := News.app (News.ext0 N9 ext1) NW1
    simp only [List.cons_append, List.nil_append] at N2
    clear NW1
    by_cases hg : sizeI x y z = 0
    · have hw : wheelL (lo3 x y z) (hi3 x y z) = [] := wheel_nil hg
      rw [hw] at hT1
      have hl1 : ys1.length = 0 := hT1.length
      have e1 : ys1 = [] := List.length_eq_zero_iff.mp hl1
      subst e1
      refine truthL (by k_asm) (by k_mem) (by simp) fun tk2 => ?_
      simp only [List.length_nil, Nat.lt_irrefl, decide_false, Bool.false_eq_true, if_false]
      refine BoolOp_one ?_
      k_steps
      refine ⟨_, [.ref ct], 0, tl1, [(x, y, z)], _, _, 0, rfl, rfl, by k_asm, News.sub (by k_asm) ?_, .cons ⟨ct, tx, ty, tz, rfl, .head _⟩ .nil, grey_ok hg, rfl, fun i hi => absurd hi (Nat.not_lt_zero i)⟩
      intro p hp
      rcases List.mem_cons.mp hp with rfl | hp
      · k_mem
      · rcases List.mem_cons.mp hp with rfl | hp
        · k_mem
        · repeat (first | exact hp | apply List.Mem.tail)
    · obtain ⟨hw1, hw2⟩ := place_at hx hy hz hg
      have hsb := size_bounds hx hy hz
      have hok := wheel_ok (lo := lo3 x y z) (hi := hi3 x y z) (hl9 hx hy hz).2 (lt_of_size hg) (hl9 hx hy hz).1
      have hl1 := hT1.length
      have hl2 := hok.len
      have hl3 := hok.pos
      refine truthL (by k_asm) (by k_mem) (by omega) fun tk2 => ?_
      have e1 : decide (0 < ys1.length) = true := decide_eq_true (by omega)
      simp only [e1, if_true]
      refine ⟨D1, ys1, n1, tl1, _, h1', tk2, _, rfl, rfl, by k_asm, News.sub (by k_asm) ?_, hT1.mono fun p hp => .tail _ hp, hok, hw1, hw2⟩
      intro p hp
      rcases List.mem_cons.mp hp with rfl | hp
      · k_mem
      · rcases List.mem_cons.mp hp with rfl | hp
        · k_mem
        · repeat (first | exact hp | apply List.Mem.tail)
  intro D1 ys1 n1 tl1 cs1 h1' tk1 j1 F1' N1' hT1 hok hj1 hj2
  k_steps
  unfold Stop
  have hl0 := hok.len
  refine idxTups (by k_asm) (by k_mem) hT1 (by intro p hp; repeat (first | exact hp | apply List.Mem.tail)) (by k_mem) hj1 hj2 hl0 (by ktr_units) ?_
  k_steps
  unfold Stop
  have hb1 : 0 ≤ lo3 x y z := (hl9 hx hy hz).2
  have hb2 : lo3 x y z ≤ hi3 x y z := lo_hi
  have hb3 : hi3 x y z ≤ 9 := (hl9 hx hy hz).1
  have hj0 : j1 < cs1.length := (List.getElem?_eq_some_iff.mp hj1).1
  refine iter_rangeUnr (n := 12) (by rfl) (by assumption) (by decide) (by decide) (by k_asm) (by k_asm) ?_
  intro I hI
  refine rest_ind (MInv st (runI st 11 x y z []) (lo3 x y z) (hi3 x y z) cs1 ys1 n1 D1 I (ct, tupI x y z tx ty tz)) ?init ?fin ?turn
  case init =>
    refine ⟨_, (j1 : Int), _, [], [], 0, (ct, tupI x y z tx ty tz) :: tl1, _, _, _, rfl, rfl, rfl, by omega, by omega, hT1, .nil, ?_, ?_, ?_, .head _, rfl, rfl, rfl, rfl, rfl, rfl, ?_, fun q => nomatch q⟩
    · exact fun q hq => Nat.ne_of_lt (hI q (.tail _ hq))
    · exact fun q hq => allNe (l := (D1, W.listOf (List.toArray ys1) n1) :: (ct, tupI x y z tx ty tz) :: tl1) (by assumption) q hq
    · exact Nat.ne_of_lt (hI _ (.head _))
    · intro j hj c hc
      have e : j = 11 := by omega
      subst e
      have e2 : ((j1 : Int)).toNat = j1 := by omega
      rw [e2, hj1] at hc
      cases hc
      rfl
  case fin =>
    rintro i u news ⟨tT, P, tp, told, its, nn, tl, t1, t2, t3, rfl, hik, hil, hP0, hP1, hTs, hTl, hnI, hnT, hTI, hkp, e1, e2, e3, e4, e5, e6, _, hfin⟩ h tk F8 N8
    obtain ⟨c, aH, tc, w1, w2, w3, hR, g1, g2, hmH⟩ := hfin rfl
    rw [upd6 e2 g1 g2 e4 e5 e6] at F8
    dsimp only [envOf] at F8 N8
    k_steps
    unfold RunRet at hret
    rw [← hR] at hret
    (rename News h₀ L _ _ => N6)
    refine hret _ tT aH its nn _ w1 w2 w3 _ _ (by assumption) (News.sub N6 (sub3 (by k_mem) (by k_mem) (by repeat (first | exact hmH | apply List.Mem.tail)))) (ext_of N (by assumption) (by assumption) (by assumption) ?_) (hTl.at (News.sub (n2 := tl) N6 ?_))
    · refine List.forall_mem_cons.mpr ⟨.inr ?_, List.forall_mem_nil _⟩
      repeat (first | exact hkp | apply List.Mem.tail)
    · intro p hp
      repeat (first | exact hp | apply List.Mem.tail)
  case turn =>
    rintro k i u news ⟨tT, P, tp, told, its, nn, tl, t1, t2, t3, rfl, hik, hil, hP0, hP1, hTs, hTl, hnI, hnT, hTI, hkp, e1, e2, e3, e4, e5, e6, hrun, _⟩ t h tk F8 N8
    obtain ⟨c, hc1, hc2, hc3, hc4⟩ := hok.at hP0 hP1
    rw [upd6 e1 e2 e3 e4 e5 e6] at F8
    dsimp only [envOf] at F8 N8
    obtain ⟨v9, hv9, aH, w1, w2, w3, rfl, hmH⟩ := hTs.get hc1
    have N7 := News.sub (n2 := (I, itR (0 + ↑(i + 1)) ((12 : Nat) - ↑(i + 1))) :: (tT, W.listOf its.toArray nn) :: (D1, W.listOf ys1.toArray n1) :: (aH, tupI c.1 c.2.1 c.2.2 w1 w2 w3) :: tl) N8 (by
      intro p hp
      simp only [List.mem_cons] at hp ⊢
      rcases hp with hp | hp | hp | hp | hp
      · exact .inl hp
      · exact .inr (.inl hp)
      · exact .inr (.inr (.inl hp))
      · rw [hp]; exact .inr (.inr (.inr hmH))
      · exact .inr (.inr (.inr hp)))
    clear N8
    have hlT := hTl.length
    have hlY := hTs.length
    k_steps
    unfold Stop
    refine test_as (decide (lo3 x y z < c.1 ∧ c.2.1 = hi3 x y z)) ?_ fun tk9 => ?_
    · k_steps
      all_goals first
        | exact ⟨(decide_eq_true ⟨by assumption, by assumption⟩).symm, _, rfl⟩
        | exact ⟨(decide_eq_false (fun q => absurd q.2 (by assumption))).symm, _, rfl⟩
        | exact ⟨(decide_eq_false (fun q => absurd q.1 (by assumption))).symm, _, rfl⟩
        | exact ⟨(decide_eq_false (fun q => absurd q.1 (by omega))).symm, _, rfl⟩
    by_cases hacc0 : lo3 x y z < c.1 ∧ c.2.1 = hi3 x y z
    · rw [decide_eq_true hacc0]
      simp only [if_true]
      k_steps
      have hacc := hc3.mp hacc0
      have hR := (hrun k rfl c hc1).symm.trans (runI_in hacc)
      unfold RunRet at hret
      rw [hR] at hret
      (rename News h₀ L _ _ => N6)
      rw [hc2] at N6
      refine hret _ tT aH its nn _ w1 w2 w3 _ _ (by assumption) (News.sub N6 (sub3 (by k_mem) (by k_mem) (by repeat (first | exact hmH | apply List.Mem.tail)))) (ext_of N (by assumption) (by assumption) (by assumption) ?_) (hTl.at (News.sub (n2 := tl) N6 ?_))
      · refine List.forall_mem_cons.mpr ⟨.inr ?_, List.forall_mem_nil _⟩
        repeat (first | exact hkp | apply List.Mem.tail)
      · intro p hp
        repeat (first | exact hp | apply List.Mem.tail)
    · rw [decide_eq_false hacc0]
      simp only [Bool.false_eq_true, if_false]
      k_steps
      have hacc : ¬ acceptI c.1 c.2.1 c.2.2 := fun q => hacc0 (hc3.mpr q)
      unfold Stop
      (rename News _ _ _ _ => N6)
      rw [hc2] at N6
      refine append_ent (tl := tl) (by k_asm) N6 (by k_mem) (by k_mem) (by k_mem) (by k_mem) (by intro p hp; repeat (first | exact hp | apply List.Mem.tail)) (by omega) hTI hnT (by k_ne) ?_
      clear N6
      intro h6 F6 N6
      k_steps
      unfold Stop
      refine lenW (by k_asm) (by k_mem) (by omega) fun t9 tk9 => ?_
      k_steps
      unfold Stop
      (rename News _ _ _ _ => N6)
      refine turn_end (by assumption) N6 hTI hnI hnT (by k_ne) (by k_ne) hkp hik hil hTs hTl hmH hok.pos hs hc1 hc4 hrun hacc rfl hc2 rfl rfl rfl rfl rfl rfl rfl rfl
end
end Mine
end
section
open PySem PySem.W PyProof.Rows PySem.Calls PySem.Spec
namespace Mine
set_option maxRecDepth 100000
section
variable {prog : Program} {w : World} {A : Around} {E : Value → Shared → Prop} {s : Shared} {env : Env} {h₀ : Heap} {x : Str} {body : List Stmt} {Q : Flow → Shared → Prop}
/-- a loop over a made list, by what holds between the turns -/
theorem list_ind {I : Addr} {lp : Addr × Obj} {vs : List Value} {m : Str → Option Value} {news : List (Addr × Obj)} (Inv : Addr → Addr × Obj → List Value → (Str → Option Value) → List (Addr × Obj) → Prop)
    (h0 : Inv I lp vs m news) (hz : ∀ m news, Inv I lp [] m news → ∀ h tk, Fr h₀ env.locals h m → News h₀ env.locals h news → Q .next { s with heap := h, toks := tk })
    (hs : ∀ v r m news, Inv I lp (v :: r) m news → ∀ (it : Obj) h tk, it.cls = .type "list_iterator" → Fr h₀ env.locals h (fun y => if y = x then some v else m y) → News h₀ env.locals h ((I, it) :: news) →
      wpAny (model prog w) A (execs body env) (UnrPost h₀ env.locals { s with heap := h, toks := tk } I it (fun m' n' => lp ∈ n' ∧ Inv I lp r m' n') Q) E { s with heap := h, toks := tk }) :
    ListRest prog w A E h₀ env x body Q s I lp vs m news := by
  induction vs generalizing m news with
  | nil => exact ListRest.zero (hz m news h0)
  | cons v r ih =>
    refine ListRest.succ fun it h tk hc F N => ?_
    exact wpAny_mono (hs v r m news h0 it h tk hc F N) (fun f s₂ p => UnrPost.mono p fun m n ⟨a, b⟩ => ⟨a, ih b⟩) fun _ _ e => e
end
noncomputable def colD (c : Int × Int × Int) : Dat := .tuple [.int c.1, .int c.2.1, .int c.2.2]
noncomputable def entD (st : Int) (c : Int × Int × Int) : Dat := .tuple [.str (Str.ofString "http"), .int st, .int (codeI c.1 c.2.1 c.2.2), colD c, .int (codeI c.1 c.2.1 c.2.2), colD c]
noncomputable def resD (st : Int) (R : List (Int × Int × Int) × (Int × Int × Int)) : Dat := .tuple [.list (R.1.map (entD st)), .int (codeI R.2.1 R.2.2.1 R.2.2.2), colD R.2]
theorem kqdPs_map {α : Type} (f : α → Dat) (l : List α) : kqdPs (l.map f) = l.map fun a => kqdP (f a) := by
  induction l with
  | nil => rfl
  | cons a l ih => simp only [List.map_cons, kqdPs, ih]
theorem reads_col {h : Heap} {a : Addr} {c : Int × Int × Int} {t u v : Tok} (e : h.get? a = some (tupI c.1 c.2.1 c.2.2 t u v)) : Reads h (.ref a) (kqdP (colD c)) [] := readsTup e
theorem reads_ent {h : Heap} {st : Int} {v : Value} {c : Int × Int × Int} (e : EntAt h st v c) : Reads h v (kqdP (entD st c)) [] := by
  obtain ⟨a, ct, t1, t2, t3, t4, u1, u2, u3, rfl, e1, e2⟩ := e
  have r := reads_col e2
  exact Reads.tuple e1 rfl rfl (ReadsAll.cons (Reads.str _ _) (ReadsAll.cons (Reads.int _ _) (ReadsAll.cons (Reads.int _ _) (ReadsAll.cons r (ReadsAll.cons (Reads.int _ _) (ReadsAll.cons r ReadsAll.nil))))))
theorem reads_told {h : Heap} {st : Int} {vs : List Value} {cs : List (Int × Int × Int)} (x : ToldAt h st vs cs) : ReadsAll h vs (kqdPs (cs.map (entD st))) [] := by
  induction x with
  | nil => exact .nil
  | cons a _ ih => exact ReadsAll.cons (reads_ent a) ih
theorem reads_res {h : Heap} {st : Int} {R : List (Int × Int × Int) × (Int × Int × Int)} {D tl ct : Addr} {its : List Value} {n : Nat} {t u1 u2 u3 : Tok}
    (e1 : h.get? D = some (resObj tl (codeI R.2.1 R.2.2.1 R.2.2.2) ct t)) (e2 : h.get? tl = some (W.listOf its.toArray n)) (e3 : h.get? ct = some (tupI R.2.1 R.2.2.1 R.2.2.2 u1 u2 u3)) (x : ToldAt h st its R.1) :
    Reads h (.ref D) (kqdP (resD st R)) [tl] :=
  Reads.tuple e1 rfl rfl (ReadsAll.cons (Reads.list e2 rfl rfl (by simpa using reads_told x)) (ReadsAll.cons (Reads.int _ _) (ReadsAll.cons (reads_col e3) ReadsAll.nil)))
theorem res_ok (st : Int) (R : List (Int × Int × Int) × (Int × Int × Int)) : kqdOk 8 (resD st R) = true := by
  have hs : PyData.strOk (Str.ofString "http") = true := by decide +kernel
  simp [resD, entD, colD, kqdOk, hs]
theorem ne_same {prog : Program} {w : World} {A : Around} {E : Value → Shared → Prop} {s : Shared} {Q : Value → Shared → Prop} {a b : Value} {as bs : List Addr} {d : Dat} (ra : Reads s.heap a (kqdP d) as) (rb : Reads s.heap b (kqdP d) bs) (hd : kqdOk 8 d = true) (hu : A.units + 64 < cLine) (h : Q (.bool false) s) :
    wpAny (model prog w) A (compareOp .NotEq a b) Q E s := by
  have la := kqd_lay 8 d hd
  have e : PyData.eqv (kqdP d) (kqdP d) = true := (kqd_eqv 8 d d 8 hd hd).mpr rfl
  have hsh : SeqAt.shaped (kqdP d) = true := by
    unfold SeqAt.shaped; rw [la.1, Bool.true_and]; exact decide_eq_true (Nat.le_trans la.2 (by decide))
  exact ne_dataH ra rb hsh hsh hu (by rw [e]; exact h)
/-- the two tables of codes: empty, or filled by the first turn -/
noncomputable def TabsIn (news : List (Addr × Obj)) : Prop :=
  ((84, tabObj #[]) ∈ news ∧ (91, tabObj #[]) ∈ news) ∨
  ∃ c1 oc1 vs1 t1 c2 oc2 vs2 t2, (84, tab84 c1) ∈ news ∧ (c1, oc1) ∈ news ∧ (91, tab91 c2) ∈ news ∧ (c2, oc2) ∈ news ∧ oc1.data = .fields vs1 ∧ vs1[1]? = some (.str lamQ t1) ∧ oc2.data = .fields vs2 ∧ vs2[1]? = some (.str errQ t2)
end Mine
end
section
open PySem PySem.W PyProof.Rows PySem.Calls PySem.Spec
namespace Mine
set_option maxRecDepth 100000
section
variable {w : World} {p : Program} {loose : List Str} {mean : ExcName → Option Value} {mg mb : Str → Option Value}
    {dp un : Nat} {gd : Option (List Code)} {cn : Str} {cs : Scope} {a : Addr} {ccd : Value} {cl : List (Str × Addr)} {outer : List Env} {A₀ : Around} {base h₀ : Heap} {L : Addr} {m : Str → Option Value} {s : Shared} {Q E : Value → Shared → Prop}
    {x y z st : Int} {tx ty tz ts : Tok} {ct : Addr} {news : List (Addr × Obj)}
theorem run_any
    (B : Below A₀ base outer h₀) (F : Fr h₀ L s.heap m) (X : (hd.heap_39 w.params).In h₀) (N : News h₀ L s.heap news) (mct : (ct, tupI x y z tx ty tz) ∈ news) (mt : TabsIn news) (T : Top p loose mean mg mb h₀) (hk : cs.kind = .function)
    (hx : Dig x) (hy : Dig y) (hz : Dig z) (hs : Step st) (C : CodeHd base 88 84) (C2 : CodeHd base 95 91) (hne : @Ne Nat ct 84) (hne2 : @Ne Nat ct 91)
    (hd : dp + 230 < recursionLimit) (hu : un + 1300 < cLine)
    (hret : ∀ D tl ctq its nn t u1 u2 u3 h' tk more, Fr h₀ L h' m →
      News h₀ L h' ((D, resObj tl (codeI (runI st 11 x y z []).2.1 (runI st 11 x y z []).2.2.1 (runI st 11 x y z []).2.2.2) ctq t) :: (tl, W.listOf (List.toArray its) nn) :: (ctq, tupI (runI st 11 x y z []).2.1 (runI st 11 x y z []).2.2.1 (runI st 11 x y z []).2.2.2 u1 u2 u3) :: more) →
      TabsIn more → (∀ q ∈ more, q ∈ news ∨ @LE.le Nat _ s.heap.objs.size q.1 ∨ @Eq Nat q.1 84 ∨ @Eq Nat q.1 91) → Ext [84, 91] s.heap h' → ToldAt h' st its (runI st 11 x y z []).1 → Q (.ref D) { s with heap := h', toks := tk }) :
    wpAny (model Challenge.rw_mq0127_01.row.prog w) (ktrTop dp un gd cn cs L a ccd cl outer) (call (.ref 96) [.ref ct, .int st ts]) Q E s := by
  rcases mt with ⟨q1, q2⟩ | ⟨c1, oc1, vs1, t1, c2, oc2, vs2, t2, q1, q2, q3, q4, d1, d2, d3, d4⟩
  · refine run_miss B F X (News.sub N (sub3 mct q1 q2)) T hk hx hy hz hs C C2 hne hne2 hd hu ?_
    intro c1 oc1 vs1 t1 c2 oc2 vs2 t2 d1 d2 d3 d4 hP
    intro D tl ctq its nn t u1 u2 u3 h' tk F' N' e' hT'
    refine hret D tl ctq its nn t u1 u2 u3 h' tk _ F' N' (.inr ⟨c1, oc1, vs1, t1, c2, oc2, vs2, t2, .head _, .tail _ (.head _), .tail _ (.tail _ (.head _)), .tail _ (.tail _ (.tail _ (.head _))), d1, d2, d3, d4⟩) ?_ e' hT'
    exact List.forall_mem_cons.mpr ⟨.inr (.inr (.inl rfl)), List.forall_mem_cons.mpr ⟨.inr (.inl hP.1), List.forall_mem_cons.mpr ⟨.inr (.inr (.inr rfl)), List.forall_mem_cons.mpr ⟨.inr (.inl hP.2), List.forall_mem_nil _⟩⟩⟩⟩
  · have N5 : News h₀ L s.heap [(84, tab84 c1), (c1, oc1), (91, tab91 c2), (c2, oc2)] := News.sub N (List.forall_mem_cons.mpr ⟨q1, sub3 q2 q3 q4⟩)
    refine run_hit B F X (News.sub N (List.forall_mem_cons.mpr ⟨mct, List.forall_mem_cons.mpr ⟨q1, sub3 q2 q3 q4⟩⟩)) T hk hx hy hz hs C C2 d1 d2 d3 d4 hd hu ?_
    intro c1' oc1' vs1' t1' c2' oc2' vs2' t2' d1' d2' d3' d4'
    intro D tl ctq its nn t u1 u2 u3 h' tk F' N' e' hT'
    have N6 := News.ext0 N5 e'
    refine hret D tl ctq its nn t u1 u2 u3 h' tk [(84, tab84 c1), (c1, oc1), (91, tab91 c2), (c2, oc2)] F' (News.app (n1 := [_, _, _]) (News.sub N' (sub3 (.head _) (.tail _ (.head _)) (.tail _ (.tail _ (.head _))))) N6) (.inr ⟨c1, oc1, vs1, t1, c2, oc2, vs2, t2, .head _, .tail _ (.head _), .tail _ (.tail _ (.head _)), .tail _ (.tail _ (.tail _ (.head _))), d1, d2, d3, d4⟩) ?_ (e'.mono fun _ q => nomatch q) hT'
    exact List.forall_mem_cons.mpr ⟨.inl q1, List.forall_mem_cons.mpr ⟨.inl q2, List.forall_mem_cons.mpr ⟨.inl q3, List.forall_mem_cons.mpr ⟨.inl q4, List.forall_mem_nil _⟩⟩⟩⟩
end
/-- what holds between the law's turns -/
noncomputable def LInv (I : Addr) (lp : Addr × Obj) (vs : List Value) (_ : Str → Option Value) (news : List (Addr × Obj)) : Prop :=
  ∃ ns, IntsAre vs ns ∧ (∀ n ∈ ns, 0 ≤ n ∧ n < 1000000) ∧ lp ∈ news ∧ TabsIn news ∧ ∀ q ∈ news, @Ne Nat q.1 I
theorem TabsIn.two {news : List (Addr × Obj)} (h : TabsIn news) : ∃ o1 o2, (84, o1) ∈ news ∧ (91, o2) ∈ news := by
  rcases h with ⟨q1, q2⟩ | ⟨c1, oc1, vs1, t1, c2, oc2, vs2, t2, q1, q2, q3, q4, d1, d2, d3, d4⟩
  · exact ⟨_, _, q1, q2⟩
  · exact ⟨_, _, q1, q3⟩
theorem nums_ok {ns : List Int} : ∀ n ∈ [90, 4909, 13555, 7038, 99] ++ List.map (fun k : Int => k.fmod (10 ^ 6)) ns, 0 ≤ n ∧ n < 1000000 := by
  intro n hn
  rcases List.mem_append.mp hn with h | h
  · simp only [List.mem_cons, List.not_mem_nil, or_false] at h
    omega
  · obtain ⟨k, _, rfl⟩ := List.mem_map.mp h
    exact ⟨Int.fmod_nonneg_of_pos _ (by decide), Int.fmod_lt_of_pos _ (by decide)⟩
theorem ints_cons {v : Value} {r : List Value} {ns : List Int} (h : IntsAre (v :: r) ns) : ∃ k t ns', v = .int k t ∧ ns = k :: ns' ∧ IntsAre r ns' := by
  cases h with
  | cons k t h => exact ⟨k, t, _, rfl, rfl, h⟩
theorem dig_of {n : Int} : Dig (n.fmod 10) := ⟨Int.fmod_nonneg_of_pos _ (by decide), Int.le_of_lt_add_one (Int.fmod_lt_of_pos _ (by decide))⟩
theorem step_of {n : Int} : Step (1 + n.fmod 20) := by
  have h1 := Int.fmod_nonneg_of_pos n (b := 20) (by decide)
  have h2 := Int.fmod_lt_of_pos n (b := 20) (by decide)
  unfold Step; omega
theorem sub4 {a b c d : Addr × Obj} {nw : List (Addr × Obj)} (h1 : b ∈ nw) (h2 : c ∈ nw) (h3 : d ∈ nw) : ∀ p ∈ a :: b :: c :: d :: nw, p ∈ a :: nw :=
  List.forall_mem_cons.mpr ⟨.head _, List.forall_mem_cons.mpr ⟨.tail _ h1, List.forall_mem_cons.mpr ⟨.tail _ h2, List.forall_mem_cons.mpr ⟨.tail _ h3, fun _ h => .tail _ h⟩⟩⟩⟩
theorem sub5 {a : Addr × Obj} {nw all : List (Addr × Obj)} (h1 : a ∈ all) (h2 : ∀ p ∈ nw, p ∈ all) : ∀ p ∈ a :: nw, p ∈ all := List.forall_mem_cons.mpr ⟨h1, h2⟩
theorem sub1 {a : Addr × Obj} {all : List (Addr × Obj)} (h1 : a ∈ all) : ∀ p ∈ [a], p ∈ all := List.forall_mem_cons.mpr ⟨h1, List.forall_mem_nil _⟩
theorem off3 {a b c : Nat} {o1 o2 o3 : Obj} (h1 : a ≠ 84) (h2 : a ≠ 91) (h3 : b ≠ 84) (h4 : b ≠ 91) (h5 : c ≠ 84) (h6 : c ≠ 91) : ∀ p ∈ ([(a, o1), (b, o2), (c, o3)] : List (Addr × Obj)), p.1 ∉ ([84, 91] : List Addr) := by
  have k : ∀ {n : Nat}, n ≠ 84 → n ≠ 91 → n ∉ ([84, 91] : List Addr) := by
    intro n h1 h2 h
    rcases List.mem_cons.mp h with h | h
    · exact h1 h
    · exact h2 (List.mem_singleton.mp h)
  exact List.forall_mem_cons.mpr ⟨k h1 h2, List.forall_mem_cons.mpr ⟨k h3 h4, List.forall_mem_cons.mpr ⟨k h5 h6, List.forall_mem_nil _⟩⟩⟩
theorem lp_ne {h₀ h : Heap} {L a b : Addr} {news : List (Addr × Obj)} {l : Array Value} {n : Nat} {p : Array Value} (N : News h₀ L h news) (h1 : (a, W.listOf l n) ∈ news) (h2 : (b, tabObj p) ∈ news) : @Ne Nat a b :=
  neObj N h1 h2 (fun e => by have := congrArg Obj.cls e; cases this)
theorem TabsIn.tabs {news : List (Addr × Obj)} (h : TabsIn news) : ∃ p1 p2, (84, tabObj p1) ∈ news ∧ (91, tabObj p2) ∈ news := by
  rcases h with ⟨q1, q2⟩ | ⟨c1, oc1, vs1, t1, c2, oc2, vs2, t2, q1, q2, q3, q4, d1, d2, d3, d4⟩
  · exact ⟨_, _, q1, q2⟩
  · exact ⟨_, _, q1, q3⟩
theorem TabsIn.mono {n1 n2 : List (Addr × Obj)} (h : TabsIn n1) (hs : ∀ q ∈ n1, q ∈ n2) : TabsIn n2 := by
  rcases h with ⟨q1, q2⟩ | ⟨c1, oc1, vs1, t1, c2, oc2, vs2, t2, q1, q2, q3, q4, d⟩
  · exact .inl ⟨hs _ q1, hs _ q2⟩
  · exact .inr ⟨c1, oc1, vs1, t1, c2, oc2, vs2, t2, hs _ q1, hs _ q2, hs _ q3, hs _ q4, d⟩
end Mine
end
section
open PySem PySem.W PyProof.Rows PySem.Calls PySem.Spec
namespace Mine
theorem calm6 : True := by
  w_top off
  trivial
local macro_rules | `(tactic| walk_at $s:str) => `(tactic| k_extra $s)
set_option maxRecDepth 100000
set_option maxHeartbeats 8000000
theorem law_holds : PySem.Challenge.rw_mq0127_01.Holds := hd (by
  k_with_none
  k_with "pyIter ref" => ((with_reducible show wpAny _ _ (pyIter (Value.ref _)) (fun it s₂ => LoopAtV _ _ _ _ _ _ _ _ _ it s₂) _ _); refine stop ?_)
  k_with "call ref" => ((with_reducible show wpAny _ _ (call (Value.ref 96) _) _ _ _); refine stop ?_)
  k_with "call ref" => ((with_reducible show wpAny _ _ (call (Value.ref 108) _) _ _ _); refine stop ?_)
  k_with "eval ListComp" => (k_here; k_dflt (refine LCg.ListComp_U (F₀ := by k_asm) (by with_unfolding_all rfl) (by decide) (by rfl) (by decide) (by rfl) ?_))
  k_with "CompSrc" => (refine stop ?_)
  k_with "CompEnd" => (refine stop ?_)
  k_with "FinE" => ((unfold LCg.FinE); intro D_7 h_7 tk_7 F_7 N_7 o1_7; (try simp only [List.nil_append, List.cons_append] at N_7); (try dsimp only))
  k_with "binaryOp Add ref ref" => (refine stop ?_)
  k_with "compareOp NotEq ref ref" => (refine stop ?_)
  k_with "UnrEnd" => (refine stop ?_)
  k_go0
  all_goals try k_fold
  k_steps
  unfold Stop
  refine' LCg.CompSrc.ledger rfl ?F ?N ?hm ?hz ?_
  (case F => k_asm)
  (case N => k_asm)
  (case hm => k_mem)
  (case hz => rw [List.size_toArray, IntsAre.length (by assumption), sizeLine_eq]; omega)
  intro g
  refine' kcf_list (fun k => k.fmod (10 ^ 6)) (by assumption) ?turn ?fin
  case turn =>
    intro k t I oI C oC D m₂ ys h tk E' hk hC hx F N off ne mk
    k_steps
    unfold Stop
    refine LCg.CompEnd.intro (by assumption) (by assumption) _ (fun p hp => hp) (by assumption) (.inr ⟨_, by k_mem, rfl, _, rfl⟩) ⟨rfl, _, rfl⟩
  unfold KPfDone
  intro ys hys
  have hly := hys.length
  k_steps
  unfold Stop
  refine addTups (ys := [_, _, _, _, _]) (by k_asm) (by k_asm) (by k_mem) (by k_mem) (by decide : 5 ≤ 100) (by rw [hly, List.length_map]; omega) ?_
  intro DN hN FN NN
  k_steps
  unfold Stop
  refine iter_listUnr rfl (by k_asm) (by k_asm) (by k_mem) rfl rfl ?_
  intro I hI
  refine list_ind LInv ?lp0 ?lpz ?lps
  case lp0 =>
    refine ⟨[90, 4909, 13555, 7038, 99] ++ _, IntsAre.append (.cons _ _ (.cons _ _ (.cons _ _ (.cons _ _ (.cons _ _ .nil))))) (by assumption), nums_ok, by k_mem, .inl ⟨by k_mem, by k_mem⟩, fun q hq => Nat.ne_of_lt (hI q hq)⟩
  case lpz =>
    rintro mm nw ⟨ns, q1, q2, q3, q4, q5⟩ h tk F8 N8
    obtain ⟨p1, p2, g1, g2⟩ := q4.tabs
    have N9 := News.sub (n2 := [(84, tabObj p1), (91, tabObj p2)]) N8 (List.forall_mem_cons.mpr ⟨g1, List.forall_mem_cons.mpr ⟨g2, List.forall_mem_nil _⟩⟩)
    dsimp only [envOf, envX] at F8 N9
    clear N8 q4 q5 q3 hI g1 g2
    dsimp only
    k_steps
  case lps =>
    rintro v r mm nw ⟨ns, q1, q2, q3, q4, q5⟩ it h tk hit F8 N8
    obtain ⟨k, t, ns', rfl, rfl, q1'⟩ := ints_cons q1
    obtain ⟨p1, p2, g1, g2⟩ := q4.tabs
    have d84 := lp_ne N8 (.tail _ q3) (.tail _ g1)
    have d91 := lp_ne N8 (.tail _ q3) (.tail _ g2)
    have hk := q2 k (.head _)
    have hx : Dig (k.fmod 10) := dig_of
    have hy : Dig ((k.fdiv 10).fmod 10) := dig_of
    have hz : Dig ((k.fdiv 100).fmod 10) := dig_of
    have hs : Step (1 + (k.fdiv 1000).fmod 20) := step_of
    have N9 := News.sub (n2 := (I, it) :: _ :: (84, tabObj p1) :: (91, tabObj p2) :: nw) N8 (sub4 q3 g1 g2)
    have i84 := q5 _ g1
    have i91 := q5 _ g2
    dsimp only [envOf, envX] at F8 N9
    clear N8 hI
    dsimp only
    k_steps
    unfold Stop
    have lI := Heap.lt_size (News.get (by k_asm) (a := I) (by k_mem))
    refine run_any (by k_asm) (by k_asm) (by k_asm) (News.sub (n2 := _ :: nw) (by k_asm) (sub5 (by k_mem) (by intro p hp; repeat (first | exact hp | apply List.Mem.tail)))) (.head _) (q4.mono fun p hp => .tail _ hp) (by k_asm) rfl hx hy hz hs (by assumption) (by assumption) (by k_ne) (by k_ne) (by ktr_room) (by ktr_units) ?_
    intro D5 tl5 ctq5 its5 nn5 tt5 u51 u52 u53 h5 tk5 more F5 N5 hmore hnew ext5 hT5
    have NK := News.ext (News.sub (n2 := [(_, tupI (k.fmod 10) ((k.fdiv 10).fmod 10) ((k.fdiv 100).fmod 10) _ _ _), (I, it), (DN, _)]) (by k_asm) (sub3 (by k_mem) (by k_mem) (by k_mem))) ext5 (off3 (by k_ne) (by k_ne) (Ne.symm i84) (Ne.symm i91) d84 d91)
    have NL := News.app NK N5
    simp only [List.cons_append, List.nil_append] at NL
    clear N5 NK
    k_steps
    unfold Stop
    refine meant_call (by k_asm) (by k_asm) (by k_asm) (News.sub (n2 := [_]) (by k_asm) (sub1 (by k_mem))) (by k_asm) rfl hx hy hz hs (by ktr_room) (by ktr_units) ?_
    intro D6 tl6 ctq6 its6 nn6 tt6 u61 u62 u63 h6 tk6 F6 N6 ext6 hT6
    have NM := News.app N6 (News.ext0 (by k_asm) ext6)
    simp only [List.cons_append, List.nil_append] at NM
    have hT5' := hT5.grown fun b o e => ext6 b o e (fun q => nomatch q)
    clear N6
    k_steps
    unfold Stop
    refine ne_same (reads_res (NM.get (by k_mem)) (NM.get (by k_mem)) (NM.get (by k_mem)) hT5') (reads_res (NM.get (by k_mem)) (NM.get (by k_mem)) (NM.get (by k_mem)) hT6) (res_ok _ _) (by ktr_units) ?_
    k_steps
    unfold Stop
    have hoff : ∀ q ∈ (DN, _) :: more, @Ne Nat q.1 I := List.forall_mem_cons.mpr ⟨q5 _ q3, fun q hq => by
      rcases hnew q hq with h | h | h | h
      · rcases List.mem_cons.mp h with rfl | h
        · k_ne
        · exact q5 _ h
      · exact Nat.ne_of_gt (Nat.lt_of_lt_of_le lI h)
      · intro e; exact i84 (h.symm.trans e)
      · intro e; exact i91 (h.symm.trans e)⟩
    refine UnrEnd.intro (by assumption) (News.sub (n2 := (I, it) :: (DN, _) :: more) (by k_asm) ?_) ((DN, _) :: more) (fun p hp => hp) hoff ⟨.head _, ns', q1', fun n hn => q2 n (.tail _ hn), .head _, hmore.mono (fun _ h => .tail _ h), hoff⟩
    exact List.forall_mem_cons.mpr ⟨by k_mem, List.forall_mem_cons.mpr ⟨by k_mem, by intro p hp; repeat (first | exact hp | apply List.Mem.tail)⟩⟩)
end Mine
end
theorem PySem.Challenge.cw_mq0127_01_holds : PySem.Challenge.rw_mq0127_01.Holds :=
  Mine.law_holds

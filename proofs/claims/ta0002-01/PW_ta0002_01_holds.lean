import PyProof.Rows.All
import Wide.All
import OpenK.AllK
import Wide.FinOn
import Flt.RightSqrt
import Lean
import PySem.Challenge.RW_ta0002_01
set_option Elab.async false
set_option linter.all false
section
open PySem PySem.W PyProof.Rows
namespace Mine
set_option maxRecDepth 100000 in
set_option maxHeartbeats 8000000 in
open_top hd for PySem.Challenge.rw_ta0002_01
end Mine
end

section
open PySem PySem.W PyProof.Rows PySem.Flt
namespace Mine
/-- the greatest of two, of three as max reckons it (the first of equals) -/
noncomputable def fmax (x y : UInt64) : UInt64 := if (Float64.cmp x y == some .lt) = true then y else x
noncomputable def fmin (x y : UInt64) : UInt64 := if (Float64.cmp y x == some .lt) = true then y else x
noncomputable def fmax3 (a b c : UInt64) : UInt64 := fmax (fmax a b) c
noncomputable def fmin3 (a b c : UInt64) : UInt64 := fmin (fmin a b) c
section
variable {prog : Program} {w : World} {A : Around} {E : Value → Shared → Prop} {s : Shared} {Q : Value → Shared → Prop}
theorem max3_num {a b c : Value} (hh : A.handled = none) (ha : NumV a) (hb : NumV b) (hc : NumV c)
    (h : ∀ h' tk, (∀ d o, s.heap.get? d = some o → h'.get? d = some o) → Q (if ltV a b then (if ltV b c then c else b) else (if ltV a c then c else a)) { s with heap := h', toks := tk }) :
    wpAny (model prog w) A (call (.builtin "max") [a, b, c]) Q E s := by
  have hT : (s.heap.push { cls := .type "tuple", data := .seq #[a, b, c] }).IsTuple s.heap.objs.size #[a, b, c] := ⟨_, Heap.get?_push_size _ rfl, rfl, 0, rfl⟩
  refine call_max_three (wpAny_pyIter_tuple hT ?_)
  have hsz : (s.heap.push { cls := .type "tuple", data := .seq #[a, b, c] }).objs.size = s.heap.objs.size + 1 := Heap.size_push ..
  refine ⟨_, [_, s.heap.objs.size], [_], _, _, _, _, rfl, Walks.tuple (A := A.in1) hh _ s.heap.objs.size (by rw [hsz]; exact Nat.ne_of_lt (Nat.lt_succ_self _)) #[a, b, c],
    ⟨⟨_, Heap.get?_push_size _ rfl, rfl, rfl⟩, hT.push _⟩, fun c hc => ?_, by simp, cmpOf_gt #[a, b, c] (by simp [ha, hb, hc]), fun v h' tk hP hk => ?_⟩
  · show c < ((s.heap.push _).push _).objs.size
    rw [Heap.size_push, hsz]
    rcases List.mem_cons.mp hc with rfl | hc
    · rw [hsz]; exact Nat.lt_succ_self _
    · rcases List.mem_cons.mp hc with rfl | hc
      · exact Nat.lt_succ_of_lt (Nat.lt_succ_self _)
      · cases hc
  · have hold : ∀ c o, s.heap.get? c = some o → h'.get? c = some o := fun c o e => by
      refine hk c o (fun hm => ?_) (Heap.get?_push_of_some _ (Heap.get?_push_of_some _ e))
      rcases List.mem_cons.mp hm with e1 | hm
      · have := Heap.lt_size e; rw [e1, hsz] at this; exact Nat.lt_irrefl _ (Nat.lt_of_succ_lt this)
      · cases hm
    have := h h' tk hold
    have hv : v = if ltV a b then (if ltV b c then c else b) else (if ltV a c then c else a) := by
      cases h1 : ltV a b <;> cases h2 : ltV b c <;> cases h3 : ltV a c <;> simp [argBest, h1, h2, h3] at hP <;> simp [hP]
    rw [hv]; exact this
theorem min3_num {a b c : Value} (hh : A.handled = none) (ha : NumV a) (hb : NumV b) (hc : NumV c)
    (h : ∀ h' tk, (∀ d o, s.heap.get? d = some o → h'.get? d = some o) → Q (if ltV b a then (if ltV c b then c else b) else (if ltV c a then c else a)) { s with heap := h', toks := tk }) :
    wpAny (model prog w) A (call (.builtin "min") [a, b, c]) Q E s := by
  have hT : (s.heap.push { cls := .type "tuple", data := .seq #[a, b, c] }).IsTuple s.heap.objs.size #[a, b, c] := ⟨_, Heap.get?_push_size _ rfl, rfl, 0, rfl⟩
  refine call_min_three (wpAny_pyIter_tuple hT ?_)
  have hsz : (s.heap.push { cls := .type "tuple", data := .seq #[a, b, c] }).objs.size = s.heap.objs.size + 1 := Heap.size_push ..
  refine ⟨_, [_, s.heap.objs.size], [_], _, _, _, _, rfl, Walks.tuple (A := A.in1) hh _ s.heap.objs.size (by rw [hsz]; exact Nat.ne_of_lt (Nat.lt_succ_self _)) #[a, b, c],
    ⟨⟨_, Heap.get?_push_size _ rfl, rfl, rfl⟩, hT.push _⟩, fun c hc => ?_, by simp, cmpOf_lt #[a, b, c] (by simp [ha, hb, hc]), fun v h' tk hP hk => ?_⟩
  · show c < ((s.heap.push _).push _).objs.size
    rw [Heap.size_push, hsz]
    rcases List.mem_cons.mp hc with rfl | hc
    · rw [hsz]; exact Nat.lt_succ_self _
    · rcases List.mem_cons.mp hc with rfl | hc
      · exact Nat.lt_succ_of_lt (Nat.lt_succ_self _)
      · cases hc
  · have hold : ∀ c o, s.heap.get? c = some o → h'.get? c = some o := fun c o e => by
      refine hk c o (fun hm => ?_) (Heap.get?_push_of_some _ (Heap.get?_push_of_some _ e))
      rcases List.mem_cons.mp hm with e1 | hm
      · have := Heap.lt_size e; rw [e1, hsz] at this; exact Nat.lt_irrefl _ (Nat.lt_of_succ_lt this)
      · cases hm
    have := h h' tk hold
    have hv : v = if ltV b a then (if ltV c b then c else b) else (if ltV c a then c else a) := by
      cases h1 : ltV b a <;> cases h2 : ltV c b <;> cases h3 : ltV c a <;> simp [argBest, h1, h2, h3] at hP <;> simp [hP]
    rw [hv]; exact this
variable {x y z : UInt64} {t u v : Tok} {h₀ : Heap} {L : Addr} {m : Str → Option Value} {news : List (Addr × Obj)}
theorem ltV_ff (x y : UInt64) (t u : Tok) : ltV (.float x t) (.float y u) = (Float64.cmp x y == some .lt) := rfl
theorem fmax3_val (x y z : UInt64) (t u v : Tok) : ∃ r, (if ltV (.float x t) (.float y u) then (if ltV (.float y u) (.float z v) then Value.float z v else .float y u) else (if ltV (.float x t) (.float z v) then .float z v else .float x t)) = .float (fmax3 x y z) r := by
  unfold fmax3 fmax
  rw [ltV_ff, ltV_ff, ltV_ff]
  by_cases c1 : (Float64.cmp x y == some .lt) = true
  · simp only [if_pos c1]
    by_cases c2 : (Float64.cmp y z == some .lt) = true
    · exact ⟨v, by rw [if_pos c2, if_pos c2]⟩
    · exact ⟨u, by rw [if_neg c2, if_neg c2]⟩
  · simp only [if_neg c1]
    by_cases c2 : (Float64.cmp x z == some .lt) = true
    · exact ⟨v, by rw [if_pos c2, if_pos c2]⟩
    · exact ⟨t, by rw [if_neg c2, if_neg c2]⟩
theorem fmin3_val (x y z : UInt64) (t u v : Tok) : ∃ r, (if ltV (.float y u) (.float x t) then (if ltV (.float z v) (.float y u) then Value.float z v else .float y u) else (if ltV (.float z v) (.float x t) then .float z v else .float x t)) = .float (fmin3 x y z) r := by
  unfold fmin3 fmin
  rw [ltV_ff, ltV_ff, ltV_ff]
  by_cases c1 : (Float64.cmp y x == some .lt) = true
  · simp only [if_pos c1]
    by_cases c2 : (Float64.cmp z y == some .lt) = true
    · exact ⟨v, by rw [if_pos c2, if_pos c2]⟩
    · exact ⟨u, by rw [if_neg c2, if_neg c2]⟩
  · simp only [if_neg c1]
    by_cases c2 : (Float64.cmp z x == some .lt) = true
    · exact ⟨v, by rw [if_pos c2, if_pos c2]⟩
    · exact ⟨t, by rw [if_neg c2, if_neg c2]⟩
theorem max3_float (hh : A.handled = none) (F : Fr h₀ L s.heap m) (N : News h₀ L s.heap news)
    (h : ∀ h' tk r, Fr h₀ L h' m → News h₀ L h' news → Q (.float (fmax3 x y z) r) { s with heap := h', toks := tk }) :
    wpAny (model prog w) A (call (.builtin "max") [.float x t, .float y u, .float z v]) Q E s := by
  refine max3_num hh (.float x t) (.float y u) (.float z v) fun h' tk kp => ?_
  obtain ⟨r, e⟩ := fmax3_val x y z t u v
  rw [e]
  exact h h' tk r (F.grownK kp) (N.grown kp)
theorem min3_float (hh : A.handled = none) (F : Fr h₀ L s.heap m) (N : News h₀ L s.heap news)
    (h : ∀ h' tk r, Fr h₀ L h' m → News h₀ L h' news → Q (.float (fmin3 x y z) r) { s with heap := h', toks := tk }) :
    wpAny (model prog w) A (call (.builtin "min") [.float x t, .float y u, .float z v]) Q E s := by
  refine min3_num hh (.float x t) (.float y u) (.float z v) fun h' tk kp => ?_
  obtain ⟨r, e⟩ := fmin3_val x y z t u v
  rw [e]
  exact h h' tk r (F.grownK kp) (N.grown kp)
theorem max3_110 (hh : A.handled = none) (F : Fr h₀ L s.heap m) (N : News h₀ L s.heap news)
    (h : ∀ h' tk r, Fr h₀ L h' m → News h₀ L h' news → Q (.int 1 r) { s with heap := h', toks := tk }) :
    wpAny (model prog w) A (call (.builtin "max") [.int 1 t, .int 1 u, .int 0 v]) Q E s :=
  max3_num hh (.int 1 t) (.int 1 u) (.int 0 v) fun h' tk kp => h h' tk t (F.grownK kp) (N.grown kp)
theorem min3_110 (hh : A.handled = none) (F : Fr h₀ L s.heap m) (N : News h₀ L s.heap news)
    (h : ∀ h' tk r, Fr h₀ L h' m → News h₀ L h' news → Q (.int 0 r) { s with heap := h', toks := tk }) :
    wpAny (model prog w) A (call (.builtin "min") [.int 1 t, .int 1 u, .int 0 v]) Q E s :=
  min3_num hh (.int 1 t) (.int 1 u) (.int 0 v) fun h' tk kp => h h' tk v (F.grownK kp) (N.grown kp)
end
theorem mx3 (x y z : Int) : (x ≤ max (max x y) z ∧ y ≤ max (max x y) z ∧ z ≤ max (max x y) z) ∧ (min (min x y) z ≤ x ∧ min (min x y) z ≤ y ∧ min (min x y) z ≤ z) :=
  ⟨⟨Int.le_trans (Int.le_max_left x y) (Int.le_max_left _ z), Int.le_trans (Int.le_max_right x y) (Int.le_max_left _ z), Int.le_max_right _ z⟩, Int.le_trans (Int.min_le_left _ z) (Int.min_le_left x y), Int.le_trans (Int.min_le_left _ z) (Int.min_le_right x y), Int.min_le_right _ z⟩
theorem mx3_le {x y z B : Int} (hx : 0 ≤ x ∧ x ≤ B) (hy : 0 ≤ y ∧ y ≤ B) (hz : 0 ≤ z ∧ z ≤ B) : max (max x y) z ≤ B ∧ 0 ≤ min (min x y) z :=
  ⟨Int.max_le.mpr ⟨Int.max_le.mpr ⟨hx.2, hy.2⟩, hz.2⟩, Int.le_min.mpr ⟨Int.le_min.mpr ⟨hx.1, hy.1⟩, hz.1⟩⟩
theorem mx_or (a b : Int) : (max a b = a ∨ max a b = b) ∧ (min a b = a ∨ min a b = b) := by
  rcases Int.le_total a b with h | h
  · exact ⟨.inr (Int.max_eq_right h), .inl (Int.min_eq_left h)⟩
  · exact ⟨.inl (Int.max_eq_left h), .inr (Int.min_eq_right h)⟩
theorem mx3_or (x y z : Int) : (max (max x y) z = x ∨ max (max x y) z = y ∨ max (max x y) z = z) ∧ (min (min x y) z = x ∨ min (min x y) z = y ∨ min (min x y) z = z) := by
  constructor
  · rcases (mx_or (max x y) z).1 with h | h
    · rw [h]; exact (mx_or x y).1.elim .inl fun q => .inr (.inl q)
    · exact .inr (.inr h)
  · rcases (mx_or (min x y) z).2 with h | h
    · rw [h]; exact (mx_or x y).2.elim .inl fun q => .inr (.inl q)
    · exact .inr (.inr h)
theorem mx_sub (c a b : Int) : max (c - a) (c - b) = c - min a b ∧ min (c - a) (c - b) = c - max a b := by
  rcases Int.le_total a b with h | h
  · rw [Int.min_eq_left h, Int.max_eq_right h]; exact ⟨Int.max_eq_left (Int.sub_le_sub_left h c), Int.min_eq_right (Int.sub_le_sub_left h c)⟩
  · rw [Int.min_eq_right h, Int.max_eq_left h]; exact ⟨Int.max_eq_right (Int.sub_le_sub_left h c), Int.min_eq_left (Int.sub_le_sub_left h c)⟩
theorem mx3_sub (c x y z : Int) : max (max (c - x) (c - y)) (c - z) = c - min (min x y) z ∧ min (min (c - x) (c - y)) (c - z) = c - max (max x y) z := by
  rw [(mx_sub c x y).1, (mx_sub c x y).2, (mx_sub c _ z).1, (mx_sub c _ z).2]; exact ⟨rfl, rfl⟩
end Mine
end

section
open PySem PySem.W PyProof.Rows
namespace Mine
def StopD (P : Prop) : Prop := P
theorem StopD.mk {P : Prop} (h : StopD P) : P := h
theorem StopD.out {P : Prop} (h : P) : StopD P := h
noncomputable abbrev LS : List Str := [Str.ofString "ONE_THIRD", Str.ofString "ONE_SIXTH", Str.ofString "TWO_THIRD"]
noncomputable abbrev PR : Program := Challenge.rw_ta0002_01.row.prog
noncomputable abbrev tup3 (a b c : Value) (n : Nat) : Obj := { cls := .type "tuple", data := .seq #[a, b, c] n }
/-- hue of a colour that is not grey: mx its greatest, d the range -/
noncomputable def hueF (r g b mx d : UInt64) : UInt64 :=
  (Float64.divmod (Float64.div
    (if (Float64.cmp r mx == some .eq) = true then Float64.sub (Float64.div (Float64.sub mx b) d) (Float64.div (Float64.sub mx g) d)
     else if (Float64.cmp g mx == some .eq) = true then Float64.sub (Float64.add 4611686018427387904 (Float64.div (Float64.sub mx r) d)) (Float64.div (Float64.sub mx b) d)
     else Float64.sub (Float64.add 4616189618054758400 (Float64.div (Float64.sub mx g) d)) (Float64.div (Float64.sub mx r) d)) 4618441417868443648) 4607182418800017408).2
noncomputable def hsvF (r g b : UInt64) : UInt64 × UInt64 × UInt64 :=
  if (Float64.cmp (fmin3 r g b) (fmax3 r g b) == some .eq) = true then (0, 0, fmax3 r g b)
  else (hueF r g b (fmax3 r g b) (Float64.sub (fmax3 r g b) (fmin3 r g b)), Float64.div (Float64.sub (fmax3 r g b) (fmin3 r g b)) (fmax3 r g b), fmax3 r g b)
noncomputable def hlsF (r g b : UInt64) : UInt64 × UInt64 × UInt64 :=
  if (Float64.cmp (fmin3 r g b) (fmax3 r g b) == some .eq) = true then (0, Float64.div (Float64.add (fmax3 r g b) (fmin3 r g b)) 4611686018427387904, 0)
  else (hueF r g b (fmax3 r g b) (Float64.sub (fmax3 r g b) (fmin3 r g b)), Float64.div (Float64.add (fmax3 r g b) (fmin3 r g b)) 4611686018427387904,
    if (Float64.cmp (Float64.div (Float64.add (fmax3 r g b) (fmin3 r g b)) 4611686018427387904) 4602678819172646912 == some .lt || Float64.cmp (Float64.div (Float64.add (fmax3 r g b) (fmin3 r g b)) 4611686018427387904) 4602678819172646912 == some .eq) = true
    then Float64.div (Float64.sub (fmax3 r g b) (fmin3 r g b)) (Float64.add (fmax3 r g b) (fmin3 r g b))
    else Float64.div (Float64.sub (fmax3 r g b) (fmin3 r g b)) (Float64.sub (Float64.sub 4611686018427387904 (fmax3 r g b)) (fmin3 r g b)))
noncomputable def vF (m1 m2 hue : UInt64) : UInt64 :=
  if (Float64.cmp (Float64.divmod hue 4607182418800017408).2 4595172819793696085 == some .lt) = true then Float64.add m1 (Float64.mul (Float64.mul (Float64.sub m2 m1) (Float64.divmod hue 4607182418800017408).2) 4618441417868443648)
  else if (Float64.cmp (Float64.divmod hue 4607182418800017408).2 4602678819172646912 == some .lt) = true then m2
  else if (Float64.cmp (Float64.divmod hue 4607182418800017408).2 4604180019048437077 == some .lt) = true then Float64.add m1 (Float64.mul (Float64.mul (Float64.sub m2 m1) (Float64.sub 4604180019048437077 (Float64.divmod hue 4607182418800017408).2)) 4618441417868443648)
  else m1
/-- the six ways of hsv_to_rgb: x = h * 6.0 -/
noncomputable def sixF (x s v : UInt64) : UInt64 × UInt64 × UInt64 :=
  if (Flt.toInt Float64.truncOf x).fmod 6 = 0 then (v, Float64.mul v (Float64.sub 4607182418800017408 (Float64.mul s (Float64.sub 4607182418800017408 (Float64.sub x (Float64.ofInt (Flt.toInt Float64.truncOf x)))))), Float64.mul v (Float64.sub 4607182418800017408 s))
  else if (Flt.toInt Float64.truncOf x).fmod 6 = 1 then (Float64.mul v (Float64.sub 4607182418800017408 (Float64.mul s (Float64.sub x (Float64.ofInt (Flt.toInt Float64.truncOf x))))), v, Float64.mul v (Float64.sub 4607182418800017408 s))
  else if (Flt.toInt Float64.truncOf x).fmod 6 = 2 then (Float64.mul v (Float64.sub 4607182418800017408 s), v, Float64.mul v (Float64.sub 4607182418800017408 (Float64.mul s (Float64.sub 4607182418800017408 (Float64.sub x (Float64.ofInt (Flt.toInt Float64.truncOf x)))))))
  else if (Flt.toInt Float64.truncOf x).fmod 6 = 3 then (Float64.mul v (Float64.sub 4607182418800017408 s), Float64.mul v (Float64.sub 4607182418800017408 (Float64.mul s (Float64.sub x (Float64.ofInt (Flt.toInt Float64.truncOf x))))), v)
  else if (Flt.toInt Float64.truncOf x).fmod 6 = 4 then (Float64.mul v (Float64.sub 4607182418800017408 (Float64.mul s (Float64.sub 4607182418800017408 (Float64.sub x (Float64.ofInt (Flt.toInt Float64.truncOf x)))))), Float64.mul v (Float64.sub 4607182418800017408 s), v)
  else (v, Float64.mul v (Float64.sub 4607182418800017408 s), Float64.mul v (Float64.sub 4607182418800017408 (Float64.mul s (Float64.sub x (Float64.ofInt (Flt.toInt Float64.truncOf x))))))
noncomputable def unhsvF (h s v : UInt64) : UInt64 × UInt64 × UInt64 :=
  if (Float64.cmp s 0 == some .eq) = true then (v, v, v) else sixF (Float64.mul h 4618441417868443648) s v
noncomputable def m2F (l s : UInt64) : UInt64 :=
  if (Float64.cmp l 4602678819172646912 == some .lt || Float64.cmp l 4602678819172646912 == some .eq) = true then Float64.mul l (Float64.add 4607182418800017408 s)
  else Float64.sub (Float64.add l s) (Float64.mul l s)
noncomputable def unhlsF (h l s : UInt64) : UInt64 × UInt64 × UInt64 :=
  if (Float64.cmp s 0 == some .eq) = true then (l, l, l) else
    (vF (Float64.sub (Float64.mul 4611686018427387904 l) (m2F l s)) (m2F l s) (Float64.add h 4599676419421066581),
     vF (Float64.sub (Float64.mul 4611686018427387904 l) (m2F l s)) (m2F l s) h,
     vF (Float64.sub (Float64.mul 4611686018427387904 l) (m2F l s)) (m2F l s) (Float64.sub h 4599676419421066581))
noncomputable abbrev q512 (x : Int) : UInt64 := Float64.ofFrac (decide (x < 0) != decide ((512 : Int) < 0)) x.natAbs (Int.natAbs 512)
end Mine
end

section
open PySem PySem.W PyProof.Rows PySem.Calls
namespace Mine
section
variable {prog : Program} {w : World} {A₀ A : Around} {s : Shared} {base h₀ : Heap} {outer : List Env} {L : Addr} {m : Str → Option Value} {env : Env} {K : Frag}
  {p : Program} {loose : List Str} {mean : ExcName → Option Value} {mg mb : Str → Option Value}
  {R : Result → Shared → Prop} {name : Str} {params : Arguments} {body : List Stmt} {scope : Scope} {doc pm cdv oc : Value} {od : Option Addr} {osl : Array (Option Value)} {f : Addr} {args : List Value} {binds : List (Str × Value)}
/-- a def with captured names, entered over the whole heap as it stands: nothing that stood is changed -/
theorem enterC (B : Below A₀ base outer h₀) (F : Fr h₀ L s.heap m) (X₀ : K.In h₀) (T : Top p loose mean mg mb h₀) (hA : A.frames = some (env :: outer)) (hf : env.frame = some L) (hke : env.scope.kind = .function)
    (ho : K.lookup f = some ⟨oc, od, .func (docDef name params body scope pm cdv doc), osl⟩) (hcd : codeIn K cdv name = true) (hroom : A.depth < recursionLimit)
    (hbind : bindArgs (docDef name params body scope pm cdv doc) ⟨args, []⟩ = pure binds) (hkind : (binds.all fun y => scope.names.lookup y.1 == some .local || scope.names.lookup y.1 == some .cell) = true)
    (hnd : ((cellsFrom 0 scope.names []).map (·.1)).Nodup)
    (h : ∀ L' h₁ tk cells, Fr s.heap L' h₁ (bindL (envOfC name scope L' f cdv).kindOf binds fun _ => none) → News s.heap L' h₁ cells →
      CellsAre (bindC (envOfC name scope L' f cdv).kindOf binds fun _ => none) (cellsFrom (L' + 1) scope.names []) cells → Below A base (env :: outer) s.heap → K.In s.heap → Top p loose mean mg mb s.heap → L' = s.heap.objs.size →
      wpAny (model prog w) (A.deeper (envOfC name scope L' f cdv)) (execs body (envOfC name scope L' f cdv))
        (fun fl s' => R (.ok (.ret (match fl with | .ret v => v | _ => .none))) s') (fun _ _ => False) { s with heap := h₁, toks := tk })
    (hco : scope.isCoroutine = false) (hgen : scope.isGenerator = false) (hk : scope.kind = .function) : codeAny (model prog w) A (.call (.ref f) ⟨args, []⟩) R s := by
  obtain ⟨FG, BG, st, _⟩ := groundX (R := R) B F (News.nil (h₀ := h₀) (L := L)) hA hf hke
  have st' : h₀.StaysIn s.heap := st
  refine call_cellsN_ret hroom ((X₀.keeps F.keep) _ _ ho) rfl (T.nolimit.keeps F.keep) (codeRec_of (X₀.keeps F.keep) hcd) hbind (kindsX hkind _) hnd (fun h₁ tk cells F' N' Y => ?_) hco hgen hk
  exact h _ h₁ tk cells F' N' Y BG (X₀.keeps st') (T.keeps st') rfl
end
end Mine
namespace Mine
section
variable {prog : Program} {w : World} {A₀ A : Around} {s : Shared} {base h₀ : Heap} {outer : List Env} {L : Addr} {m : Str → Option Value} {env : Env} {K : Frag}
  {p : Program} {loose : List Str} {mean : ExcName → Option Value} {mg mb : Str → Option Value}
  {R : Result → Shared → Prop} {name : Str} {params : Arguments} {body : List Stmt} {scope : Scope} {doc pm cdv oc : Value} {od : Option Addr} {osl : Array (Option Value)} {f : Addr} {args : Args} {binds : List (Str × Value)}
/-- a def without captured names, entered over the whole heap as it stands -/
theorem enterP (B : Below A₀ base outer h₀) (F : Fr h₀ L s.heap m) (X₀ : K.In h₀) (T : Top p loose mean mg mb h₀) (hA : A.frames = some (env :: outer)) (hf : env.frame = some L) (hke : env.scope.kind = .function)
    (ho : K.lookup f = some ⟨oc, od, .func (docDef name params body scope pm cdv doc), osl⟩) (hcd : codeIn K cdv name = true) (hroom : A.depth < recursionLimit)
    (hbind : BindsTo s (docDef name params body scope pm cdv doc) args binds) (hloc : ∀ y ∈ binds, scope.names.lookup y.1 = some .local)
    (h : ∀ L' h₁ tk, Fr s.heap L' h₁ (fun y => binds.reverse.lookup y) → Below A base (env :: outer) s.heap → K.In s.heap → Top p loose mean mg mb s.heap → L' = s.heap.objs.size →
      wpAny (model prog w) (A.deeper (envOf name scope L' f cdv)) (execs body (envOf name scope L' f cdv))
        (fun fl s' => R (.ok (.ret (match fl with | .ret v => v | _ => .none))) s') (fun _ _ => False) { s with heap := h₁, toks := tk })
    (hco : scope.isCoroutine = false) (hgen : scope.isGenerator = false) (hk : scope.kind = .function) (hcell : ∀ x ∈ scope.names, x.2 ≠ .cell) : codeAny (model prog w) A (.call (.ref f) args) R s := by
  obtain ⟨FG, BG, st, _⟩ := groundX (R := R) B F (News.nil (h₀ := h₀) (L := L)) hA hf hke
  have st' : h₀.StaysIn s.heap := st
  refine codeAny_call_def (fd := docDef name params body scope pm cdv doc) (body := body) (binds := binds) hroom ((X₀.keeps F.keep) _ _ ho) rfl (T.nolimit.keeps F.keep) (codeRec_of (X₀.keeps F.keep) hcd) rfl hbind hcell hloc (fun h₁ hns hk₁ => ?_) hco hgen hk
  exact wpAny_mono (h _ h₁ _ ⟨hns, hk₁, Nat.le_refl _⟩ BG (X₀.keeps st') (T.keeps st') rfl) (fun _ _ x => x) fun _ _ x => x.elim
end
end Mine
end

section
open PySem PySem.W PyProof.Rows
namespace Mine
theorem fillC : PySem.Challenge.rw_ta0002_01 = PySem.Challenge.rw_ta0002_01 ∧ hd.heap_39 = hd.heap_39 := by
  k_fill
  exact ⟨rfl, rfl⟩
theorem if_t {c : Prop} {_ : Decidable c} {P Q : Prop} (h : c) (k : P) : if c then P else Q := by rw [if_pos h]; exact k
theorem if_f {c : Prop} {_ : Decidable c} {P Q : Prop} (h : ¬ c) (k : Q) : if c then P else Q := by rw [if_neg h]; exact k
set_option compiler.extract_closed false
local macro_rules | `(tactic| walk_at $k:str) => if ["call builtin:max", "call builtin:min", "call ref"].contains k.getString then `(tactic| (k_here; refine StopD.mk ?_)) else Lean.Macro.throwUnsupported
section
variable {w : World} {mean : ExcName → Option Value} {mg mb : Str → Option Value} {dp un : Nat} {gd : Option (List Code)} {cn : Str} {cs : Scope} {a : Addr} {ccd : Value} {cl : List (Str × Addr)} {outer : List Env} {A₀ : Around} {base h₀ : Heap} {L : Addr} {m : Str → Option Value} {s : Shared} {Q E : Value → Shared → Prop} {news : List (Addr × Obj)}
set_option maxRecDepth 100000 in
set_option maxHeartbeats 8000000 in
theorem v_call
  (B : Below A₀ base outer h₀) (F : Fr h₀ L s.heap m) (KX : (hd.heap_39 w.params).In h₀) (N : News h₀ L s.heap news) (T : Top hd.view_39 (looseW hd.view_39 LS) mean mg mb h₀) (hk : cs.kind = .function)
  (hdp : dp + 1 < recursionLimit) (hun : un + 8 < cLine) {m1 m2 hue : UInt64} {t1 t2 t3 : Tok}
  (hret : ∀ r t h' tk', vF m1 m2 hue = r → Fr h₀ L h' m → News h₀ L h' news → Q (.float r t) { s with heap := h', toks := tk' }) :
  wpAny (model PR w) (ktrTop dp un gd cn cs L a ccd cl outer) (call (.ref 35) [.float m1 t1, .float m2 t2, .float hue t3]) Q E s := by
  w_top off
  refine wpAny_call ?_
  k_dflt cell_enter
  k_steps
  all_goals (first
    | (refine' hret _ _ _ _ ?e ?f ?n; (case n => k_asm); (case f => k_asm); (case e => (unfold vF; simp only [*, if_true, if_false, Bool.false_eq_true])))
    | skip)
end

section
variable {w : World} {mean : ExcName → Option Value} {mg mb : Str → Option Value} {dp un : Nat} {gd : Option (List Code)} {cn : Str} {cs : Scope} {a : Addr} {ccd : Value} {cl : List (Str × Addr)} {outer : List Env} {A₀ : Around} {base h₀ : Heap} {L : Addr} {m : Str → Option Value} {s : Shared} {Q E : Value → Shared → Prop} {news : List (Addr × Obj)}
set_option maxRecDepth 100000 in
set_option maxHeartbeats 8000000 in
theorem rgb_to_hsv_call 
  (B : Below A₀ base outer h₀) (F : Fr h₀ L s.heap m) (KX : (hd.heap_39 w.params).In h₀) (N : News h₀ L s.heap news) (T : Top hd.view_39 (looseW hd.view_39 LS) mean mg mb h₀) (hk : cs.kind = .function)
  (hdp : dp + 1 < recursionLimit) (hun : un + 8 < cLine) {r g b : UInt64} {t1 t2 t3 : Tok}
  (hz : (Float64.cmp (fmin3 r g b) (fmax3 r g b) == some .eq) = false → Float64.isZero (fmax3 r g b) = false ∧ Float64.isZero (Float64.sub (fmax3 r g b) (fmin3 r g b)) = false)
  (hret : ∀ D x y z u1 u2 u3 c h' tk', hsvF r g b = (x, y, z) → Fr h₀ L h' m → News h₀ L h' ((D, tup3 (.float x u1) (.float y u2) (.float z u3) c) :: news) → (∀ p ∈ news, p.1 < D) → Q (.ref D) { s with heap := h', toks := tk' }) :
  wpAny (model PR w) (ktrTop dp un gd cn cs L a ccd cl outer) (call (.ref 42) [.float r t1, .float g t2, .float b t3]) Q E s := by
  w_top off
  refine wpAny_call ?_
  k_dflt cell_enter
  k_steps
  refine StopD.out ?_; (k_dflt (refine' max3_float ?k1 ?k2 ?k3 ?_; (case k1 => with_unfolding_all rfl); (case k2 => k_asm); (case k3 => k_asm); k_whole)); intro h' tk' r' F' N'; (try dsimp only); (try k_fold)
  k_steps
  refine StopD.out ?_; (k_dflt (refine' min3_float ?k1 ?k2 ?k3 ?_; (case k1 => with_unfolding_all rfl); (case k2 => k_asm); (case k3 => k_asm); k_whole)); intro h' tk' r' F' N'; (try dsimp only); (try k_fold)
  k_steps
  all_goals (first
    | (refine' hret _ _ _ _ _ _ _ _ _ _ ?e ?f ?n ?l; (case n => k_asm); (case f => k_asm); (case l => k_asm); (case e => (unfold hsvF hueF; simp only [*, if_true, if_false, Bool.false_eq_true])))
    | (exfalso; have hz' := hz (by assumption); simp_all)
    | skip)
end

section
variable {w : World} {mean : ExcName → Option Value} {mg mb : Str → Option Value} {dp un : Nat} {gd : Option (List Code)} {cn : Str} {cs : Scope} {a : Addr} {ccd : Value} {cl : List (Str × Addr)} {outer : List Env} {A₀ : Around} {base h₀ : Heap} {L : Addr} {m : Str → Option Value} {s : Shared} {Q E : Value → Shared → Prop} {news : List (Addr × Obj)}
set_option maxRecDepth 100000 in
set_option maxHeartbeats 8000000 in
theorem rgb_to_hls_call
  (B : Below A₀ base outer h₀) (F : Fr h₀ L s.heap m) (KX : (hd.heap_39 w.params).In h₀) (N : News h₀ L s.heap news) (T : Top hd.view_39 (looseW hd.view_39 LS) mean mg mb h₀) (hk : cs.kind = .function)
  (hdp : dp + 1 < recursionLimit) (hun : un + 8 < cLine) {r g b : UInt64} {t1 t2 t3 : Tok}
  (hz : (Float64.cmp (fmin3 r g b) (fmax3 r g b) == some .eq) = false → Float64.isZero (Float64.add (fmax3 r g b) (fmin3 r g b)) = false ∧ Float64.isZero (Float64.sub (fmax3 r g b) (fmin3 r g b)) = false ∧ Float64.isZero (Float64.sub (Float64.sub 4611686018427387904 (fmax3 r g b)) (fmin3 r g b)) = false)
  (hret : ∀ D x y z u1 u2 u3 c h' tk', hlsF r g b = (x, y, z) → Fr h₀ L h' m → News h₀ L h' ((D, tup3 (.float x u1) (.float y u2) (.float z u3) c) :: news) → (∀ p ∈ news, p.1 < D) → Q (.ref D) { s with heap := h', toks := tk' }) :
  wpAny (model PR w) (ktrTop dp un gd cn cs L a ccd cl outer) (call (.ref 21) [.float r t1, .float g t2, .float b t3]) Q E s := by
  w_top off
  refine wpAny_call ?_
  k_dflt cell_enter
  k_steps
  refine StopD.out ?_; (k_dflt (refine' max3_float ?k1 ?k2 ?k3 ?_; (case k1 => with_unfolding_all rfl); (case k2 => k_asm); (case k3 => k_asm); k_whole)); intro h' tk' r' F' N'; (try dsimp only); (try k_fold)
  k_steps
  refine StopD.out ?_; (k_dflt (refine' min3_float ?k1 ?k2 ?k3 ?_; (case k1 => with_unfolding_all rfl); (case k2 => k_asm); (case k3 => k_asm); k_whole)); intro h' tk' r' F' N'; (try dsimp only); (try k_fold)
  k_steps
  all_goals (first
    | (refine' hret _ _ _ _ _ _ _ _ _ _ ?e ?f ?n ?l; (case n => k_asm); (case f => k_asm); (case l => k_asm); (case e => (unfold hlsF hueF; simp only [*, if_true, if_false, Bool.false_eq_true])))
    | (exfalso; have hz' := hz (by assumption); simp_all; done)
    | skip)
end

section
variable {w : World} {mean : ExcName → Option Value} {mg mb : Str → Option Value} {dp un : Nat} {gd : Option (List Code)} {cn : Str} {cs : Scope} {a : Addr} {ccd : Value} {cl : List (Str × Addr)} {outer : List Env} {A₀ : Around} {base h₀ : Heap} {L : Addr} {m : Str → Option Value} {s : Shared} {Q E : Value → Shared → Prop} {news : List (Addr × Obj)}
set_option maxRecDepth 100000 in
set_option maxHeartbeats 8000000 in
theorem hsv_to_rgb_call
  (B : Below A₀ base outer h₀) (F : Fr h₀ L s.heap m) (KX : (hd.heap_39 w.params).In h₀) (N : News h₀ L s.heap news) (T : Top hd.view_39 (looseW hd.view_39 LS) mean mg mb h₀) (hk : cs.kind = .function)
  (hdp : dp + 1 < recursionLimit) (hun : un + 8 < cLine) {h s' v : UInt64} {t1 t2 t3 : Tok}
  (hz : (Float64.cmp s' 0 == some .eq) = false → Float64.isNaN (Float64.mul h 4618441417868443648) = false ∧ Float64.isInf (Float64.mul h 4618441417868443648) = false ∧ (Flt.toInt Float64.truncOf (Float64.mul h 4618441417868443648)).natAbs < 2 ^ 1024 - 2 ^ 970)
  (hret : ∀ D x y z u1 u2 u3 c h' tk', unhsvF h s' v = (x, y, z) → Fr h₀ L h' m → News h₀ L h' ((D, tup3 (.float x u1) (.float y u2) (.float z u3) c) :: news) → (∀ p ∈ news, p.1 < D) → Q (.ref D) { s with heap := h', toks := tk' }) :
  wpAny (model PR w) (ktrTop dp un gd cn cs L a ccd cl outer) (call (.ref 49) [.float h t1, .float s' t2, .float v t3]) Q E s := by
  w_top off
  refine wpAny_call ?_
  k_dflt cell_enter
  k_steps
  all_goals (first
    | (refine' hret _ _ _ _ _ _ _ _ _ _ ?e ?f ?n ?l; (case n => k_asm); (case f => k_asm); (case l => k_asm); (case e => (unfold unhsvF sixF; simp only [*, if_true, if_false, Bool.false_eq_true, Int.reduceEq])))
    | (exfalso; have hz' := hz (by assumption); simp_all; done)
    | (exfalso; exact absurd (hz (by assumption)).2.2 (Nat.not_lt.mpr (by assumption)))
    | (exfalso; have h6 := Int.fmod_lt_of_pos (Flt.toInt Float64.truncOf (Float64.mul h 4618441417868443648)) (b := 6) (by decide); have h0 := Int.fmod_nonneg_of_pos (Flt.toInt Float64.truncOf (Float64.mul h 4618441417868443648)) (b := 6) (by decide); omega)
    | skip)
end

section
variable {w : World} {mean : ExcName → Option Value} {mg mb : Str → Option Value} {dp un : Nat} {gd : Option (List Code)} {cn : Str} {cs : Scope} {a : Addr} {ccd : Value} {cl : List (Str × Addr)} {outer : List Env} {A₀ : Around} {base h₀ : Heap} {L : Addr} {m : Str → Option Value} {s : Shared} {Q E : Value → Shared → Prop} {news : List (Addr × Obj)}
set_option maxRecDepth 100000 in
set_option maxHeartbeats 8000000 in
theorem hls_to_rgb_call
  (B : Below A₀ base outer h₀) (F : Fr h₀ L s.heap m) (KX : (hd.heap_39 w.params).In h₀) (N : News h₀ L s.heap news) (T : Top hd.view_39 (looseW hd.view_39 LS) mean mg mb h₀) (hk : cs.kind = .function)
  (hdp : dp + 2 < recursionLimit) (hun : un + 16 < cLine) {h l s' : UInt64} {t1 t2 t3 : Tok}
  (hret : ∀ D x y z u1 u2 u3 c h' tk', unhlsF h l s' = (x, y, z) → Fr h₀ L h' m → News h₀ L h' ((D, tup3 (.float x u1) (.float y u2) (.float z u3) c) :: news) → (∀ p ∈ news, p.1 < D) → Q (.ref D) { s with heap := h', toks := tk' }) :
  wpAny (model PR w) (ktrTop dp un gd cn cs L a ccd cl outer) (call (.ref 28) [.float h t1, .float l t2, .float s' t3]) Q E s := by
  w_top off
  refine wpAny_call ?_
  k_dflt cell_enter
  k_steps
  iterate 3 all_goals (first | (refine StopD.out ?_; (k_dflt (refine' v_call ?k1 ?k2 ?k3 ?k4 ?k5 ?kK ?kd ?ku ?_; (case k1 => k_asm); (case k2 => k_asm); (case k3 => k_asm); (case k4 => k_asm); (case k5 => k_asm); (case kK => first | exact rfl | assumption); (case kd => ktr_room); (case ku => ktr_units); k_whole)); intro r9 t9 h9 tk9 e9 F9 N9; (try dsimp only); (try k_fold); k_steps) | skip)
  all_goals (first
    | (refine' hret _ _ _ _ _ _ _ _ _ _ ?e ?f ?n ?l; (case n => k_asm); (case f => k_asm); (case l => k_asm); (case e => (unfold unhlsF m2F; simp only [*, if_true, if_false, Bool.false_eq_true])))
    | skip)
end

section
variable {w : World} {mean : ExcName → Option Value} {mg mb : Str → Option Value} {dp un : Nat} {gd : Option (List Code)} {cn : Str} {cs : Scope} {a : Addr} {ccd : Value} {cl : List (Str × Addr)} {outer : List Env} {A₀ : Around} {base h₀ : Heap} {L : Addr} {m : Str → Option Value} {s : Shared} {Q E : Value → Shared → Prop} {news : List (Addr × Obj)}
set_option maxRecDepth 100000 in
set_option maxHeartbeats 8000000 in
theorem rgb_to_hsv_ints
  (B : Below A₀ base outer h₀) (F : Fr h₀ L s.heap m) (KX : (hd.heap_39 w.params).In h₀) (N : News h₀ L s.heap news) (T : Top hd.view_39 (looseW hd.view_39 LS) mean mg mb h₀) (hk : cs.kind = .function)
  (hdp : dp + 1 < recursionLimit) (hun : un + 8 < cLine) {t1 t2 t3 : Tok}
  (hret : ∀ D x y z u1 c h' tk', x = 4595172819793696085 → Fr h₀ L h' m → News h₀ L h' ((D, tup3 (.float x u1) y z c) :: news) → (∀ p ∈ news, p.1 < D) → Q (.ref D) { s with heap := h', toks := tk' }) :
  wpAny (model PR w) (ktrTop dp un gd cn cs L a ccd cl outer) (call (.ref 42) [.int 1 t1, .int 1 t2, .int 0 t3]) Q E s := by
  w_top off
  refine wpAny_call ?_
  k_dflt cell_enter
  k_steps
  refine StopD.out ?_; (k_dflt (refine' max3_110 ?k1 ?k2 ?k3 ?_; (case k1 => with_unfolding_all rfl); (case k2 => k_asm); (case k3 => k_asm); k_whole)); intro h' tk' r' F' N'; (try dsimp only); (try k_fold)
  k_steps
  refine StopD.out ?_; (k_dflt (refine' min3_110 ?k1 ?k2 ?k3 ?_; (case k1 => with_unfolding_all rfl); (case k2 => k_asm); (case k3 => k_asm); k_whole)); intro h' tk' r' F' N'; (try dsimp only); (try k_fold)
  repeat' (first | (with_reducible refine if_t (by decide +kernel) ?_) | (with_reducible refine if_f (by decide +kernel) ?_) | (k_unfold; (try dsimp only)) | (k_end; wrow_close) | walk1 | (dsimp only; walk1) | (leave1; walk_say "STEP leave1"; try dsimp only) | fail "no step")
  all_goals (first
    | (refine' hret _ _ _ _ _ _ _ _ ?e ?f ?n ?l; (case n => k_asm); (case f => k_asm); (case l => k_asm); (case e => decide +kernel))
    | skip)
set_option maxRecDepth 100000 in
set_option maxHeartbeats 8000000 in
theorem rgb_to_hls_ints
  (B : Below A₀ base outer h₀) (F : Fr h₀ L s.heap m) (KX : (hd.heap_39 w.params).In h₀) (N : News h₀ L s.heap news) (T : Top hd.view_39 (looseW hd.view_39 LS) mean mg mb h₀) (hk : cs.kind = .function)
  (hdp : dp + 1 < recursionLimit) (hun : un + 8 < cLine) {t1 t2 t3 : Tok}
  (hret : ∀ D x y z u1 c h' tk', x = 4595172819793696085 → Fr h₀ L h' m → News h₀ L h' ((D, tup3 (.float x u1) y z c) :: news) → (∀ p ∈ news, p.1 < D) → Q (.ref D) { s with heap := h', toks := tk' }) :
  wpAny (model PR w) (ktrTop dp un gd cn cs L a ccd cl outer) (call (.ref 21) [.int 1 t1, .int 1 t2, .int 0 t3]) Q E s := by
  w_top off
  refine wpAny_call ?_
  k_dflt cell_enter
  k_steps
  refine StopD.out ?_; (k_dflt (refine' max3_110 ?k1 ?k2 ?k3 ?_; (case k1 => with_unfolding_all rfl); (case k2 => k_asm); (case k3 => k_asm); k_whole)); intro h' tk' r' F' N'; (try dsimp only); (try k_fold)
  k_steps
  refine StopD.out ?_; (k_dflt (refine' min3_110 ?k1 ?k2 ?k3 ?_; (case k1 => with_unfolding_all rfl); (case k2 => k_asm); (case k3 => k_asm); k_whole)); intro h' tk' r' F' N'; (try dsimp only); (try k_fold)
  repeat' (first | (with_reducible refine if_t (by decide +kernel) ?_) | (with_reducible refine if_f (by decide +kernel) ?_) | (k_unfold; (try dsimp only)) | (k_end; wrow_close) | walk1 | (dsimp only; walk1) | (leave1; walk_say "STEP leave1"; try dsimp only) | fail "no step")
  all_goals (first
    | (refine' hret _ _ _ _ _ _ _ _ ?e ?f ?n ?l; (case n => k_asm); (case f => k_asm); (case l => k_asm); (case e => decide +kernel))
    | skip)
end
end Mine
end

section
open PySem PySem.W PyProof.Rows PySem.Calls PyProof.Rows.LCg
namespace Mine
/-- what stood stands, but for some addresses -/
def Keep (ex : Addr → Prop) (h h' : Heap) : Prop := ∀ b o, ¬ ex b → h.get? b = some o → h'.get? b = some o
/-- objects that the later heap has and the earlier one had not -/
def Fresh (h h' : Heap) (own : List (Addr × Obj)) : Prop := ∀ p ∈ own, h'.get? p.1 = some p.2 ∧ h.get? p.1 = none
section
variable {prog : Program} {w : World} {A : Around} {E : Value → Shared → Prop} {s : Shared} {env : Env}
theorem grow_block {target elt iter : Expr} {scope : Scope} {cl : List (Str × Addr)} {pos : Pos} {s₂ : Shared} {I : Addr} {fp wr : List Addr} {n : Nat} {P Md : Nat → Value → Heap → Prop} {St : Nat → Heap → Prop}
    {RR : Value → Addr → Result → Shared → Prop} (R : Nat → Value → List (Addr × Obj) → Prop)
    (W : KTurns prog w A target I fp wr n P Md St) (hsz : n ≤ sizeLine) (hcell : ∀ y ∈ scope.names, y.2 ≠ .cell) (hkind : scope.kind = .function) (hst : St 0 s₂.heap) (hfp : ∀ b ∈ fp, b < s₂.heap.objs.size)
    (hlive : ∀ i h, St i h → ∀ b ∈ wr, ∃ o, h.get? b = some o)
    (hself : ∀ s₃ : Shared, ∀ Q E, (∀ b o, s₂.heap.get? b = some o → s₃.heap.get? b = some o) → Q (.ref I) s₃ → wpAny (model prog w) A (pyIter (.ref I)) Q E s₃)
    (turn : ∀ i v C h tk m₂ (E' : Value → Shared → Prop), i < n → P i v h → h.Ns C m₂ → s₂.heap.objs.size ≤ C → Keep (· ∈ wr) s₂.heap h →
      wpAny (model prog w) A (assign target (compEnvC scope cl C env) v) (fun _ s' => wpAny (model prog w) A (eval elt (compEnvC scope cl C env)) (fun y s'' => ∃ h' tk' own m', s'' = { s₂ with heap := h', toks := tk' } ∧
        Keep (· = C) h h' ∧ h'.Ns C m' ∧ Fresh h h' own ∧ R i y own) E' s') E' { s₂ with heap := h, toks := tk })
    (done : ∀ D C h tk m' ys, ys.length = n → (∀ i y, ys[i]? = some y → ∃ own, R i y own ∧ Fresh s₂.heap h own ∧ ∀ p ∈ own, p.1 ≠ C) → Keep (· ∈ wr) s₂.heap h → h.get? D = some (lst ys) → s₂.heap.get? D = none → h.Ns C m' → s₂.heap.get? C = none → C ≠ D →
      RR (.ref D) C (.ok .next) { s₂ with heap := h, toks := tk }) :
    wpAny (model prog w) A (newList []) (fun acc s₃ => wpAny (model prog w) A (newFunctionEnv scope env.globals cl [] env.qual none .none (some env)) (fun cenv s₄ =>
      codeAny (model prog w) A (.compStart (.ListComp elt [⟨target, iter, [], 0⟩] scope pos) 0 (.ref I) acc { cenv with scope := relabel scope env }) (RR acc cenv.locals) s₄) E s₃) E s₂ := by
  refine wpAny_newObj_type (wpAny_newFunctionEnv hcell (by intro y hy; simp at hy) (fun h₁ hns₁ hsb₁ => ?_) hkind)
  dsimp only at hns₁ hsb₁ ⊢
  generalize hH2 : s₂.heap.push { cls := .type "list", dict := none, data := .seq ([] : List Value).toArray } = H2 at hns₁ hsb₁ ⊢
  have hC : H2.objs.size = s₂.heap.objs.size + 1 := by rw [← hH2, Heap.size_push]
  have hDC : s₂.heap.objs.size ≠ H2.objs.size := by rw [hC]; exact Nat.ne_of_lt (Nat.lt_succ_self _)
  have fresh : ∀ a, s₂.heap.objs.size ≤ a → s₂.heap.get? a = none := fun a ha => Heap.get?_none_of_le ha
  have hD₀ := fresh s₂.heap.objs.size (Nat.le_refl _)
  have hC₀ := fresh H2.objs.size (by rw [hC]; exact Nat.le_succ _)
  have hCge : s₂.heap.objs.size ≤ H2.objs.size := by rw [hC]; exact Nat.le_succ _
  have low : ∀ b o, s₂.heap.get? b = some o → b ≠ H2.objs.size ∧ b ≠ s₂.heap.objs.size := fun b o e => by
    have h := Heap.lt_size e
    exact ⟨by rw [hC]; exact Nat.ne_of_lt (Nat.lt_succ_of_lt h), Nat.ne_of_lt h⟩
  have old' : ∀ b o, s₂.heap.get? b = some o → h₁.get? b = some o := fun b o e => hsb₁.extBut b o (low b o e).1 (Heap.get?_push_of_some _ (hH2 ▸ Heap.get?_push_of_some _ e))
  have old : Keep (· ∈ wr) s₂.heap h₁ := fun b o _ e => old' b o e
  have hacc : h₁.get? s₂.heap.objs.size = some (lst []) := hsb₁.extBut _ _ hDC (Heap.get?_push_of_some _ (hH2 ▸ Heap.get?_push_size _ rfl))
  have hDf : s₂.heap.objs.size ∉ fp := fun hm => Nat.lt_irrefl _ (hfp _ hm)
  have hCf : H2.objs.size ∉ fp := fun hm => by have := hfp _ hm; rw [hC] at this; exact Nat.lt_irrefl _ (Nat.lt_of_succ_lt this)
  have hst₁ : St 0 h₁ := W.frame _ _ _ hst fun b _ o e => old' b o e
  generalize H2.objs.size = C at *
  generalize hd : s₂.heap.objs.size = D at hDC hD₀ hacc hDf low hCge ⊢
  have loop : ∀ s₃ : Shared, s₃ = { s₂ with heap := h₁, toks := s₂.toks + ([] : List (Str × Value)).length } →
      codeAny (model prog w) A (.compLoop (.ListComp elt [⟨target, iter, [], 0⟩] scope pos) 0 (.ref I) (.ref D) (compEnvC scope cl C env)) (RR (.ref D) C) s₃ := by
    rintro s₃ rfl
    refine kcp_loop
      (fun k s' => ∃ h' tk i ys m', s' = { s₂ with heap := h', toks := tk } ∧ i ≤ n ∧ k = n + 1 - i ∧ ys.length = i ∧ St i h' ∧ h'.Ns C m' ∧ h'.get? D = some (lst ys) ∧ Keep (· ∈ wr) s₂.heap h' ∧
        ∀ j y, ys[j]? = some y → ∃ own, R j y own ∧ Fresh s₂.heap h' own ∧ ∀ p ∈ own, p.1 ≠ C ∧ p.1 ≠ D ∧ p.1 ∉ wr) ?_ (n + 1)
      ⟨h₁, _, 0, [], _, rfl, Nat.zero_le _, rfl, rfl, hst₁, hns₁, hacc, old, fun j y e => by simp at e⟩
    rintro k s' ⟨h', tk, i, ys, m', rfl, hi, rfl, hyl, hst', hn', hD', kp', hR'⟩
    have hDw : D ∉ wr := fun h => hDf (W.sub _ h)
    have hCw : C ∉ wr := fun h => hCf (W.sub _ h)
    by_cases hlt : i < n
    · refine W.item i _ _ _ hlt hst' fun v h₂ tk₂ hMd hk₂ => ?_
      refine W.go i v _ _ _ hMd fun h₃ hP hst₃ hk₃ => ?_
      have kk : ∀ b o, b ∉ wr → h'.get? b = some o → h₃.get? b = some o := fun b o hb e => hk₃ b o hb (hk₂ b o hb e)
      have hn₃ : h₃.Ns C m' := hn'.at' fun o e => kk C o hCw e
      have hD₃ : h₃.get? D = some (lst ys) := kk D _ hDw hD'
      have kp₃ : Keep (· ∈ wr) s₂.heap h₃ := fun b o hb e => kk b o hb (kp' b o hb e)
      refine wpAny_mono (turn i v C h₃ tk₂ m' _ hlt hP hn₃ (hd ▸ hCge) kp₃) (fun _ s₄ h₄ => wpAny_mono h₄ (fun y s₅ h₅ => ?_) fun _ _ e => e) fun _ _ e => e
      obtain ⟨h₅, tk₅, own, m₅, rfl, kp₅, hn₅, fr₅, r₅⟩ := h₅
      have hD₅ : h₅.get? D = some (lst ys) := kp₅ D _ hDC hD₃
      refine append_at (hsz := by show ys.toArray.size ≤ sizeLine; rw [List.size_toArray, hyl]; exact Nat.le_trans hi hsz) hD₅ fun h₆ hs₆ hD₆ => ?_
      have up₆ : ∀ b o, b ≠ C → b ≠ D → h₃.get? b = some o → h₆.get? b = some o := fun b o h1 h2 e => hs₆.extBut b o h2 (kp₅ b o h1 e)
      have ownNe : ∀ p ∈ own, p.1 ≠ C ∧ p.1 ≠ D ∧ p.1 ∉ wr := fun p hp => by
        have z := (fr₅ p hp).2
        refine ⟨fun q => ?_, fun q => ?_, fun q => ?_⟩
        · rw [q] at z; obtain ⟨o, _, _, e, _⟩ := hn₃; rw [z] at e; cases e
        · rw [q, hD₃] at z; cases z
        · obtain ⟨o, e⟩ := hlive _ _ hst₃ _ q; rw [z] at e; cases e
      refine ⟨n + 1 - (i + 1), by omega, h₆, tk₅, i + 1, ys ++ [y], m₅, rfl, hlt, rfl, by rw [List.length_append, List.length_singleton, hyl], ?_, hn₅.sameBut hs₆ (Ne.symm hDC), hD₆.trans (congrArg some (lst_snoc ys y)), ?_, ?_⟩
      · refine W.frame _ _ _ hst₃ fun b hb o e => up₆ b o (fun q => hCf (q ▸ hb)) (fun q => hDf (q ▸ hb)) e
      · exact fun b o hb e => up₆ b o (low b o e).1 (low b o e).2 (kp₃ b o hb e)
      · intro j z hz
        by_cases hj : j < ys.length
        · rw [List.getElem?_append_left hj] at hz
          obtain ⟨own', r', fr', ne'⟩ := hR' j z hz
          exact ⟨own', r', fun p hp => ⟨up₆ _ _ (ne' p hp).1 (ne' p hp).2.1 (kk _ _ (ne' p hp).2.2 (fr' p hp).1), (fr' p hp).2⟩, ne'⟩
        · have ej : j = ys.length := by
            have := (List.getElem?_eq_some_iff.mp hz).1
            simp at this; omega
          subst ej
          simp at hz
          subst hz
          rw [hyl]
          refine ⟨own, r₅, fun p hp => ⟨hs₆.extBut _ _ (ownNe p hp).2.1 (fr₅ p hp).1, ?_⟩, ownNe⟩
          cases e : s₂.heap.get? p.1 with
          | none => rfl
          | some o =>
            have := kp₃ _ _ (ownNe p hp).2.2 e
            rw [(fr₅ p hp).2] at this; cases this
    · obtain rfl : i = n := Nat.le_antisymm hi (Nat.not_lt.mp hlt)
      refine W.done _ _ _ hst' fun h₂ tk₂ hk₂ => ?_
      refine done D C h₂ tk₂ m' ys hyl (fun j y e => ?_) (fun b o hb e => hk₂ b o hb (kp' b o hb e)) (hk₂ D _ hDw hD') hD₀ (hn'.at' fun o e => hk₂ C o hCw e) hC₀ (Ne.symm hDC)
      obtain ⟨own, r, fr, ne⟩ := hR' j y e
      exact ⟨own, r, fun p hp => ⟨hk₂ _ _ (ne p hp).2.2 (fr p hp).1, (fr p hp).2⟩, fun p hp => (ne p hp).1⟩
  exact codeAny_compStart_list (loop _ rfl) (hself _ _ _ old' (loop _ rfl))
end
end Mine
end

section
open PySem PySem.W PyProof.Rows PySem.Calls PyProof.Rows.LCg
namespace Mine
abbrev Up (h h' : Heap) : Prop := ∀ b o, h.get? b = some o → h'.get? b = some o
section
variable {prog : Program} {w : World} {A : Around} {E : Value → Shared → Prop} {s : Shared} {env : Env}
/-- what an element's evaluation gives: an answer, new objects of its own, all else kept -/
def EltPost (s₁ : Shared) (h : Heap) (C : Addr) (R : Value → List (Addr × Obj) → Prop) (y : Value) (s' : Shared) : Prop :=
  ∃ h' tk' own m', s' = { s₁ with heap := h', toks := tk' } ∧ Keep (· = C) h h' ∧ h'.Ns C m' ∧ Fresh h h' own ∧ R y own
/-- what a comprehension gives -/
def LcDone (s₁ : Shared) (h₁ : Heap) (n : Nat) (R : Nat → Value → List (Addr × Obj) → Prop) (Q : Value → Shared → Prop) : Prop :=
  ∀ D h tk ys, ys.length = n → (∀ i y, ys[i]? = some y → ∃ own, R i y own ∧ Fresh h₁ h own) → Up h₁ h → h.get? D = some (lst ys) → h₁.get? D = none → Q (.ref D) { s₁ with heap := h, toks := tk }
noncomputable abbrev DnTy := Shared → Heap → Nat → (Nat → Value → List (Addr × Obj) → Prop) → Prop
/-- an iterator in hand, its items' evaluation told, and what follows behind the last (Dn) -/
def GrowSrc (prog : Program) (w : World) (A : Around) (env : Env) (target elt : Expr) (scope : Scope) (cl : List (Str × Addr)) (Dn : DnTy) (it : Value) (s₂ : Shared) : Prop :=
  ∃ (I : Addr) (fp wr : List Addr) (n : Nat) (P Md : Nat → Value → Heap → Prop) (St : Nat → Heap → Prop) (R : Nat → Value → List (Addr × Obj) → Prop) (h₁ : Heap),
      it = .ref I ∧ KTurns prog w A target I fp wr n P Md St ∧ n ≤ sizeLine ∧ St 0 s₂.heap ∧ (∀ b ∈ fp, b < s₂.heap.objs.size) ∧ (∀ i h, St i h → ∀ b ∈ wr, ∃ o, h.get? b = some o) ∧
      (∀ s₃ : Shared, ∀ Q E, (∀ b o, s₂.heap.get? b = some o → s₃.heap.get? b = some o) → Q (.ref I) s₃ → wpAny (model prog w) A (pyIter (.ref I)) Q E s₃) ∧
      Up h₁ s₂.heap ∧ h₁.objs.size ≤ s₂.heap.objs.size ∧ (∀ b ∈ wr, h₁.get? b = none) ∧
      (∀ i v C h tk m₂ (E' : Value → Shared → Prop), i < n → P i v h → h.Ns C m₂ → h₁.objs.size ≤ C → Up h₁ h →
        wpAny (model prog w) A (assign target (compEnvC scope cl C env) v) (fun _ s' => wpAny (model prog w) A (eval elt (compEnvC scope cl C env)) (EltPost s₂ h C (R i)) E' s') E' { s₂ with heap := h, toks := tk }) ∧
      Dn s₂ h₁ n R
/-- behind a comprehension whose list is stored in a local at once -/
def LcDoneA (L : Addr) (y : Str) (Q : Flow → Shared → Prop) : DnTy := fun s₁ h₁ n R => ∃ m, h₁.Ns L m ∧
  ∀ D h tk ys, ys.length = n → (∀ i y, ys[i]? = some y → ∃ own, R i y own ∧ Fresh h₁ h own) → (∀ b o, b ≠ L → h₁.get? b = some o → h.get? b = some o) → h.Ns L (fun z => if z = y then some (.ref D) else m z) → h.get? D = some (lst ys) → h₁.get? D = none → Q .next { s₁ with heap := h, toks := tk }
theorem grow_ListComp {target elt iter : Expr} {scope : Scope} {cl : List (Str × Addr)} {pos : Pos} {Q : Value → Shared → Prop}
    (hclos : closureFor scope env = pure cl) (hcell : ∀ y ∈ scope.names, y.2 ≠ .cell) (hkind : scope.kind = .function) (hnames : ∀ y ∈ scope.names, y.2 = .local → scope.names.lookup y.1 = some .local)
    (h : wpAny (model prog w) A (eval iter env) (fun xv s₁ => wpAny (model prog w) A (pyIter xv) (GrowSrc prog w A env target elt scope cl (fun s₂ h₁ n R => LcDone s₂ h₁ n R Q)) E s₁) E s)
    (hs : ∀ x, foldedSetIterable iter env x = pure x) :
    wpAny (model prog w) A (eval (.ListComp elt [⟨target, iter, [], 0⟩] scope pos) env) Q E s := by
  rw [eval_ListComp]
  refine wpAny_comprehension_free (use := none) rfl hs hclos hkind hnames (wpAny_mono h (fun xv s₁ h₁ => wpAny_mono h₁ (fun it s₂ h₂ => ?_) fun _ _ e => e) fun _ _ e => e)
  obtain ⟨I, fp, wr, n, P, Md, St, R, h₁, rfl, W, hsz, hst, hfp, hlive, hself, hup, hup2, hwr, turn, dn⟩ := h₂
  have notw : ∀ b o, h₁.get? b = some o → b ∉ wr := fun b o e hb => by rw [hwr b hb] at e; cases e
  have back : ∀ a, s₂.heap.get? a = none → h₁.get? a = none := fun a e => by
    cases q : h₁.get? a with
    | none => rfl
    | some o => have := hup _ _ q; rw [e] at this; cases this
  refine grow_block R W hsz hcell hkind hst hfp hlive hself (fun i v C h tk m₂ E' hi hP hn hC kp => ?_) (fun D C h tk m' ys hyl hR kp hD hD₀ hn hC₀ hCD => ?_)
  · exact turn i v C h tk m₂ E' hi hP hn (Nat.le_trans hup2 hC) fun b o e => kp b o (notw b o e) (hup b o e)
  · refine ⟨m', hn, fun h' hs' => dn D h' tk ys hyl (fun i y e => ?_) (fun b o e => ?_) (hs'.extBut _ _ (Ne.symm hCD) hD) (back _ hD₀)⟩
    · obtain ⟨own, r, fr, ne⟩ := hR i y e
      exact ⟨own, r, fun p hp => ⟨hs'.extBut _ _ (ne p hp) (fr p hp).1, back _ (fr p hp).2⟩⟩
    · refine hs'.extBut _ _ (fun q => ?_) (kp b o (notw b o e) (hup b o e))
      have := hup _ _ e
      rw [q, hC₀] at this; cases this
theorem grow_Assign {target elt iter : Expr} {scope : Scope} {cl : List (Str × Addr)} {y : Str} {py pos spos : Pos} {Q : Flow → Shared → Prop}
    (hsw : swapsWith (.ListComp elt [⟨target, iter, [], 0⟩] scope pos) (some (.Name y py)) spos.line env = pure true)
    (hclos : closureFor scope env = pure cl) (hcell : ∀ y ∈ scope.names, y.2 ≠ .cell) (hkind : scope.kind = .function) (hnames : ∀ y ∈ scope.names, y.2 = .local → scope.names.lookup y.1 = some .local)
    (hy : env.kindOf y = some .local) (hp : (env.scope.kind == .class || (env.scope.kind == .module && env.locals != env.globals)) = false)
    (h : wpAny (model prog w) A (eval iter env) (fun xv s₁ => wpAny (model prog w) A (pyIter xv) (GrowSrc prog w A env target elt scope cl (LcDoneA env.locals y Q)) E s₁) E s)
    (hs : ∀ x, foldedSetIterable iter env x = pure x) :
    wpAny (model prog w) A (exec (.Assign [.Name y py] (.ListComp elt [⟨target, iter, [], 0⟩] scope pos) spos) env) Q E s := by
  rw [exec_Assign_Name_used _ _ _ _ hsw]
  refine wpAny_bind (wpAny_standAt (wpAny_bind ?_))
  show wpAny _ A (do let _ ← comprehension (.ListComp elt [⟨target, iter, [], 0⟩] scope pos) scope env _ (newList []) false (eval iter env) (some (assign (.Name y py) env))) _ _ s
  refine wpAny_bind (wpAny_mono (wpAny_comprehension_free (use := some (assign (.Name y py) env)) (Q := fun _ s' => Q .next s') rfl hs hclos hkind hnames
    (wpAny_mono h (fun xv s₁ h₁ => wpAny_mono h₁ (fun it s₂ h₂ => ?_) fun _ _ e => e) fun _ _ e => e)) (fun _ s' hq => wpAny_pure (wpAny_pure hq)) fun _ _ e => e)
  obtain ⟨I, fp, wr, n, P, Md, St, R, h₁, rfl, W, hsz, hst, hfp, hlive, hself, hup, hup2, hwr, turn, m, hnm, dn⟩ := h₂
  have notw : ∀ b o, h₁.get? b = some o → b ∉ wr := fun b o e hb => by rw [hwr b hb] at e; cases e
  have back : ∀ a, s₂.heap.get? a = none → h₁.get? a = none := fun a e => by
    cases q : h₁.get? a with
    | none => rfl
    | some o => have := hup _ _ q; rw [e] at this; cases this
  obtain ⟨oL, esL, epL, hoL, rL⟩ := id hnm
  refine grow_block R W hsz hcell hkind hst hfp hlive hself (fun i v C h tk m₂ E' hi hP hn hC kp => ?_) (fun D C h tk m' ys hyl hR kp hD hD₀ hn hC₀ hCD => ?_)
  · exact turn i v C h tk m₂ E' hi hP hn (Nat.le_trans hup2 hC) fun b o e => kp b o (notw b o e) (hup b o e)
  · have hCL : C ≠ env.locals := fun e => by have := hup _ _ hoL; rw [← e, hC₀] at this; cases this
    have hDL : D ≠ env.locals := fun e => by have := hup _ _ hoL; rw [← e, hD₀] at this; cases this
    have hnL : h.Ns env.locals m := hnm.at' fun o e => kp _ o (notw _ o e) (hup _ o e)
    show wpAny _ A (assign (.Name y py) env (.ref D)) _ _ _
    refine wpAny_assign_Name (wpAny_storeName_local hy hnL (fun h₂ hn₂ hs₂ => ?_) hp)
    refine ⟨m', hn.sameBut hs₂ hCL, fun h' hs' => dn D h' _ ys hyl (fun i z e => ?_) (fun b o hb e => ?_) (hn₂.sameBut hs' (Ne.symm hCL)) (hs'.extBut _ _ (Ne.symm hCD) (hs₂.extBut _ _ hDL hD)) (back _ hD₀)⟩
    · obtain ⟨own, r, fr, ne⟩ := hR i z e
      refine ⟨own, r, fun p hp => ⟨hs'.extBut _ _ (ne p hp) (hs₂.extBut _ _ (fun q => ?_) (fr p hp).1), back _ (fr p hp).2⟩⟩
      have := hup _ _ hoL
      rw [← q, (fr p hp).2] at this; cases this
    · refine hs'.extBut _ _ (fun q => ?_) (hs₂.extBut _ _ hb (kp b o (notw b o e) (hup b o e)))
      have := hup _ _ e
      rw [q, hC₀] at this; cases this
end
end Mine
end

section
open PySem PySem.W PyProof.Rows PySem.Calls PyProof.Rows.LCg
namespace Mine
section
variable {prog : Program} {w : World} {A : Around} {E : Value → Shared → Prop} {s : Shared} {env : Env}
theorem fresh_back {h h₂ h' : Heap} {C : Addr} {m : Str → Option Value} {own : List (Addr × Obj)} (hn : h₂.Ns C m) (k : ∀ b o, b ≠ C → h.get? b = some o → h₂.get? b = some o) (f : Fresh h₂ h' own) : Fresh h h' own := fun p hp => ⟨(f p hp).1, by
  have z := (f p hp).2
  by_cases hb : p.1 = C
  · rw [hb] at z; obtain ⟨o, _, _, e, _⟩ := hn; rw [z] at e; cases e
  · cases q : h.get? p.1 with
    | none => rfl
    | some o => have := k _ _ hb q; rw [z] at this; cases this⟩
theorem turn_name {elt : Expr} {x : Str} {px : Pos} {scope : Scope} {cl : List (Str × Addr)} {s₁ : Shared} {h₁ h : Heap} {tk : Nat} {C : Addr} {m₂ : Str → Option Value} {v : Value} {R : Value → List (Addr × Obj) → Prop} {E' : Value → Shared → Prop}
    (hkind : scope.kind = .function) (hx : scope.names.lookup x = some .local) (hCn : h₁.get? C = none) (kp : Up h₁ h) (hn : h.Ns C m₂)
    (turn : ∀ h₂ tk m₃, h₂.Ns C m₃ → m₃ x = some v → Up h₁ h₂ → wpAny (model prog w) A (eval elt (compEnvC scope cl C env)) (EltPost s₁ h₂ C R) E' { s₁ with heap := h₂, toks := tk }) :
    wpAny (model prog w) A (assign (.Name x px) (compEnvC scope cl C env) v) (fun _ s' => wpAny (model prog w) A (eval elt (compEnvC scope cl C env)) (EltPost s₁ h C R) E' s') E' { s₁ with heap := h, toks := tk } := by
  refine wpAny_assign_Name (wpAny_storeName_local (lookup_relabel_local hx) hn (fun h₂ hn₂ hs₂ => ?_) (by simp [compEnvC, relabel, hkind]))
  replace hs₂ : Heap.SameBut C h h₂ := hs₂
  replace hn₂ : h₂.Ns C _ := hn₂
  have kp₂ : Up h₁ h₂ := fun b o e => hs₂.extBut _ _ (fun q => by rw [q, hCn] at e; cases e) (kp b o e)
  refine wpAny_mono (turn h₂ _ _ hn₂ (by simp) kp₂) (fun y s' hy => ?_) fun _ _ e => e
  obtain ⟨h', tk', own, m', e, kp', hn', fr', r'⟩ := hy
  exact ⟨h', tk', own, m', e, fun b o hb e => kp' b o hb (hs₂.extBut b o hb e), hn', fresh_back hn₂ (fun b o hb e => hs₂.extBut b o hb e) fr', r'⟩
theorem turn_pair {elt : Expr} {x z : Str} {px pz tp : Pos} {kk : Nat} {scope : Scope} {cl : List (Str × Addr)} {s₁ : Shared} {h₁ h : Heap} {tk : Nat} {C T : Addr} {m₂ : Str → Option Value} {v u : Value} {R : Value → List (Addr × Obj) → Prop} {E' : Value → Shared → Prop}
    (hh : A.handled = none) (hkind : scope.kind = .function) (hx : scope.names.lookup x = some .local) (hz : scope.names.lookup z = some .local) (hxz : x ≠ z) (hCn : h₁.get? C = none) (kp : Up h₁ h) (hn : h.Ns C m₂) (hT : h.IsTuple T #[v, u])
    (turn : ∀ h₂ tk m₃, h₂.Ns C m₃ → m₃ x = some v → m₃ z = some u → Up h₁ h₂ → wpAny (model prog w) A (eval elt (compEnvC scope cl C env)) (EltPost s₁ h₂ C R) E' { s₁ with heap := h₂, toks := tk }) :
    wpAny (model prog w) A (assign (.Tuple [.Name x px, .Name z pz] kk tp) (compEnvC scope cl C env) (.ref T)) (fun _ s' => wpAny (model prog w) A (eval elt (compEnvC scope cl C env)) (EltPost s₁ h C R) E' s') E' { s₁ with heap := h, toks := tk } := by
  refine kcp_assign hh hT (lookup_relabel_local hx) (lookup_relabel_local hz) (by simp [compEnvC, relabel, hkind]) hn (fun h₂ tk₂ hn₂ k₂ => ?_)
  replace hn₂ : h₂.Ns C _ := hn₂
  replace k₂ : ∀ c o, c ≠ C → h.get? c = some o → h₂.get? c = some o := k₂
  have kp₂ : Up h₁ h₂ := fun b o e => k₂ _ _ (fun q => by rw [q, hCn] at e; cases e) (kp b o e)
  refine wpAny_mono (turn h₂ _ _ hn₂ (by simp [hxz]) (by simp) kp₂) (fun y s' hy => ?_) fun _ _ e => e
  obtain ⟨h', tk', own, m', e, kp', hn', fr', r'⟩ := hy
  exact ⟨h', tk', own, m', e, fun b o hb e => kp' b o hb (k₂ b o hb e), hn', fresh_back hn₂ (fun b o hb e => k₂ b o hb e) fr', r'⟩

/-- [elt for x in LIST] -/
theorem LC_list {elt : Expr} {x : Str} {px : Pos} {scope : Scope} {cl : List (Str × Addr)} {Dn : DnTy} {ax : Addr} {its : Array Value} (R : Nat → Value → List (Addr × Obj) → Prop) (hh : A.handled = none) (hkind : scope.kind = .function) (hx : scope.names.lookup x = some .local)
    (hl : s.heap.IsList ax its) (hsz : its.size ≤ sizeLine)
    (turn : ∀ i v C h tk m₂ (s₁ : Shared) (E' : Value → Shared → Prop), (∃ g, s₁ = { s with heap := g }) → its[i]? = some v → h.Ns C m₂ → m₂ x = some v → s.heap.objs.size ≤ C → Up s.heap h →
        wpAny (model prog w) A (eval elt (compEnvC scope cl C env)) (EltPost s₁ h C (R i)) E' { s₁ with heap := h, toks := tk })
    (dn : ∀ g, Dn { s with heap := g } s.heap its.size R) :
    wpAny (model prog w) A (pyIter (.ref ax)) (GrowSrc prog w A env (.Name x px) elt scope cl Dn) E s := by
  have hlt : ax < s.heap.objs.size := by obtain ⟨_, e, _⟩ := hl; exact Heap.lt_size e
  have up : Up s.heap (s.heap.push { cls := .type "list_iterator", data := .fields #[.ref ax, .int 0 0] }) := fun b o e => Heap.get?_push_of_some _ e
  have W := Walks.list (prog := prog) (w := w) hh s.heap.objs.size ax (Nat.ne_of_lt hlt) its
  refine wpAny_pyIter_list hl ?_
  refine ⟨s.heap.objs.size, _, _, its.size, _, _, _, R, s.heap, rfl, KTurns.ofWalks (target := .Name x px) W (fun i v s Q E _ hQ => wpAny_of_eq rfl hQ), hsz, ?_, ?_, ?_, ?_, up, by rw [Heap.size_push]; exact Nat.le_succ _, ?_, ?_, ?_⟩
  · exact ⟨⟨_, Heap.get?_push_size _ rfl, rfl, rfl⟩, hl.push _⟩
  · intro b hb
    show b < (s.heap.push _).objs.size
    rw [Heap.size_push]
    rcases List.mem_cons.mp hb with rfl | hb
    · exact Nat.lt_succ_self _
    · rw [List.mem_singleton.mp hb]; exact Nat.lt_succ_of_lt hlt
  · intro i h st b hb
    rw [List.mem_singleton.mp hb]
    obtain ⟨o, e, _⟩ := st.1
    exact ⟨o, e⟩
  · intro s₃ Q' E' k hq
    refine W.self 0 _ _ _ ⟨?_, hl.at fun o e => k _ _ (up _ _ e)⟩ hq
    exact ⟨_, k _ _ (Heap.get?_push_size _ rfl), rfl, rfl⟩
  · intro b hb
    rw [List.mem_singleton.mp hb]
    exact Heap.get?_none_of_le (Nat.le_refl _)
  · intro i v C h tk m₂ E' hi hP hn hC₀ kp
    exact turn_name hkind hx (Heap.get?_none_of_le hC₀) kp hn fun h₂ tk₂ m₃ hn₂ hm₃ kp₂ => turn i v C h₂ tk₂ m₃ _ E' ⟨_, rfl⟩ hP hn₂ hm₃ hC₀ kp₂
  · exact dn _

/-- [elt for x in RANGE] -/
theorem LC_range {elt : Expr} {x : Str} {px : Pos} {scope : Scope} {cl : List (Str × Addr)} {Dn : DnTy} {r : Addr} {a b c : Int} {t u v : Tok} {n : Nat} (R : Nat → Value → List (Addr × Obj) → Prop) (hh : A.handled = none) (hkind : scope.kind = .function) (hx : scope.names.lookup x = some .local)
    (hr : IsRange s.heap r a b c t u v) (hsm : Builtin.Range.small a b c = true) (hn : Builtin.Range.rangeSize a b c = ((n : Nat) : Int)) (hsz : n ≤ sizeLine)
    (turn : ∀ i C h tk m₂ t (s₁ : Shared) (E' : Value → Shared → Prop), (∃ g, s₁ = { s with heap := g }) → i < n → h.Ns C m₂ → m₂ x = some (.int (a + i * c) t) → s.heap.objs.size ≤ C → Up s.heap h →
        wpAny (model prog w) A (eval elt (compEnvC scope cl C env)) (EltPost s₁ h C (R i)) E' { s₁ with heap := h, toks := tk })
    (dn : ∀ g, Dn { s with heap := g } s.heap n R) :
    wpAny (model prog w) A (pyIter (.ref r)) (GrowSrc prog w A env (.Name x px) elt scope cl Dn) E s := by
  refine wpAny_pyIter_range hr hsm ?_
  have up : Up s.heap (s.heap.push { cls := .type "range_iterator", data := .fields #[rawInt a, rawInt (Builtin.Range.rangeSize a b c), rawInt c] }) := fun b o e => Heap.get?_push_of_some _ e
  have W := Walks.range (prog := prog) (w := w) hh s.heap.objs.size a c n
  have st0 : IsRangeIter (s.heap.push { cls := .type "range_iterator", data := .fields #[rawInt a, rawInt (Builtin.Range.rangeSize a b c), rawInt c] }) s.heap.objs.size (a + ((0 : Nat) : Int) * c) ((n : Int) - ((0 : Nat) : Int)) c := by
    unfold IsRangeIter
    rw [hn]
    simpa using Heap.get?_push_size _ rfl
  refine ⟨s.heap.objs.size, _, _, n, _, _, _, R, s.heap, rfl, KTurns.ofWalks (target := .Name x px) W (fun i v s Q E _ hQ => wpAny_of_eq rfl hQ), hsz, st0, ?_, ?_, ?_, up, by rw [Heap.size_push]; exact Nat.le_succ _, ?_, ?_, ?_⟩
  · intro b hb
    show b < (s.heap.push _).objs.size
    rw [Heap.size_push, List.mem_singleton.mp hb]
    exact Nat.lt_succ_self _
  · intro i h st b hb
    rw [List.mem_singleton.mp hb]
    exact ⟨_, st⟩
  · intro s₃ Q' E' k hq
    exact W.self 0 _ _ _ (k _ _ st0) hq
  · intro b hb
    rw [List.mem_singleton.mp hb]
    exact Heap.get?_none_of_le (Nat.le_refl _)
  · rintro i v C h tk m₂ E' hi ⟨t, rfl⟩ hn' hC₀ kp
    exact turn_name hkind hx (Heap.get?_none_of_le hC₀) kp hn' fun h₂ tk₂ m₃ hn₂ hm₃ kp₂ => turn i C h₂ tk₂ m₃ t _ E' ⟨_, rfl⟩ hi hn₂ hm₃ hC₀ kp₂
  · exact dn _

/-- [elt for x, z in zip(LIST, LIST)]: the call of zip itself -/
theorem LC_zip {elt : Expr} {x z : Str} {px pz tp : Pos} {kk : Nat} {scope : Scope} {cl : List (Str × Addr)} {Dn : DnTy} {h₀ : Heap} {l1 l2 : Addr} {xs ys : Array Value} (R : Nat → Value → List (Addr × Obj) → Prop) (hh : A.handled = none) (hkind : scope.kind = .function)
    (hx : scope.names.lookup x = some .local) (hz : scope.names.lookup z = some .local) (hxz : x ≠ z)
    (hl1 : h₀.IsList l1 xs) (hl2 : h₀.IsList l2 ys) (hsz : min xs.size ys.size ≤ sizeLine)
    (hz' : IsZip s.heap (h₀.objs.size + 4) (h₀.objs.size + 2) (h₀.objs.size + 3) .none) (hTI : IsPair s.heap (h₀.objs.size + 2) (.ref h₀.objs.size) (.ref (h₀.objs.size + 1))) (hTO : IsPair s.heap (h₀.objs.size + 3) .none .none) (hi1 : s.heap.IsListIter h₀.objs.size l1 0) (hi2 : s.heap.IsListIter (h₀.objs.size + 1) l2 0)
    (hsize : s.heap.objs.size = h₀.objs.size + 5) (up : Up h₀ s.heap)
    (turn : ∀ i v u C h tk m₂ (E' : Value → Shared → Prop), xs[i]? = some v → ys[i]? = some u → h.Ns C m₂ → m₂ x = some v → m₂ z = some u → h₀.objs.size ≤ C → Up h₀ h →
        wpAny (model prog w) A (eval elt (compEnvC scope cl C env)) (EltPost s h C (R i)) E' { s with heap := h, toks := tk })
    (dn : Dn s h₀ (min xs.size ys.size) R) :
    wpAny (model prog w) A (pyIter (.ref (h₀.objs.size + 4))) (GrowSrc prog w A env (.Tuple [.Name x px, .Name z pz] kk tp) elt scope cl Dn) E s := by
  have hlt1 : l1 < h₀.objs.size := by obtain ⟨_, e, _⟩ := hl1; exact Heap.lt_size e
  have hlt2 : l2 < h₀.objs.size := by obtain ⟨_, e, _⟩ := hl2; exact Heap.lt_size e
  have D : ZipApart (h₀.objs.size + 4) (h₀.objs.size + 2) (h₀.objs.size + 3) h₀.objs.size (h₀.objs.size + 1) l1 l2 := ktu_apart _ _ _ hlt1 hlt2
  refine wpAny_pyIter_zip hz' ?_
  have W := KTurns.ofWalksU (prog := prog) (w := w) (elts := [.Name x px, .Name z pz]) (k := kk) (pos := tp) (WalksT.zip2 hh _ _ _ _ _ _ _ D xs ys).toU
  have st0 := (And.intro hz' (And.intro hTI (And.intro (⟨.none, .none, hTO⟩ : ∃ a b, IsPair s.heap (h₀.objs.size + 3) a b) (And.intro hi1 (And.intro hi2 (And.intro (hl1.at fun o e => up _ _ e) (hl2.at fun o e => up _ _ e)))))))
  refine ⟨h₀.objs.size + 4, _, _, min xs.size ys.size, _, _, _, R, h₀, rfl, W, hsz, st0, ?_, ?_, ?_, up, by rw [hsize]; exact Nat.le_add_right _ _, ?_, ?_, ?_⟩
  · intro b hb
    rw [hsize]
    have h1 : (l1 : Nat) < h₀.objs.size := hlt1
    have h2 : (l2 : Nat) < h₀.objs.size := hlt2
    simp only [List.mem_cons, List.not_mem_nil, or_false] at hb
    rcases hb with rfl | rfl | rfl | rfl | rfl | rfl | rfl <;> first | exact Nat.lt_add_right 5 (by assumption) | (refine ltN ?_; omega)
  · rintro i h ⟨a1, a2, ⟨_, _, a3⟩, ⟨o4, a4, _⟩, ⟨o5, a5, _⟩, _⟩ b hb
    simp only [List.mem_cons, List.not_mem_nil, or_false] at hb
    rcases hb with rfl | rfl | rfl | rfl
    · exact ⟨_, a1⟩
    · exact ⟨_, a3⟩
    · exact ⟨_, a4⟩
    · exact ⟨_, a5⟩
  · intro s₃ Q' E' k hq
    exact wpAny_pyIter_zip (k _ _ hz') hq
  · intro b hb
    simp only [List.mem_cons, List.not_mem_nil, or_false] at hb
    rcases hb with rfl | rfl | rfl | rfl <;> (refine Heap.get?_none_of_le ?_; first | exact Nat.le_add_right _ _ | exact Nat.le_refl _)
  · rintro i v C h tk m₂ E' hi ⟨T, vals, rfl, ⟨x', y', hx', hy', rfl⟩, hT⟩ hn' hC₀ kp
    exact turn_pair hh hkind hx hz hxz (Heap.get?_none_of_le hC₀) kp hn' hT fun h₂ tk₂ m₃ hn₂ hm₃ hm₄ kp₂ => turn i x' y' C h₂ tk₂ m₃ E' hx' hy' hn₂ hm₃ hm₄ hC₀ kp₂
  · exact dn
end
end Mine
end

section
open PySem PySem.W PyProof.Rows PySem.Calls PyProof.Rows.LCg
namespace Mine
section
variable {prog : Program} {w : World} {A : Around} {E : Value → Shared → Prop} {s : Shared} {env : Env}
theorem list3 {P : Nat → Value → Prop} {ys : List Value} (hl : ys.length = 3) (h : ∀ i y, ys[i]? = some y → P i y) : ∃ a b c, ys = [a, b, c] ∧ P 0 a ∧ P 1 b ∧ P 2 c := by
  have g : ∀ i, i < 3 → ∃ y, ys[i]? = some y := fun i hi => ⟨_, List.getElem?_eq_getElem (hl ▸ hi)⟩
  obtain ⟨a, ea⟩ := g 0 (by decide)
  obtain ⟨b, eb⟩ := g 1 (by decide)
  obtain ⟨c, ec⟩ := g 2 (by decide)
  refine ⟨a, b, c, List.ext_getElem? fun i => ?_, h 0 a ea, h 1 b eb, h 2 c ec⟩
  rcases i with _ | _ | _ | i
  · exact ea
  · exact eb
  · exact ec
  · exact (List.getElem?_eq_none (hl ▸ Nat.le_add_left 3 i)).trans (List.getElem?_eq_none (Nat.le_add_left 3 i)).symm
theorem three_at {α : Type} {a b c v : α} {i : Nat} (h : #[a, b, c][i]? = some v) : (i = 0 ∧ v = a) ∨ (i = 1 ∧ v = b) ∨ (i = 2 ∧ v = c) := by
  match i with
  | 0 => left; simpa using h.symm
  | 1 => right; left; simpa using h.symm
  | 2 => right; right; simpa using h.symm
  | n + 3 => simp at h
/-- the items of a list of three ints -/
def R3 (a b c : Int) (i : Nat) (y : Value) (_ : List (Addr × Obj)) : Prop := ∃ t, y = .int ((#[a, b, c] : Array Int).getD i 0) t
theorem done3 {s₁ : Shared} {h₁ : Heap} {a b c : Int} {Q : Value → Shared → Prop} (hs : ∃ g, s₁ = { s with heap := g })
    (h : ∀ D v0 v1 v2 h tk, Up h₁ h → h.get? D = some (lst [.int a v0, .int b v1, .int c v2]) → h₁.get? D = none → Q (.ref D) { s with heap := h, toks := tk }) : LcDone s₁ h₁ 3 (R3 a b c) Q := by
  obtain ⟨g, rfl⟩ := hs
  intro D h' tk ys hl hR up hD hD0
  obtain ⟨a, b, c, rfl, ⟨_, ⟨v0, rfl⟩, _⟩, ⟨_, ⟨v1, rfl⟩, _⟩, ⟨_, ⟨v2, rfl⟩, _⟩⟩ := list3 hl hR
  exact h D v0 v1 v2 h' tk up hD hD0
theorem done3A {s₁ : Shared} {h₁ : Heap} {L : Addr} {y : Str} {m : Str → Option Value} {a b c : Int} {Q : Flow → Shared → Prop} (hs : ∃ g, s₁ = { s with heap := g }) (hn : h₁.Ns L m)
    (h : ∀ D v0 v1 v2 h tk, (∀ b o, b ≠ L → h₁.get? b = some o → h.get? b = some o) → h.Ns L (fun z => if z = y then some (.ref D) else m z) → h.get? D = some (lst [.int a v0, .int b v1, .int c v2]) → h₁.get? D = none → Q .next { s with heap := h, toks := tk }) : LcDoneA L y Q s₁ h₁ 3 (R3 a b c) := by
  obtain ⟨g, rfl⟩ := hs
  refine ⟨m, hn, ?_⟩
  intro D h' tk ys hl hR up hN hD hD0
  obtain ⟨a, b, c, rfl, ⟨_, ⟨v0, rfl⟩, _⟩, ⟨_, ⟨v1, rfl⟩, _⟩, ⟨_, ⟨v2, rfl⟩, _⟩⟩ := list3 hl hR
  exact h D v0 v1 v2 h' tk up hN hD hD0
/-- [x + z for x, z in zip(LIST, LIST)]: the call of zip -/
theorem zip_src {x z : Str} {px pz qx qz qq tp : Pos} {kk : Nat} {scope : Scope} {cl : List (Str × Addr)} {Dn : DnTy} {l1 l2 : Addr} {x0 x1 x2 y0 y1 y2 : Int} {t0 t1 t2 u0 u1 u2 : Tok} (hh : A.handled = none) (hkind : scope.kind = .function)
    (hx : scope.names.lookup x = some .local) (hz : scope.names.lookup z = some .local) (hxz : x ≠ z) (hdx : (x == ("__debug__" : Str)) = false) (hdz : (z == ("__debug__" : Str)) = false)
    (hl1 : s.heap.IsList l1 #[.int x0 t0, .int x1 t1, .int x2 t2]) (hl2 : s.heap.IsList l2 #[.int y0 u0, .int y1 u1, .int y2 u2])
    (dn : ∀ s₁ : Shared, (∃ g, s₁ = { s with heap := g }) → Dn s₁ s.heap 3 (R3 (x0 + y0) (x1 + y1) (x2 + y2))) :
    wpAny (model prog w) A (call (.type "zip") [.ref l1, .ref l2]) (fun xv s₁ => wpAny (model prog w) A (pyIter xv) (GrowSrc prog w A env (.Tuple [.Name x px, .Name z pz] kk tp) (.BinOp (.Name x qx) .Add (.Name z qz) qq) scope cl Dn) E s₁) E s := by
  refine call_zip_2 hl1 hl2 fun h' hz' hTI hTO hi1 hi2 hsz hk => ?_
  refine LC_zip (h₀ := s.heap) (R3 (x0 + y0) (x1 + y1) (x2 + y2)) hh hkind hx hz hxz hl1 hl2 (Nat.le_of_ble_eq_true rfl) hz' hTI hTO hi1 hi2 hsz hk ?_ (dn _ ⟨_, rfl⟩)
  intro i v u C h tk m₂ E' hv hu hn hm1 hm2 hC kp
  refine wpAny_BinOp (ldVarK hn hm1 (ldVarK hn hm2 ?_ hkind (lookup_relabel_local hz) hdz) hkind (lookup_relabel_local hx) hdx)
  have key : ∃ a b ta tb, v = .int a ta ∧ u = .int b tb ∧ (#[x0 + y0, x1 + y1, x2 + y2] : Array Int).getD i 0 = a + b := by
    rcases three_at hv with ⟨rfl, rfl⟩ | ⟨rfl, rfl⟩ | ⟨rfl, rfl⟩ <;> (rcases three_at hu with ⟨e, rfl⟩ | ⟨e, rfl⟩ | ⟨e, rfl⟩ <;> first | (exact ⟨_, _, _, _, rfl, rfl, rfl⟩) | cases e)
  obtain ⟨a, b, ta, tb, rfl, rfl, e⟩ := key
  exact PyProof.Rows.add_int ⟨h, _, [], m₂, rfl, fun _ _ _ e => e, hn, (show Fresh h h [] from fun p hp => by cases hp), _, by rw [e]⟩
end
end Mine
end

section
open PySem PySem.W PyProof.Rows PySem.Calls PyProof.Rows.LCg
namespace Mine
noncomputable def rotP : Nat → Int × Int × Int → Int × Int × Int
  | 0, p => p
  | n + 1, p => (-(rotP n p).2.1, -(rotP n p).2.2, -(rotP n p).1)
noncomputable abbrev ints3 (p : Int × Int × Int) (t u v : Tok) : List Value := [.int p.1 t, .int p.2.1 u, .int p.2.2 v]
section
variable {prog : Program} {w : World} {A : Around} {E : Value → Shared → Prop} {s : Shared} {env : Env} {h₀ : Heap} {L : Addr} {m : Str → Option Value}
theorem neg_item {y : Str} {p2 p3 p4 p5 : Pos} {k : Nat} {i : Int} {p : Addr} {l : List Value} {v : Int} {t : Tok} {Q : Value → Shared → Prop}
    (hk : env.scope.kind = .function) (hl : env.kindOf y = some .local) (hd : (y == ("__debug__" : Str)) = false) (hn : s.heap.Ns env.locals m) (hy : m y = some (.ref p)) (hL : s.heap.IsList p l.toArray) (h0 : 0 ≤ i) (hi : i < 2 ^ 63) (hv : l[i.toNat]? = some (.int v t))
    (h : ∀ u tk, Q (.int (-v) u) { s with toks := tk }) :
    wpAny (model prog w) A (eval (.UnaryOp .USub (.Subscript (.Name y p2) (.Constant (.int i) k p3) p4) p5) env) Q E s := by
  refine UnaryOp_ (Subscript_ (wpAny_Name (wpAny_loadName_local hk hl hn hy (wpAny_Constant_int ?_)) hd))
  exact item_listL (s := { s with toks := s.toks + 1 }) hL h0 hi hv (PyProof.Rows.neg_int (h _ _)) (by with_unfolding_all rfl) (by intro _; with_unfolding_all rfl)
theorem rot_body {y : Str} {q1 q2 q3 q4 q5 r1 r2 r3 r4 s1 s2 s3 s4 q6 q7 : Pos} {k1 k2 k3 : Nat} {p : Addr} {c : Int × Int × Int} {t0 t1 t2 : Tok} {Q : Flow → Shared → Prop}
    (hk : env.scope.kind = .function) (hl : env.kindOf y = some .local) (hd : (y == ("__debug__" : Str)) = false) (hsw : (env.scope.kind == .class || (env.scope.kind == .module && env.locals != env.globals)) = false)
    (F : Fr h₀ env.locals s.heap m) (hy : m y = some (.ref p)) (hL : s.heap.IsList p (ints3 c t0 t1 t2).toArray)
    (h : ∀ p' u0 u1 u2 h' tk, Fr h₀ env.locals h' (fun z => if z = y then some (.ref p') else m z) → (∀ b o, b ≠ env.locals → s.heap.get? b = some o → h'.get? b = some o) → h'.get? p' = some { cls := .type "list", data := .seq (ints3 (-c.2.1, -c.2.2, -c.1) u0 u1 u2).toArray } → s.heap.get? p' = none →
      Q .next { s with heap := h', toks := tk }) :
    wpAny (model prog w) A (execs [.Assign [.Name y q1] (.List [.UnaryOp .USub (.Subscript (.Name y q2) (.Constant (.int 1) k1 q3) q4) q5, .UnaryOp .USub (.Subscript (.Name y r1) (.Constant (.int 2) k2 r2) r3) r4, .UnaryOp .USub (.Subscript (.Name y s1) (.Constant (.int 0) k3 s2) s3) s4] q6) q7] env) Q E s := by
  refine wpAny_execs_cons (wpAny_Assign_Name (List_ (spliced_more ?_)))
  refine neg_item hk hl hd F.ns hy hL (by decide) (by decide) rfl fun u0 tk0 => spliced_more ?_
  refine neg_item (s := { s with toks := tk0 }) hk hl hd F.ns hy hL (by decide) (by decide) rfl fun u1 tk1 => spliced_more ?_
  refine neg_item (s := { s with toks := tk1 }) hk hl hd F.ns hy hL (by decide) (by decide) rfl fun u2 tk2 => spliced_none ?_
  refine wpAny_newObj_type ?_ (Nat.le_of_ble_eq_true rfl)
  have up : ∀ b o, s.heap.get? b = some o → (s.heap.push { cls := .type "list", data := .seq ([Value.int (-c.2.1) u0, .int (-c.2.2) u1, .int (-c.1) u2] : List Value).toArray }).get? b = some o := fun b o e => Heap.get?_push_of_some _ e
  have hnew : s.heap.get? s.heap.objs.size = none := Heap.get?_none_of_le (Nat.le_refl _)
  refine wpAny_storeName_local hl (F.keeps up).ns (fun h' hn' hs' => ?_) hsw
  refine wpAny_execs_nil (h s.heap.objs.size u0 u1 u2 h' _ ((F.keeps up).set hn' hs') (fun b o hb e => hs'.extBut b o hb (up b o e)) (hs'.extBut _ _ ?_ (Heap.get?_push_size _ rfl)) hnew)
  exact Ne.symm (Nat.ne_of_lt F.ns.lt)
theorem rot_iter {x y : Str} {q1 q2 q3 q4 q5 r1 r2 r3 r4 s1 s2 s3 s4 q6 q7 : Pos} {k1 k2 k3 : Nat} {p r : Addr} {c : Int × Int × Int} {t0 t1 t2 ta tb tc : Tok} {b : Int} {Q : Flow → Shared → Prop} {news : List (Addr × Obj)}
    (hh : A.handled = none) (hk : env.scope.kind = .function) (hl : env.kindOf y = some .local) (hd : (y == ("__debug__" : Str)) = false) (hsw : (env.scope.kind == .class || (env.scope.kind == .module && env.locals != env.globals)) = false) (hxy : y ≠ x)
    (hr : IsRange s.heap r 0 b 1 ta tb tc) (hb0 : 0 ≤ b) (hb1 : b < 1000)
    (F : Fr h₀ env.locals s.heap m) (N : News h₀ env.locals s.heap news) (hy : m y = some (.ref p)) (hL : s.heap.IsList p (ints3 c t0 t1 t2).toArray) (hpL : p ≠ env.locals)
    (h : ∀ (u : Str → Option Value) p' u0 u1 u2 h' tk, Fr h₀ env.locals h' (fun z => if z = x then u z else if z = y then some (.ref p') else m z) → News h₀ env.locals h' news → h'.IsList p' (ints3 (rotP b.toNat c) u0 u1 u2).toArray → p' ≠ env.locals → Q .next { s with heap := h', toks := tk }) :
    wpAny (model prog w) A (pyIter (.ref r)) (fun it s₂ => LoopAtV prog w A h₀ env x
      [.Assign [.Name y q1] (.List [.UnaryOp .USub (.Subscript (.Name y q2) (.Constant (.int 1) k1 q3) q4) q5, .UnaryOp .USub (.Subscript (.Name y r1) (.Constant (.int 2) k2 r2) r3) r4, .UnaryOp .USub (.Subscript (.Name y s1) (.Constant (.int 0) k3 s2) s3) s4] q6) q7] Q E it s₂) E s := by
  have hn : Builtin.Range.rangeSize 0 b 1 = ((b.toNat : Nat) : Int) := by rw [rangeSize_nat]; congr 2; omega
  refine wpAny_pyIter_range hr (small_one (by decide) (by decide) (by omega) (by omega)) ?_
  generalize hg : s.heap.push { cls := .type "range_iterator", data := .fields #[rawInt 0, rawInt (Builtin.Range.rangeSize 0 b 1), rawInt 1] } = g
  have up : ∀ a o, s.heap.get? a = some o → g.get? a = some o := fun a o e => hg ▸ Heap.get?_push_of_some _ e
  generalize hI : s.heap.objs.size = I
  have hInew : s.heap.get? I = none := Heap.get?_none_of_le (Nat.le_of_eq hI)
  have hIL : env.locals ≠ I := fun e => by obtain ⟨o, _, _, q, _⟩ := F.ns; rw [e, hInew] at q; cases q
  have hI₀ : h₀.get? I = none := by
    cases e : h₀.get? I with
    | none => rfl
    | some o => have := F.keep _ _ e; rw [hInew] at this; cases this
  have st0 : IsRangeIter g I (0 + ((0 : Nat) : Int) * 1) (((b.toNat : Nat) : Int) - ((0 : Nat) : Int)) 1 := by
    unfold IsRangeIter
    rw [← hg, ← hI, hn]
    simpa using Heap.get?_push_size _ rfl
  let Src : Addr → List Value → List (Addr × Obj) → Prop := fun p' l nw => SrcAt h₀ p' l.toArray nw
  have srcList : ∀ {p' l nw h'} {m' : Str → Option Value}, Src p' l nw → Fr h₀ env.locals h' m' → News h₀ env.locals h' nw → h'.IsList p' l.toArray := fun {p' l nw h' m'} x F' N' => SrcAt.list x F'.keep N'
  obtain ⟨news0, hsub0, N0, hsrc0⟩ : ∃ news0, (∀ q ∈ news, q ∈ news0) ∧ News h₀ env.locals s.heap news0 ∧ Src p (ints3 c t0 t1 t2) news0 := by
    obtain ⟨o, ho, hoc, k, hod⟩ := hL
    cases e : h₀.get? p with
    | some o' =>
      have := F.keep _ _ e
      rw [ho] at this
      cases this
      exact ⟨news, fun _ h => h, N, .inl ⟨o, e, hoc, k, hod⟩⟩
    | none =>
      refine ⟨(p, o) :: news, fun q hq => List.mem_cons_of_mem _ hq, fun q hq => ?_, .inr ⟨o, List.mem_cons_self, hoc, k, hod⟩⟩
      rcases List.mem_cons.mp hq with rfl | hq
      · exact ⟨ho, hpL, e⟩
      · exact N q hq
  refine ⟨I, [I], [I], b.toNat, _, _, m, news0, fun i m₁ nw => (∀ q ∈ news, q ∈ nw) ∧ (∀ z, z ≠ x → z ≠ y → m₁ z = m z) ∧ ∃ p' u0 u1 u2, m₁ y = some (.ref p') ∧ p' ≠ env.locals ∧ Src p' (ints3 (rotP i c) u0 u1 u2) nw,
    rfl, Walks.range hh I 0 1 b.toNat, ?_, ?_, ?_, st0, F.keeps up, fun q hq => ⟨up _ _ (N0 q hq).1, (N0 q hq).2⟩, ⟨hsub0, fun _ _ _ => rfl, p, t0, t1, t2, hy, hpL, hsrc0⟩, ?_, ?_⟩
  · intro e; exact hIL (List.mem_singleton.mp e)
  · intro q hq; rw [List.mem_singleton.mp hq]; exact hI₀
  · intro q hq e
    have := (N0 q hq).1
    rw [List.mem_singleton.mp e, hInew] at this; cases this
  · rintro i v m₁ nw s₁ own ⟨h', tk, rfl⟩ hin hP ⟨hsub, hm, p', u0, u1, u2, hmy, hp'L, hsrc⟩ hoff _ _ _ hst F₁ N₁
    have hL' := srcList hsrc F₁ (fun q hq => N₁ q (List.mem_append_right _ hq))
    refine rot_body hk hl hd hsw F₁ (by simp [hxy, hmy]) hL' fun p'' v0 v1 v2 h'' tk'' F₂ kp hp'' hfr => LoopStepV.next (LoopStepU.intro (news₂ := (p'', ({ cls := .type "list", data := .seq (ints3 (-(rotP i c).2.1, -(rotP i c).2.2, -(rotP i c).1) v0 v1 v2).toArray } : Obj)) :: nw) F₂ ?_ ?_ ⟨?_, ?_, p'', v0, v1, v2, by simp, ?_, .inr ⟨_, List.mem_cons_self, rfl, 0, rfl⟩⟩)
    · intro q hq
      have key : q = (p'', ({ cls := .type "list", data := .seq (ints3 (-(rotP i c).2.1, -(rotP i c).2.2, -(rotP i c).1) v0 v1 v2).toArray } : Obj)) ∨ q ∈ own ++ nw := by
        rcases List.mem_append.mp hq with h1 | h1
        · exact .inr (List.mem_append_left _ h1)
        · rcases List.mem_cons.mp h1 with h2 | h2
          · exact .inl h2
          · exact .inr (List.mem_append_right _ h2)
      rcases key with rfl | h1
      · refine ⟨hp'', fun e => ?_, ?_⟩
        · obtain ⟨o, _, _, q, _⟩ := F₁.ns; rw [← e] at q; rw [hfr] at q; cases q
        · cases e : h₀.get? p'' with
          | none => rfl
          | some o => have := F₁.keep _ _ e; rw [hfr] at this; cases this
      · exact ⟨kp _ _ (N₁ q h1).2.1 (N₁ q h1).1, (N₁ q h1).2⟩
    · intro q hq
      rcases List.mem_cons.mp hq with rfl | hq
      · intro e
        have e' : p'' = I := List.mem_singleton.mp e
        have hst' : h'.get? I = some _ := hst
        rw [← e', hfr] at hst'; cases hst'
      · exact hoff q hq
    · exact fun q hq => List.mem_cons_of_mem _ (hsub q hq)
    · intro z hzx hzy
      simp only [if_neg hzy, if_neg hzx]
      exact hm z hzx hzy
    · intro e; obtain ⟨o, _, _, q, _⟩ := F₁.ns; rw [← e] at q; rw [hfr] at q; cases q
  · rintro h' tk m' nw F' N' _ ⟨hsub, hm, p', u0, u1, u2, hmy, hp'L, hsrc⟩
    refine h m' p' u0 u1 u2 h' tk ?_ (fun q hq => N' q (hsub q hq)) (srcList hsrc F' N') hp'L
    have e : (fun z => if z = x then m' z else if z = y then some (Value.ref p') else m z) = m' := by
      funext z
      by_cases h1 : z = x
      · simp [h1]
      · by_cases h2 : z = y
        · simp [h1, h2, hmy, hxy]
        · simp only [if_neg h1, if_neg h2]; exact (hm z h1 h2).symm
    rw [e]; exact F'
end
end Mine
end

section
open PySem PySem.W PyProof.Rows PySem.Calls PyProof.Rows.LCg
namespace Mine
section
variable {prog : Program} {w : World} {A : Around} {E : Value → Shared → Prop} {s : Shared} {env : Env} {h₀ : Heap} {x : Str} {body : List Stmt} {Q : Flow → Shared → Prop}
/-- what a turn gives: all that stood stands but for the frame; some new objects -/
def GNext (h₀ : Heap) (L : Addr) (s : Shared) (h : Heap) (nx : List (Addr × Obj)) (G : (Str → Option Value) → List (Addr × Obj) → Prop) (Q' : Flow → Shared → Prop) : Prop :=
  ∀ h' tk' m' ex, Fr h₀ L h' m' → (∀ b o, b ≠ L → h.get? b = some o → h'.get? b = some o) → Fresh h h' ex → G m' (ex ++ nx) → Q' .next { s with heap := h', toks := tk' }
theorem grow_loop {I : Addr} {fp wr : List Addr} {n : Nat} {P : Nat → Value → Prop} {St : Nat → Heap → Prop} {m₀ : Str → Option Value} {news : List (Addr × Obj)} (G : Nat → (Str → Option Value) → List (Addr × Obj) → Prop)
    (W : Walks prog w A I fp wr n P St) (hLf : env.locals ∉ fp) (hwr : ∀ b ∈ wr, h₀.get? b = none) (hob : ∀ i h, St i h → ∀ b ∈ wr, ∃ o, h.get? b = some o) (hnw : ∀ p ∈ news, p.1 ∉ wr) (hst : St 0 s.heap)
    (F : Fr h₀ env.locals s.heap m₀) (N : News h₀ env.locals s.heap news) (hj : G 0 m₀ news)
    (turn : ∀ i v m₁ nx h tk (Q' : Flow → Shared → Prop), i < n → P i v → G i m₁ nx → Fr h₀ env.locals h (fun y => if y = x then some v else m₁ y) → News h₀ env.locals h nx → GNext h₀ env.locals s h nx (G (i + 1)) Q' →
      wpAny (model prog w) A (execs body env) Q' E { s with heap := h, toks := tk })
    (done : ∀ m₁ nx h tk, G n m₁ nx → Fr h₀ env.locals h m₁ → News h₀ env.locals h nx → Q .next { s with heap := h, toks := tk }) :
    LoopAtV prog w A h₀ env x body Q E (.ref I) s := by
  refine ⟨I, fp, wr, n, P, St, m₀, news, G, rfl, W, hLf, hwr, hnw, hst, F, N, hj, ?_, fun h' tk m' nx F' N' _ hJ => done m' nx h' tk hJ F' N'⟩
  rintro i v m₁ nx s₁ own ⟨h, tk, rfl⟩ hin hP hG hoff hown _ hmem hst' F₁ N₁
  refine turn i v m₁ nx h tk _ hin hP hG F₁ (fun p hp => N₁ p (List.mem_append_right _ hp)) fun h' tk' m' ex F' kp fr hG' => ?_
  have hLh : ∃ o, h.get? env.locals = some o := by obtain ⟨o, _, _, e, _⟩ := F₁.ns; exact ⟨o, e⟩
  have exN : ∀ q ∈ ex, q.1 ≠ env.locals ∧ h₀.get? q.1 = none := fun q hq => by
    have z := (fr q hq).2
    refine ⟨fun e => ?_, ?_⟩
    · obtain ⟨o, e'⟩ := hLh; rw [e] at z; rw [z] at e'; cases e'
    · cases e : h₀.get? q.1 with
      | none => rfl
      | some o => have := F₁.keep _ _ e; rw [z] at this; cases this
  refine LoopStepV.next (LoopStepU.intro (news₂ := ex ++ nx) F' ?_ ?_ hG')
  · intro q hq
    have key : q ∈ ex ∨ q ∈ own ++ nx := by
      rcases List.mem_append.mp hq with h1 | h1
      · exact .inr (List.mem_append_left _ h1)
      · rcases List.mem_append.mp h1 with h2 | h2
        · exact .inl h2
        · exact .inr (List.mem_append_right _ h2)
    rcases key with h1 | h1
    · exact ⟨(fr q h1).1, (exN q h1).1, (exN q h1).2⟩
    · exact ⟨kp _ _ (N₁ q h1).2.1 (N₁ q h1).1, (N₁ q h1).2⟩
  · intro q hq
    rcases List.mem_append.mp hq with h1 | h1
    · intro e
      obtain ⟨o, ho⟩ := hob _ _ hst' _ e
      have z := (fr q h1).2
      dsimp only at ho
      rw [z] at ho; cases ho
    · exact hoff q h1
theorem grow_range {r : Addr} {a₀ b₀ : Int} {t₀ u₀ v₀ : Tok} {n : Nat} {m₀ : Str → Option Value} {news : List (Addr × Obj)} (G : Nat → (Str → Option Value) → List (Addr × Obj) → Prop)
    (hh : A.handled = none) (hr : IsRange s.heap r a₀ b₀ 1 t₀ u₀ v₀) (hsmall : Builtin.Range.small a₀ b₀ 1 = true) (hn : Builtin.Range.rangeSize a₀ b₀ 1 = (n : Int)) (F : Fr h₀ env.locals s.heap m₀) (N : News h₀ env.locals s.heap news) (hj : G 0 m₀ news)
    (turn : ∀ i t m₁ nx h tk (Q' : Flow → Shared → Prop), i < n → G i m₁ nx → Fr h₀ env.locals h (fun y => if y = x then some (.int (a₀ + (i : Int)) t) else m₁ y) → News h₀ env.locals h nx → GNext h₀ env.locals s h nx (G (i + 1)) Q' →
      wpAny (model prog w) A (execs body env) Q' E { s with heap := h, toks := tk })
    (done : ∀ m₁ nx h tk, G n m₁ nx → Fr h₀ env.locals h m₁ → News h₀ env.locals h nx → Q .next { s with heap := h, toks := tk }) :
    wpAny (model prog w) A (pyIter (.ref r)) (fun it s₂ => LoopAtV prog w A h₀ env x body Q E it s₂) E s := by
  refine wpAny_pyIter_range hr hsmall ?_
  have W := Walks.range (prog := prog) (w := w) (A := A) hh s.heap.objs.size a₀ 1 n
  refine grow_loop (s := { s with heap := s.heap.push _ }) G W ?_ ?_ ?_ ?_ (by show IsRangeIter _ _ _ _ _; rw [hn]; simpa using Heap.get?_push_size _ rfl) (F.push _) (fun p hp => ⟨Heap.get?_push_of_some _ (N p hp).1, (N p hp).2⟩) hj ?_ ?_
  · intro hm
    exact absurd F.ns.lt ((List.mem_singleton.mp hm) ▸ Nat.lt_irrefl _)
  · intro b hb
    rw [List.mem_singleton.mp hb]
    exact next_is_new F
  · intro i h hi b hb
    rw [List.mem_singleton.mp hb]
    exact ⟨_, hi⟩
  · intro p hp hI
    exact absurd (Heap.lt_size (N p hp).1) ((List.mem_singleton.mp hI) ▸ Nat.lt_irrefl _)
  · rintro i v m₁ nx h tk Q' hi ⟨t, rfl⟩ hG F₁ N₁ hQ
    have e1 : a₀ + (i : Int) * 1 = a₀ + (i : Int) := by omega
    rw [e1] at F₁
    exact turn i t m₁ nx h tk Q' hi hG F₁ N₁ hQ
  · exact done
end
end Mine
end

section
open PySem PySem.W PyProof.Rows PySem.Calls
namespace Mine
/-- all that stands and stood not before the call: a list of it -/
theorem snapshot {h₀ h : Heap} {L : Addr} {m : Str → Option Value} (F : Fr h₀ L h m) : ∃ sn, News h₀ L h sn ∧ (∀ b o, b ≠ L → h₀.get? b = none → h.get? b = some o → (b, o) ∈ sn) ∧ ∀ h', (∀ b o, h₀.get? b = some o → h'.get? b = some o) → News h₀ L h' sn → ∀ b o, b ≠ L → h.get? b = some o → h'.get? b = some o := by
  let f : Nat → Option (Addr × Obj) := fun b => if b = L then none else match h₀.get? b with | some _ => none | none => (h.get? b).map fun o => (b, o)
  have mem : ∀ b o, b ≠ L → h₀.get? b = none → h.get? b = some o → (b, o) ∈ (List.range h.objs.size).filterMap f := by
    intro b o hb h1 h2
    refine List.mem_filterMap.mpr ⟨b, List.mem_range.mpr (Heap.lt_size h2), ?_⟩
    show (if b = L then none else _) = _
    rw [if_neg hb, h1]; simp [h2]
  refine ⟨(List.range h.objs.size).filterMap f, ?_, mem, ?_⟩
  · intro p hp
    obtain ⟨b, -, hb⟩ := List.mem_filterMap.mp hp
    replace hb : (if b = L then none else match h₀.get? b with | some _ => none | none => (h.get? b).map fun o => (b, o)) = some p := hb
    by_cases hbL : b = L
    · rw [if_pos hbL] at hb; cases hb
    · rw [if_neg hbL] at hb
      cases e : h₀.get? b with
      | some o => rw [e] at hb; cases hb
      | none =>
        rw [e] at hb
        cases e2 : h.get? b with
        | none => rw [e2] at hb; cases hb
        | some o => rw [e2] at hb; cases hb; exact ⟨e2, hbL, e⟩
  · intro h' k N b o hb e
    cases e1 : h₀.get? b with
    | some o' =>
      have := F.keep _ _ e1
      rw [e] at this; cases this
      exact k _ _ e1
    | none => exact (N _ (mem b o hb e1 e)).1
/-- what `_law_due` adds up -/
noncomputable def add3 (p q : Int × Int × Int) : Int × Int × Int := (p.1 + q.1, p.2.1 + q.2.1, p.2.2 + q.2.2)
noncomputable def dueS (cs : Nat → Int × Int × Int) (place left : Int) : Nat → Int × Int × Int
  | 0 => (0, 0, 0)
  | i + 1 => add3 (dueS cs place left i) (rotP ((left * (5 - (0 + (i : Int)))).fmod 6).toNat (cs ((place + (0 + (i : Int))).fmod 6).toNat))
set_option compiler.extract_closed false
local macro_rules | `(tactic| walk_at "eval Name") => `(tactic| (k_here; k_dflt (refine nameX_L (by k_asm) (by (repeat (refine Eq.trans (if_neg (by decide)) ?_)); assumption) ?_ rfl rfl); k_whole))
local macro_rules | `(tactic| walk_at $k:str) => if ["pyIter ref", "exec Assign cons ListComp", "call type:zip"].contains k.getString then `(tactic| (k_here; refine StopD.mk ?_)) else Lean.Macro.throwUnsupported
theorem six_at {α : Type} (f : Nat → α) {j : Nat} (h : j < 6) : [f 0, f 1, f 2, f 3, f 4, f 5][j]? = some (f j) := by
  match j, h with
  | 0, _ => rfl | 1, _ => rfl | 2, _ => rfl | 3, _ => rfl | 4, _ => rfl | 5, _ => rfl
section
variable {w : World} {mean : ExcName → Option Value} {mg mb : Str → Option Value} {dp un : Nat} {gd : Option (List Code)} {cn : Str} {cs : Scope} {a : Addr} {ccd : Value} {cl : List (Str × Addr)} {outer : List Env} {A₀ : Around} {base h₀ : Heap} {L : Addr} {m : Str → Option Value} {s : Shared} {Q E : Value → Shared → Prop} {news : List (Addr × Obj)}
set_option maxRecDepth 100000 in
set_option maxHeartbeats 8000000 in
theorem due_call
  (B : Below A₀ base outer h₀) (F : Fr h₀ L s.heap m) (KX : (hd.heap_39 w.params).In h₀) (T : Top hd.view_39 (looseW hd.view_39 LS) mean mg mb h₀) (hk : cs.kind = .function)
  (hdp : dp + 1 < recursionLimit) (hun : un + 64 < cLine) {ring : Addr} {place left : Int} {t1 t2 : Tok}
  {ra : Nat → Addr} {cz : Nat → Int × Int × Int} (hring : s.heap.IsList ring ([.ref (ra 0), .ref (ra 1), .ref (ra 2), .ref (ra 3), .ref (ra 4), .ref (ra 5)] : List Value).toArray)
  (hrow : ∀ i, i < 6 → ∃ t u v, s.heap.IsList (ra i) (ints3 (cz i) t u v).toArray)
  (hret : ∀ D u1 u2 u3 h' tk', (∀ b o, s.heap.get? b = some o → h'.get? b = some o) → s.heap.get? D = none → h'.IsList D (ints3 (dueS cz place left 6) u1 u2 u3).toArray → Q (.ref D) { s with heap := h', toks := tk' }) :
  wpAny (model PR w) (ktrTop dp un gd cn cs L a ccd cl outer) (call (.ref 59) [.ref ring, .int place t1, .int left t2]) Q E s := by
  w_top off
  refine wpAny_call ?_
  k_dflt (refine' enterP (binds := [(Str.ofString "ring", .ref ring), (Str.ofString "place", .int place t1), (Str.ofString "left", .int left t2)]) ?k1 ?k2 ?k3 ?k5 ?kA ?kF ?kK ?k6 ?k7 ?k8 ?k9 ?kB ?_ ?c2 ?c3 ?c4 ?c5; (case kA => exact rfl); (case kF => exact rfl); (case kK => assumption); (case k1 => k_asm); (case k2 => k_asm); (case k3 => k_asm); (case k5 => k_asm); (case k6 => k_is); (case k7 => k_is); (case k8 => ktr_room); (case k9 => exact BindsTo.of_eq rfl); (case kB => exact locs rfl); (case c2 => exact rfl); (case c3 => exact rfl); (case c4 => exact rfl); (case c5 => decide); k_whole; intro L' h' tk' F' B' X' T' eL'; have N' := News.nil (h₀ := s.heap) (L := L') (h := h'); (try dsimp only); (try k_fold))
  (try clear B F KX T)
  k_steps
  refine StopD.out ?_
  (rename IsRange _ _ _ _ _ _ _ _ => hR); (rename Fr _ _ _ _ => FF); (rename News _ _ _ _ => NN)
  refine grow_range (n := 6) (fun i m nx => m (Str.ofString "ring") = some (.ref ring) ∧ m (Str.ofString "place") = some (.int place t1) ∧ m (Str.ofString "left") = some (.int left t2) ∧ ∃ d v0 v1 v2 c, m (Str.ofString "due") = some (.ref d) ∧ (d, W.listOf (ints3 (dueS cz place left i) v0 v1 v2).toArray c) ∈ nx)
    rfl hR (by decide) (by decide) FF NN ⟨rfl, rfl, rfl, _, _, _, _, _, rfl, List.mem_cons.mpr (.inl rfl)⟩ ?_ ?_
  · rintro i ti m₁ nx h tk Q' hi ⟨g1, g2, g3, d, v0, v1, v2, c, g4, g5⟩ F₁ N₁ hQ
    clear FF NN hR
    obtain ⟨sn, S1, S2, S3⟩ := snapshot F₁
    have hdS := S2 _ _ (N₁ _ g5).2.1 (N₁ _ g5).2.2 (N₁ _ g5).1
    have hR0 := hring.at fun o e => F₁.keep _ _ e
    have hm0 : 0 ≤ (place + (0 + (i : Int))).fmod 6 := Int.fmod_nonneg_of_pos _ (by decide)
    have hm1 : (place + (0 + (i : Int))).fmod 6 < 6 := Int.fmod_lt_of_pos _ (by decide)
    obtain ⟨ta, tb, tc, hrj⟩ := hrow ((place + (0 + (i : Int))).fmod 6).toNat (by omega)
    have hb0 : 0 ≤ (left * (5 - (0 + (i : Int)))).fmod 6 := Int.fmod_nonneg_of_pos _ (by decide)
    have hb1 : (left * (5 - (0 + (i : Int)))).fmod 6 < 1000 := Int.lt_trans (Int.fmod_lt_of_pos _ (by decide)) (by decide)
    clear N₁ g5
    k_steps
    refine item_listL hR0 hm0 (Int.lt_trans hm1 (by decide)) (six_at (fun j => Value.ref (ra j)) (by omega)) ?_
    k_steps
    refine StopD.out ?_
    (rename IsRange _ _ _ _ _ _ _ _ => hR2); (rename Fr _ _ _ _ => FF); (rename News _ _ _ _ => NN)
    have hLn : s.heap.get? L' = none := Heap.get?_none_of_le (Nat.le_of_eq eL'.symm)
    refine rot_iter (news := sn) rfl rfl rfl (by decide) rfl (by decide) hR2 hb0 hb1 FF NN rfl (hrj.at fun o e => FF.keep _ _ e) (fun e => ?_) ?_
    · obtain ⟨o, z, _⟩ := hrj
      rw [e] at z; exact absurd (z.symm.trans hLn) (by simp)
    intro u p' u0 u1 u2 h2 tk2 F2 N2 hp' hp'L
    clear FF NN hR2
    k_steps
    refine StopD.out ?_
    refine grow_Assign (by with_unfolding_all rfl) (by with_unfolding_all rfl) (by decide) (by rfl) (by decide) (by rfl) (by rfl) ?_ (by intro _; with_unfolding_all rfl)
    k_steps
    refine StopD.out ?_
    refine zip_src rfl rfl rfl rfl (by decide) (by decide) (by decide) ⟨_, (N2 _ hdS).1, rfl, _, rfl⟩ hp' (fun s₁ hs₁ => done3A hs₁ F2.ns fun D w0 w1 w2 h3 tk3 up3 hN3 hD3 hD30 => ?_)
    k_steps
    have hL2 : ∃ o, h2.get? L' = some o := by obtain ⟨o, _, _, e, _⟩ := F2.ns; exact ⟨o, e⟩
    have F3 : Fr s.heap L' h3 _ := ⟨hN3, fun b o e => up3 b o (fun q => by have q' : b = L' := q; rw [q', hLn] at e; cases e) (F2.keep b o e), F2.3⟩
    refine hQ h3 tk3 _ [(D, LCg.lst (ints3 (dueS cz place left (i + 1)) w0 w1 w2))] F3 (fun b o hb e => up3 b o hb (S3 h2 F2.keep N2 b o hb e)) (fun p hp => ?_) ⟨?_, ?_, ?_, D, w0, w1, w2, 3, if_pos rfl, List.mem_cons.mpr (.inl rfl)⟩
    · rw [List.mem_singleton.mp hp]
      refine ⟨hD3, ?_⟩
      cases e : h.get? D with
      | none => rfl
      | some o =>
        have hDL : D ≠ L' := fun q => by obtain ⟨o, z⟩ := hL2; rw [q] at hD30; exact absurd (z.symm.trans hD30) (by simp)
        exact absurd ((S3 h2 F2.keep N2 _ _ hDL e).symm.trans hD30) (by simp)
    all_goals (repeat (refine Eq.trans (if_neg (by decide)) ?_))
    all_goals assumption
  · rintro m₁ nx h tk ⟨g1, g2, g3, d, v0, v1, v2, c, g4, g5⟩ F₁ N₁
    clear FF NN hR
    k_steps
    exact hret _ _ _ _ _ _ F₁.keep (N₁ _ g5).2.2 ⟨_, (N₁ _ g5).1, rfl, _, rfl⟩
end
end Mine
end

section
open PySem PySem.W PyProof.Rows PySem.Calls PyProof.Rows.LCg
set_option maxRecDepth 100000
namespace Mine
section
variable {prog : Program} {w : World} {A : Around} {E : Value → Shared → Prop} {s : Shared} {env : Env}
/-- enumerate's own draw from a tuple's iterator: an item -/
theorem nextOf_tup_item {it t : Addr} {i : Nat} {items : Array Value} {x : Value} {Q : Value → Shared → Prop} (hit : s.heap.IsTupleIter it t i) (ht : s.heap.IsTuple t items) (hx : items[i]? = some x)
    (hQ : ∀ h', h'.IsTupleIter it t (i + 1) → Heap.SameBut it s.heap h' → Q x { s with heap := h' }) : wpAny (model prog w) A (Builtin.SmallTypes.nextOf (.ref it)) Q E s := by
  have hT := hit.typeIs
  obtain ⟨o, ho, hc, hd⟩ := hit
  obtain ⟨ol, hol, _, nl, hdl⟩ := ht
  unfold Builtin.SmallTypes.nextOf
  refine wpAny_bind (wpAny_callSpecial?_slot (name := Str.ofString "__next__") hT F.slot_tuple_iterator_next (wpAny_call_entry F.slot_tuple_iterator_next hT F.entry_tuple_iterator_next ?_ (F.args_tuple_iterator_next_1 _)))
  show wpAny _ _ (field (.ref it) 0 >>= _) _ _ s
  refine wpAny_bind (wpAny_field ho hd (x := .ref t) rfl ?_)
  show wpAny _ _ (if (Value.ref t == Value.none) = true then _ else _) _ _ s
  rw [if_neg (show ¬ ((Value.ref t == Value.none) = true) from Bool.false_ne_true)]
  show wpAny _ _ (field (.ref it) 1 >>= _) _ _ s
  refine wpAny_bind (wpAny_field ho hd (x := .int i 0) rfl ?_)
  show wpAny _ _ (seqItems? (.ref t) >>= _) _ _ s
  refine wpAny_bind (wpAny_seqItems hol hdl ?_)
  simp only [Int.toNat_natCast, hx]
  refine wpAny_bind (wpAny_setField ho hd (by simp) (wpAny_pure ⟨x, rfl, wpAny_pure (hQ _ ?_ (Heap.SameBut.update ..))⟩))
  exact ⟨_, Heap.get?_update_self _ ho (Obj.isFreed_of_fields (Obj.data_mapFields hd _)), (Obj.cls_mapFields ..).trans hc, by rw [Obj.data_mapFields hd]; simp [rawInt]⟩
theorem nextOf_tup_end {it t : Addr} {i : Nat} {items : Array Value} {Q : Value → Shared → Prop} (hh : A.handled = none) (hit : s.heap.IsTupleIter it t i) (ht : s.heap.IsTuple t items) (hx : items[i]? = none)
    (hE : ∀ h' e, Heap.ExtBut it s.heap h' → (∃ o, h'.get? e = some o ∧ o.cls = .type "StopIteration") → E (.ref e) { s with heap := h' }) : wpAny (model prog w) A (Builtin.SmallTypes.nextOf (.ref it)) Q E s := by
  have hT := hit.typeIs
  obtain ⟨o, ho, hc, hd⟩ := hit
  obtain ⟨ol, hol, _, nl, hdl⟩ := ht
  unfold Builtin.SmallTypes.nextOf
  refine wpAny_bind (wpAny_callSpecial?_slot (name := Str.ofString "__next__") hT F.slot_tuple_iterator_next (wpAny_call_entry F.slot_tuple_iterator_next hT F.entry_tuple_iterator_next ?_ (F.args_tuple_iterator_next_1 _)))
  show wpAny _ _ (field (.ref it) 0 >>= _) _ _ s
  refine wpAny_bind (wpAny_field ho hd (x := .ref t) rfl ?_)
  show wpAny _ _ (if (Value.ref t == Value.none) = true then _ else _) _ _ s
  rw [if_neg (show ¬ ((Value.ref t == Value.none) = true) from Bool.false_ne_true)]
  show wpAny _ _ (field (.ref it) 1 >>= _) _ _ s
  refine wpAny_bind (wpAny_field ho hd (x := .int i 0) rfl ?_)
  show wpAny _ _ (seqItems? (.ref t) >>= _) _ _ s
  refine wpAny_bind (wpAny_seqItems hol hdl ?_)
  simp only [Int.toNat_natCast, hx]
  refine wpAny_bind (wpAny_rule (wpAny_bind (wpAny_setField ho hd (by simp) ?_)))
  show wpAny _ _ (newExc (.type "StopIteration") [] >>= _) _ _ _
  refine wpAny_bind ?_
  simp only [newExc, newTuple]
  refine wpAny_bind (wpAny_newObj_type ?_ (by size_fits))
  refine wpAny_bind (m := firstArgMember _ _) (wpAny_of_eq (a := Value.none) (by first | rfl | (simp only [firstArgMember]; rfl)) ?_)
  refine wpAny_newObj_type ?_ (by size_fits)
  simp only [raiseNew]
  refine wpAny_bind (wpAny_handled ?_)
  first | rw [show A.in1.handled = none from hh] | rw [hh]
  refine wpAny_bind (wpAny_pure (wpAny_throw ?_))
  exact hE _ _ (((Heap.SameBut.update ..).extBut.push _).push _) ⟨_, Heap.get?_push_size _ rfl, rfl⟩
theorem draws_tup {prog : Program} {w : World} {A : Around} (hh : A.handled = none) (it t : Addr) (hne : t ≠ it) (items : Array Value) :
    Draws prog w A it [it, t] items.size (fun i v => items[i]? = some v) (fun i h => h.IsTupleIter it t i ∧ h.IsTuple t items) where
  live := fun _ _ st => let ⟨o, ho, _⟩ := st.1; ⟨o, ho⟩
  frame := fun _ _ _ st hk => ⟨st.1.at fun o e => hk it (by simp) o e, st.2.at fun o e => hk t (by simp) o e⟩
  item := fun i s Q E hi st hQ => by
    refine nextOf_tup_item st.1 st.2 (x := items[i]) (by simp [hi]) fun h' hit' hs' => ?_
    exact hQ _ h' s.toks (by simp [hi]) ⟨hit', st.2.extBut hs'.extBut hne⟩ hs'
  done := fun s Q E st hE => nextOf_tup_end hh st.1 st.2 (by simp) hE
open AutoSeq1 (wpAny_loadPart') in
theorem meets_enum_tup (l : Addr) (items : Array Value) (n : Nat) (dct : Option Addr) (sl : Array (Option Value)) :
    Meets (Builtin.«enumerate.__new__» ⟨[.type "enumerate", .ref l], []⟩) (fun _ R s => s.heap.get? l = some { cls := .type "tuple", dict := dct, data := .seq items n, slots := sl } ∧
      R (.ok (.ret (.ref (s.heap.push { cls := .type "tuple_iterator", data := .fields #[.ref l, .int 0 0] }).objs.size)))
        { s with heap := (s.heap.push { cls := .type "tuple_iterator", data := .fields #[.ref l, .int 0 0] }).push { cls := .type "enumerate", data := .fields #[.none, .bool false, .ref s.heap.objs.size, rawInt 0, .none, .none] } }) :=
  .of_wp fun prog w A R s h => by
    obtain ⟨hp, g, d, tk, os⟩ := s; obtain ⟨hl, h⟩ := h
    have hsub := sub_enumerate
    have hL : Heap.IsTuple (Shared.heap ⟨hp, g, d, tk, os⟩) l items := ⟨_, hl, rfl, n, rfl⟩
    wp_walk using wpAny_loadPart' hl
    refine wpAny_stack_any fun st => wpAny_pure ?_
    split
    · rename_i c _ _ _ _ _
      cases (c == Value.type "enumerate")
      · wp_walk using wpAny_loadPart' hl, wpAny_pyIter_tuple hL
        exact ⟨_, rfl, h⟩
      · wp_walk using wpAny_loadPart' hl, wpAny_pyIter_tuple hL
        exact ⟨_, rfl, h⟩
    · wp_walk using wpAny_loadPart' hl, wpAny_pyIter_tuple hL
      exact ⟨_, rfl, h⟩
theorem call_enum_tup {l : Addr} {items : Array Value} {Q : Value → Shared → Prop} (hL : s.heap.IsTuple l items)
    (h : ∀ h', IsEnum h' (s.heap.objs.size + 1) s.heap.objs.size 0 .none → h'.IsTupleIter s.heap.objs.size l 0 → h'.objs.size = s.heap.objs.size + 2 →
      (∀ b o, s.heap.get? b = some o → h'.get? b = some o) → Q (.ref (s.heap.objs.size + 1)) { s with heap := h' }) :
    wpAny (model prog w) A (call (.type "enumerate") [.ref l]) Q E s := by
  obtain ⟨⟨c, dct, dt, sl⟩, hl, hc, n, hd⟩ := hL
  replace hc : c = .type "tuple" := hc
  replace hd : dt = .seq items n := hd
  subst hc hd
  refine callType_new F.called_enumerate (by decide) (F.typeCall_enumerate_1 _) (F.newCall_enumerate_1 _) (fun obj => F.args_object_init_2 obj _) F.entry_enumerate_new
    (meets_enum_tup l items n dct sl) ⟨hl, ?_⟩
  have hz : (s.heap.push { cls := .type "tuple_iterator", data := .fields #[.ref l, .int 0 0] }).objs.size = s.heap.objs.size + 1 := Heap.size_push ..
  show _ ∧ _
  rw [hz]
  have he : IsEnum ((s.heap.push { cls := .type "tuple_iterator", data := .fields #[.ref l, .int 0 0] }).push
      { cls := .type "enumerate", data := .fields #[.none, .bool false, .ref s.heap.objs.size, rawInt 0, .none, .none] }) (s.heap.objs.size + 1) s.heap.objs.size 0 .none := by
    have := Heap.get?_push_size (s.heap.push { cls := .type "tuple_iterator", data := .fields #[.ref l, .int 0 0] })
      (o := { cls := .type "enumerate", data := .fields #[.none, .bool false, .ref s.heap.objs.size, rawInt 0, .none, .none] }) rfl
    rw [hz] at this; exact this
  refine ⟨⟨_, he, rfl⟩, h _ he ⟨_, Heap.get?_push_of_some _ (Heap.get?_push_size _ rfl), rfl, rfl⟩ (by rw [Heap.size_push, hz]) fun b o x => Heap.get?_push_of_some _ (Heap.get?_push_of_some _ x)⟩
/-- [elt for x, z in enumerate(TUPLE)]: the call of enumerate itself -/
theorem enum_src {elt : Expr} {x z : Str} {px pz tp : Pos} {kk : Nat} {scope : Scope} {cl : List (Str × Addr)} {Dn : DnTy} {l : Addr} {items : Array Value} (R : Nat → Value → List (Addr × Obj) → Prop) (hh : A.handled = none) (hkind : scope.kind = .function)
    (hx : scope.names.lookup x = some .local) (hz : scope.names.lookup z = some .local) (hxz : x ≠ z) (hl : s.heap.IsTuple l items) (hsz : items.size ≤ sizeLine)
    (turn : ∀ i v t C h tk m₂ (s₁ : Shared) (E' : Value → Shared → Prop), (∃ g, s₁ = { s with heap := g }) → items[i]? = some v → h.Ns C m₂ → m₂ x = some (.int (i : Int) t) → m₂ z = some v → s.heap.objs.size ≤ C → Up s.heap h →
        wpAny (model prog w) A (eval elt (compEnvC scope cl C env)) (EltPost s₁ h C (R i)) E' { s₁ with heap := h, toks := tk })
    (dn : ∀ g, Dn { s with heap := g } s.heap items.size R) :
    wpAny (model prog w) A (call (.type "enumerate") [.ref l]) (fun xv s₁ => wpAny (model prog w) A (pyIter xv) (GrowSrc prog w A env (.Tuple [.Name x px, .Name z pz] kk tp) elt scope cl Dn) E s₁) E s := by
  have hlt : l < s.heap.objs.size := by obtain ⟨_, e, _⟩ := hl; exact Heap.lt_size e
  refine call_enum_tup hl fun h' hE hI hsize up => ?_
  have D := draws_tup (prog := prog) (w := w) (A := A.in1) hh s.heap.objs.size l (Nat.ne_of_lt hlt) items
  have hef : s.heap.objs.size + 1 ∉ [s.heap.objs.size, l] := by
    intro hm
    rcases List.mem_cons.mp hm with e | hm
    · exact absurd e (Nat.succ_ne_self _)
    · have e := List.mem_singleton.mp hm
      rw [← e] at hlt; exact absurd hlt (Nat.not_lt.mpr (Nat.le_succ _))
  have W := KTurns.ofWalksU (prog := prog) (w := w) (elts := [.Name x px, .Name z pz]) (k := kk) (pos := tp) (WalksT.enumerateD D (s.heap.objs.size + 1) (Nat.succ_ne_self _) hef (List.mem_cons_self ..)).toU
  have st0 : (∃ old, IsEnum h' (s.heap.objs.size + 1) s.heap.objs.size ((0 : Nat) : Int) old) ∧ h'.IsTupleIter s.heap.objs.size l 0 ∧ h'.IsTuple l items := ⟨⟨_, hE⟩, hI, hl.at fun o e => up _ _ e⟩
  refine wpAny_pyIter_enum hE ?_
  refine ⟨s.heap.objs.size + 1, _, _, items.size, _, _, _, R, s.heap, rfl, W, hsz, st0, ?_, ?_, ?_, up, by rw [hsize]; exact Nat.le_add_right _ _, ?_, ?_, dn _⟩
  · intro b hb
    dsimp only
    rw [hsize]
    simp only [List.mem_cons, List.not_mem_nil, or_false] at hb
    rcases hb with rfl | rfl | rfl
    · exact Nat.lt_succ_self _
    · exact Nat.lt_add_right 1 (Nat.lt_succ_self _)
    · exact Nat.lt_add_right 2 hlt
  · rintro i h ⟨⟨_, a1⟩, ⟨o2, a2, _⟩, _⟩ b hb
    simp only [List.mem_cons, List.not_mem_nil, or_false] at hb
    rcases hb with rfl | rfl
    · exact ⟨_, a1⟩
    · exact ⟨_, a2⟩
  · intro s₃ Q' E' k hq
    exact wpAny_pyIter_enum (k _ _ hE) hq
  · intro b hb
    simp only [List.mem_cons, List.not_mem_nil, or_false] at hb
    rcases hb with rfl | rfl
    · exact Heap.get?_none_of_le (Nat.le_succ _)
    · exact Heap.get?_none_of_le (Nat.le_refl _)
  · rintro i v C h tk m₂ E' hi ⟨T, vals, rfl, ⟨t, y, hy, rfl⟩, hT⟩ hn hC kp
    exact turn_pair hh hkind hx hz hxz (Heap.get?_none_of_le hC) kp hn hT fun h₂ tk₂ m₃ hn₂ hm₃ hm₄ kp₂ => turn i y t C h₂ tk₂ m₃ _ E' ⟨_, rfl⟩ hy hn₂ hm₃ hm₄ hC kp₂
end
end Mine
end

section
open PySem PySem.W PyProof.Rows PySem.Calls PyProof.Rows.LCg
namespace Mine
theorem cell_at {h h' : Heap} {c : Addr} {v : Option Value} (hc : h.IsCell c v) (k : ∀ o, h.get? c = some o → h'.get? c = some o) : h'.IsCell c v := let ⟨o, e, d⟩ := hc; ⟨o, k o e, d⟩
theorem fr_up {hb h h' : Heap} {L : Addr} {m : Str → Option Value} (F : Fr hb L h m) (k : Up h h') : Fr hb L h' m := ⟨F.ns.at' fun o e => k _ _ e, fun b o e => k _ _ (F.keep b o e), F.3⟩
theorem news_up {hb h h' : Heap} {L : Addr} {nl : List (Addr × Obj)} (N : News hb L h nl) (k : Up h h') : News hb L h' nl := fun p hp => ⟨k _ _ (N p hp).1, (N p hp).2⟩
/-- what was not there is neither the frame's nor the base's -/
theorem news_new {hb h h' : Heap} {L D : Addr} {o : Obj} {m : Str → Option Value} {nl : List (Addr × Obj)} (F : Fr hb L h m) (N : News hb L h' nl) (e : h'.get? D = some o) (e0 : h.get? D = none) : News hb L h' ((D, o) :: nl) := by
  intro p hp
  rcases List.mem_cons.mp hp with rfl | hp
  · refine ⟨e, fun q => ?_, ?_⟩
    · obtain ⟨o', _, _, x, _⟩ := F.ns
      have q : D = L := q
      rw [q] at e0; rw [e0] at x; cases x
    · cases x : hb.get? D with
      | none => rfl
      | some o' => have := F.keep _ _ x; rw [e0] at this; cases this
  · exact N p hp
/-- fresh at the later heap is fresh at the earlier one, when all but the frame is kept -/
theorem none_back {h h₁ : Heap} {C D : Addr} {m : Str → Option Value} (hn : h₁.Ns C m) (k : ∀ b o, b ≠ C → h.get? b = some o → h₁.get? b = some o) (e : h₁.get? D = none) : h.get? D = none := by
  cases q : h.get? D with
  | none => rfl
  | some o =>
    by_cases x : D = C
    · obtain ⟨o', _, _, y, _⟩ := hn; rw [x] at e; rw [e] at y; cases y
    · have := k _ _ x q; rw [e] at this; cases this
/-- an element's end: its frame, its ledger and what it made -/
def EltG (s₁ : Shared) (hb h : Heap) (C : Addr) (sn : List (Addr × Obj)) (R : Value → List (Addr × Obj) → Prop) (y : Value) (s' : Shared) : Prop :=
  ∃ h' tk' m' sn' own, s' = { s₁ with heap := h', toks := tk' } ∧ Fr hb C h' m' ∧ News hb C h' sn' ∧ (∀ p ∈ sn, p ∈ sn') ∧ ((∀ b o, b ≠ C → h.get? b = some o → h'.get? b = some o) → Fresh h h' own) ∧ R y own
section
variable {prog : Program} {w : World} {A : Around} {E : Value → Shared → Prop} {s₁ : Shared} {env : Env}
/-- an element, walked over the base at the comprehension -/
theorem elt_g {elt : Expr} {scope : Scope} {cl : List (Str × Addr)} {hb h : Heap} {C : Addr} {m₂ : Str → Option Value} {tk : Nat} {R : Value → List (Addr × Obj) → Prop} (hC : hb.objs.size ≤ C) (hn : h.Ns C m₂) (up : Up hb h)
    (walk : ∀ sn, Fr hb C h m₂ → News hb C h sn → (∀ h' m', Fr hb C h' m' → News hb C h' sn → ∀ b o, b ≠ C → h.get? b = some o → h'.get? b = some o) →
      wpAny (model prog w) A (eval elt (compEnvC scope cl C env)) (EltG s₁ hb h C sn R) E { s₁ with heap := h, toks := tk }) :
    wpAny (model prog w) A (eval elt (compEnvC scope cl C env)) (EltPost s₁ h C R) E { s₁ with heap := h, toks := tk } := by
  have F : Fr hb C h m₂ := ⟨hn, up, hC⟩
  obtain ⟨sn, S1, _, S3⟩ := snapshot F
  refine wpAny_mono (walk sn F S1 fun h' m' F' N' => S3 h' F'.keep N') (fun y s' q => ?_) fun _ _ e => e
  obtain ⟨h', tk', m', sn', own, e, F', N', sub, fr, r⟩ := q
  have kk := S3 h' F'.keep (fun p hp => N' p (sub p hp))
  exact ⟨h', tk', own, m', e, fun b o hb e => kk b o hb e, F'.ns, fr kk, r⟩
theorem ldVarF {scope : Scope} {cl : List (Str × Addr)} {hb : Heap} {C : Addr} {s : Shared} {m : Str → Option Value} {x : Str} {pos : Pos} {v : Value} {Q : Value → Shared → Prop} (F : Fr hb C s.heap m) (hv : m x = some v) (h : Q v s)
    (hk : (compEnvC scope cl C env).scope.kind = .function) (hl : (compEnvC scope cl C env).kindOf x = some .local) (hd : (x == ("__debug__" : Str)) = false) :
    wpAny (model prog w) A (eval (.Name x pos) (compEnvC scope cl C env)) Q E s := ldVarK F.ns hv h hk hl hd
theorem ldCellF {scope : Scope} {cl : List (Str × Addr)} {hb : Heap} {C : Addr} {s : Shared} {m : Str → Option Value} {x : Str} {pos : Pos} {c : Addr} {v : Value} {Q : Value → Shared → Prop} (F : Fr hb C s.heap m) (hc : cl.lookup x = some c) (hv : hb.IsCell c (some v)) (h : Q v s)
    (hk : (compEnvC scope cl C env).scope.kind = .function) (hl : (compEnvC scope cl C env).kindOf x = some .cell) (hd : (x == ("__debug__" : Str)) = false) :
    wpAny (model prog w) A (eval (.Name x pos) (compEnvC scope cl C env)) Q E s := ldCellK hc (cell_at hv fun o e => F.keep _ _ e) h hk hl hd
theorem nm_c {scope : Scope} {cl : List (Str × Addr)} {C : Addr} {x : Str} {pos : Pos} {s : Shared} {Q : Value → Shared → Prop} (h : wpAny (model prog w) A (eval (.Name x pos) (compEnvC scope cl C env)) Q E s) :
    wpAny (model prog w) A (eval (.Name x pos) (compEnvC scope cl C env)) Q E s := h
theorem nm_e {name : Str} {scope : Scope} {L a : Addr} {cdv : Value} {x : Str} {pos : Pos} {s : Shared} {Q : Value → Shared → Prop} (h : wpAny (model prog w) A (eval (.Name x pos) (envOfC name scope L a cdv)) Q E s) :
    wpAny (model prog w) A (eval (.Name x pos) (envOfC name scope L a cdv)) Q E s := h
theorem stop_asg {x : Str} {px p1 p2 : Pos} {elt : Expr} {gens : List Comprehension} {scope : Scope} {rest : List Stmt} {s : Shared} {Q : Flow → Shared → Prop} (h : StopD (wpAny (model prog w) A (execs (.Assign [.Name x px] (.ListComp elt gens scope p1) p2 :: rest) env) Q E s)) :
    wpAny (model prog w) A (execs (.Assign [.Name x px] (.ListComp elt gens scope p1) p2 :: rest) env) Q E s := h
end
end Mine
end

section
open PySem PySem.W PyProof.Rows PySem.Calls PyProof.Rows.LCg
namespace Mine
/-- a part, or by the third way its negative -/
noncomputable def wq (way x : Int) : Int := if way = 2 then 512 - x else x
noncomputable abbrev sel {α : Type} (a b c : α) (i : Nat) : α := match i with | 0 => a | 1 => b | _ => c
/-- the items of a list, told by place -/
def RV (g : Nat → Tok → Value) (i : Nat) (y : Value) (_ : List (Addr × Obj)) : Prop := ∃ t, y = g i t
section
variable {prog : Program} {w : World} {A : Around} {E : Value → Shared → Prop} {s : Shared} {env : Env}
theorem doneV {s₁ : Shared} {h₁ : Heap} {g : Nat → Tok → Value} {Q : Value → Shared → Prop} (hs : ∃ g, s₁ = { s with heap := g })
    (h : ∀ D v0 v1 v2 h tk, Up h₁ h → h.get? D = some (lst [g 0 v0, g 1 v1, g 2 v2]) → h₁.get? D = none → Q (.ref D) { s with heap := h, toks := tk }) : LcDone s₁ h₁ 3 (RV g) Q := by
  obtain ⟨g', rfl⟩ := hs
  intro D h' tk ys hl hR up hD hD0
  obtain ⟨a, b, c, rfl, ⟨_, ⟨v0, rfl⟩, _⟩, ⟨_, ⟨v1, rfl⟩, _⟩, ⟨_, ⟨v2, rfl⟩, _⟩⟩ := list3 hl hR
  exact h D v0 v1 v2 h' tk up hD hD0
theorem doneVA {s₁ : Shared} {h₁ : Heap} {L : Addr} {y : Str} {m : Str → Option Value} {g : Nat → Tok → Value} {Q : Flow → Shared → Prop} (hs : ∃ g, s₁ = { s with heap := g }) (hn : h₁.Ns L m)
    (h : ∀ D v0 v1 v2 h tk, (∀ b o, b ≠ L → h₁.get? b = some o → h.get? b = some o) → h.Ns L (fun z => if z = y then some (.ref D) else m z) → h.get? D = some (lst [g 0 v0, g 1 v1, g 2 v2]) → h₁.get? D = none → Q .next { s with heap := h, toks := tk }) : LcDoneA L y Q s₁ h₁ 3 (RV g) := by
  obtain ⟨g', rfl⟩ := hs
  refine ⟨m, hn, ?_⟩
  intro D h' tk ys hl hR up hN hD hD0
  obtain ⟨a, b, c, rfl, ⟨_, ⟨v0, rfl⟩, _⟩, ⟨_, ⟨v1, rfl⟩, _⟩, ⟨_, ⟨v2, rfl⟩, _⟩⟩ := list3 hl hR
  exact h D v0 v1 v2 h' tk up hN hD hD0
/-- [elt for x in TUPLE] -/
theorem LC_tuple {elt : Expr} {x : Str} {px : Pos} {scope : Scope} {cl : List (Str × Addr)} {Dn : DnTy} {ax : Addr} {its : Array Value} (R : Nat → Value → List (Addr × Obj) → Prop) (hh : A.handled = none) (hkind : scope.kind = .function) (hx : scope.names.lookup x = some .local)
    (hl : s.heap.IsTuple ax its) (hsz : its.size ≤ sizeLine)
    (turn : ∀ i v C h tk m₂ (s₁ : Shared) (E' : Value → Shared → Prop), (∃ g, s₁ = { s with heap := g }) → its[i]? = some v → h.Ns C m₂ → m₂ x = some v → s.heap.objs.size ≤ C → Up s.heap h →
        wpAny (model prog w) A (eval elt (compEnvC scope cl C env)) (EltPost s₁ h C (R i)) E' { s₁ with heap := h, toks := tk })
    (dn : ∀ g, Dn { s with heap := g } s.heap its.size R) :
    wpAny (model prog w) A (pyIter (.ref ax)) (GrowSrc prog w A env (.Name x px) elt scope cl Dn) E s := by
  have hlt : ax < s.heap.objs.size := by obtain ⟨_, e, _⟩ := hl; exact Heap.lt_size e
  have up : Up s.heap (s.heap.push { cls := .type "tuple_iterator", data := .fields #[.ref ax, .int 0 0] }) := fun b o e => Heap.get?_push_of_some _ e
  have W := Walks.tuple (prog := prog) (w := w) hh s.heap.objs.size ax (Nat.ne_of_lt hlt) its
  refine wpAny_pyIter_tuple hl ?_
  refine ⟨s.heap.objs.size, _, _, its.size, _, _, _, R, s.heap, rfl, KTurns.ofWalks (target := .Name x px) W (fun i v s Q E _ hQ => wpAny_of_eq rfl hQ), hsz, ?_, ?_, ?_, ?_, up, by rw [Heap.size_push]; exact Nat.le_succ _, ?_, ?_, ?_⟩
  · exact ⟨⟨_, Heap.get?_push_size _ rfl, rfl, rfl⟩, hl.push _⟩
  · intro b hb
    show b < (s.heap.push _).objs.size
    rw [Heap.size_push]
    rcases List.mem_cons.mp hb with rfl | hb
    · exact Nat.lt_succ_self _
    · rw [List.mem_singleton.mp hb]; exact Nat.lt_succ_of_lt hlt
  · intro i h st b hb
    rw [List.mem_singleton.mp hb]
    obtain ⟨o, e, _⟩ := st.1
    exact ⟨o, e⟩
  · intro s₃ Q' E' k hq
    refine W.self 0 _ _ _ ⟨?_, ?_⟩ hq
    · exact ⟨_, k _ _ (Heap.get?_push_size _ rfl), rfl, rfl⟩
    · obtain ⟨o, e, r⟩ := hl
      exact ⟨o, k _ _ (up _ _ e), r⟩
  · intro b hb
    rw [List.mem_singleton.mp hb]
    exact Heap.get?_none_of_le (Nat.le_refl _)
  · intro i v C h tk m₂ E' hi hP hn hC₀ kp
    exact turn_name hkind hx (Heap.get?_none_of_le hC₀) kp hn fun h₂ tk₂ m₃ hn₂ hm₃ kp₂ => turn i v C h₂ tk₂ m₃ _ E' ⟨_, rfl⟩ hP hn₂ hm₃ hC₀ kp₂
  · exact dn _
/-- behind a stored comprehension: the frame and the ledger with the new list -/
theorem fr_putA {hb h h' : Heap} {L D : Addr} {y : Str} {m : Str → Option Value} {o : Obj} {news : List (Addr × Obj)} (F : Fr hb L h m) (N : News hb L h news) (up : ∀ b o, b ≠ L → h.get? b = some o → h'.get? b = some o)
    (hn : h'.Ns L (fun z => if z = y then some (.ref D) else m z)) (hD : h'.get? D = some o) (hD0 : h.get? D = none) : Fr hb L h' (fun z => if z = y then some (.ref D) else m z) ∧ News hb L h' ((D, o) :: news) :=
  ⟨⟨hn, fun b o e => up b o (Nat.ne_of_lt (Nat.lt_of_lt_of_le (Heap.lt_size e) F.above)) (F.keep b o e), F.above⟩, news_new F (fun p hp => ⟨up _ _ (N p hp).2.1 (N p hp).1, (N p hp).2⟩) hD hD0⟩
end
theorem is_max3 {A B C M : Int} (a : M = A ∨ M = B ∨ M = C) (b : A ≤ M ∧ B ≤ M ∧ C ≤ M) : M = max (max A B) C := by
  have q := (mx3 A B C).1
  refine Int.le_antisymm ?_ (Int.max_le.mpr ⟨Int.max_le.mpr ⟨b.1, b.2.1⟩, b.2.2⟩)
  rcases a with rfl | rfl | rfl
  · exact q.1
  · exact q.2.1
  · exact q.2.2
theorem is_min3 {A B C M : Int} (a : M = A ∨ M = B ∨ M = C) (b : M ≤ A ∧ M ≤ B ∧ M ≤ C) : M = min (min A B) C := by
  have q := (mx3 A B C).2
  refine Int.le_antisymm (Int.le_min.mpr ⟨Int.le_min.mpr ⟨b.1, b.2.1⟩, b.2.2⟩) ?_
  rcases a with rfl | rfl | rfl
  · exact q.1
  · exact q.2.1
  · exact q.2.2
theorem mx_eq {A B C x y z M3 M2 M1 M0 : Int} (hmx : max (max A B) C = max (max x y) z) (hmn : min (min A B) C = min (min x y) z) (b3 : A ≤ M3 ∧ B ≤ M3 ∧ C ≤ M3) (a3 : M3 = A ∨ M3 = B ∨ M3 = C) (b2 : M2 ≤ A ∧ M2 ≤ B ∧ M2 ≤ C) (a2 : M2 = A ∨ M2 = B ∨ M2 = C)
    (b1 : x ≤ M1 ∧ y ≤ M1 ∧ z ≤ M1) (a1 : M1 = x ∨ M1 = y ∨ M1 = z) (b0 : M0 ≤ x ∧ M0 ≤ y ∧ M0 ≤ z) (a0 : M0 = x ∨ M0 = y ∨ M0 = z) : [M3, M2] = [M1, M0] := by
  rw [is_max3 a3 b3, is_min3 a2 b2, is_max3 a1 b1, is_min3 a0 b0, hmx, hmn]
theorem useEq0 {α : Type} {a b : α} {P : Prop} (h : a = b) (k : a = b → P) : P := k h
/-- the whole part that a float tells, in 2 ** -30 -/
noncomputable abbrev nr30 (b : UInt64) : Int := Flt.toInt Float64.nearestOf (Float64.mul b (Float64.ofInt (2 ^ Int.toNat 30)))
abbrev FinF (b : UInt64) : Prop := Float64.isNaN b = false ∧ Float64.isInf b = false
theorem tup_key {ro go bo : UInt64} {t u v' : Tok} {i : Nat} {v : Value} (h : #[Value.float ro t, Value.float go u, Value.float bo v'][i]? = some v)
    (v1 : FinF (Float64.mul ro (Float64.ofInt (2 ^ Int.toNat 30)))) (v2 : FinF (Float64.mul go (Float64.ofInt (2 ^ Int.toNat 30)))) (v3 : FinF (Float64.mul bo (Float64.ofInt (2 ^ Int.toNat 30)))) :
    ∃ b tk, v = Value.float b tk ∧ FinF (Float64.mul b (Float64.ofInt (2 ^ Int.toNat 30))) ∧ nr30 (sel ro go bo i) = nr30 b := by
  rcases three_at h with ⟨rfl, rfl⟩ | ⟨rfl, rfl⟩ | ⟨rfl, rfl⟩
  · exact ⟨_, _, rfl, v1, rfl⟩
  · exact ⟨_, _, rfl, v2, rfl⟩
  · exact ⟨_, _, rfl, v3, rfl⟩
theorem int_key {a b c : Int} {t u v' : Tok} {i : Nat} {v : Value} (h : #[Value.int a t, Value.int b u, Value.int c v'][i]? = some v) : ∃ x tk, v = Value.int x tk ∧ sel a b c i = x := by
  rcases three_at h with ⟨rfl, rfl⟩ | ⟨rfl, rfl⟩ | ⟨rfl, rfl⟩ <;> exact ⟨_, _, rfl, rfl⟩
set_option compiler.extract_closed false
local macro_rules | `(tactic| walk_at "eval Name") => `(tactic| (k_here; k_dflt (refine nameX_L (by k_asm) (by (repeat (refine Eq.trans (if_neg (by decide)) ?_)); assumption) ?_ rfl rfl); k_whole))
local macro_rules | `(tactic| walk_at "eval Name") => `(tactic| (k_here; (with_reducible refine nm_c ?_); k_dflt (first | refine ldVarF (by with_reducible assumption) (by with_reducible assumption) ?_ rfl rfl (by decide) | refine ldCellF (by with_reducible assumption) rfl (by with_reducible assumption) ?_ rfl rfl (by decide)); k_whole))
local macro_rules | `(tactic| walk_at $k:str) => if ["eval ListComp", "exec Assign cons ListComp", "pyIter ref", "compareOp NotEq ref ref"].contains k.getString then `(tactic| (k_here; refine StopD.mk ?_)) else Lean.Macro.throwUnsupported
section
variable {w : World} {mean : ExcName → Option Value} {mg mb : Str → Option Value} {dp un : Nat} {gd : Option (List Code)} {env : Env} {outer : List Env} {A₀ : Around} {base hb : Heap} {L : Addr} {m : Str → Option Value} {s : Shared} {Q : Flow → Shared → Prop}
  {name : Str} {params : Arguments} {body rest : List Stmt} {st1 st2 : Stmt} {scope : Scope} {doc pm cdv oc : Value} {od : Option Addr} {osl : Array (Option Value)}
set_option maxRecDepth 100000 in
set_option maxHeartbeats 8000000 in
theorem led_tail (ho : (hd.heap_39 w.params).lookup 54 = some ⟨oc, od, .func (docDef name params body scope pm cdv doc), osl⟩) (hbody : body = st1 :: st2 :: rest)
  (B : Below A₀ base (env :: outer) hb) (F : Fr hb L s.heap m) (KX : (hd.heap_39 w.params).In hb) (T : Top hd.view_39 (looseW hd.view_39 LS) mean mg mb hb)
  (hun : un + 96 < cLine)
  {p W : Addr} {x y z ra rb rc way : Int} {hu ro go bo : UInt64} {t1 t2 t3 t4 t5 t6 t7 t8 : Tok} {c : Nat} {o : Obj}
  (hp : hb.IsList p #[.int x t1, .int y t2, .int z t3])
  (m1 : m (Str.ofString "parts") = some (.ref p)) (m2 : m (Str.ofString "hue") = some (.float hu t4)) (m3 : m (Str.ofString "told") = some (.ref W)) (hcell : o.data = .cell (some (.int way t5)))
  (N : News hb L s.heap [(W, tup3 (.float ro t6) (.float go t7) (.float bo t8) c), (L + 1, o)])
  (v1 : FinF (Float64.mul ro (Float64.ofInt (2 ^ Int.toNat 30)))) (v2 : FinF (Float64.mul go (Float64.ofInt (2 ^ Int.toNat 30)))) (v3 : FinF (Float64.mul bo (Float64.ofInt (2 ^ Int.toNat 30))))
  (u0 : (Float64.cmpInt hu 0 == some .gt || Float64.cmpInt hu 0 == some .eq) = true) (u1 : (Float64.cmpInt hu 1 == some .lt) = true)
  (f1 : (nr30 ro).fmod (2 ^ Int.toNat 21) = 0) (f2 : (nr30 go).fmod (2 ^ Int.toNat 21) = 0) (f3 : (nr30 bo).fmod (2 ^ Int.toNat 21) = 0)
  (q1 : wq way ((nr30 ro).fdiv (2 ^ Int.toNat 21)) = ra) (q2 : wq way ((nr30 go).fdiv (2 ^ Int.toNat 21)) = rb) (q3 : wq way ((nr30 bo).fdiv (2 ^ Int.toNat 21)) = rc)
  (hmx : max (max ra rb) rc = max (max x y) z) (hmn : min (min ra rb) rc = min (min x y) z)
  (hret : ∀ D u1 u2 u3 h' tk', (∀ b o, hb.get? b = some o → h'.get? b = some o) → hb.get? D = none → h'.get? D = some (LCg.lst [.int ra u1, .int rb u2, .int rc u3]) → Q (.ret (.ref D)) { s with heap := h', toks := tk' }) :
  wpAny (model PR w) ({ handled := none, depth := dp, frames := some (envOfC name scope L 54 cdv :: env :: outer), guards := gd, units := un }) (execs rest (envOfC name scope L 54 cdv)) Q (fun _ _ => False) s := by
  w_top off
  (refine' useEq0 (a := (hd.heap_39 w.params).lookup 54) ?pf ?kk; (case pf => k_dflt k_is)); intro ho'
  (have q' := Option.some.inj (ho.symm.trans ho')); clear ho ho'
  (simp only [Obj.mk.injEq, Data.func.injEq, docDef, FuncData.mk.injEq, FuncBody.stmts.injEq, true_and] at q'); (obtain ⟨-, -, ⟨e1, -, -, e3, e4, -, -, -, e7, -⟩, -⟩ := q'); subst e1; subst e4; subst e7; (have e5 := hbody.symm.trans e3); (simp only [List.cons.injEq] at e5); (obtain ⟨-, -, e6⟩ := e5); subst e6; clear e3 hbody
  k_steps
  refine StopD.out ?_
  refine grow_Assign (by with_unfolding_all rfl) (by with_unfolding_all rfl) (by decide) (by rfl) (by decide) (by rfl) (by rfl) ?_ (by intro _; with_unfolding_all rfl)
  k_steps
  refine StopD.out ?_
  refine LC_tuple (its := #[Value.float ro t6, Value.float go t7, Value.float bo t8]) (RV fun i t => .int (nr30 (sel ro go bo i)) t) rfl rfl rfl ⟨_, (N _ List.mem_cons_self).1, rfl, _, rfl⟩ (Nat.le_of_ble_eq_true rfl) ?_ ?_
  · rintro i v C h5 tk5 m5 s5 E5 ⟨g5, rfl⟩ hv hn5 hm5 hC5 up5
    obtain ⟨fb, tb, rfl, fin5, ex5⟩ := tup_key hv v1 v2 v3
    have KX5 := KX.keeps F.keep
    have T5 := T.keeps F.keep
    clear hret hmx hmn q1 q2 q3 f1 f2 f3 u0 u1 v1 v2 v3 hv N hp B F KX T m1 m2 m3 hcell
    refine elt_g hC5 hn5 up5 fun sn FC NC KC => ?_
    (try dsimp only at FC NC hC5)
    clear up5 hn5
    k_steps
    refine ⟨_, _, _, _, [], rfl, by with_reducible assumption, by with_reducible assumption, fun p hp => ?_, fun _ p hp => (by cases hp), _, congrArg (fun z => Value.int z _) (?_ : _ = nr30 (sel ro go bo i))⟩
    · repeat (first | exact hp | refine List.mem_cons_of_mem _ ?_)
    · exact ex5.symm
  · intro g5
    refine doneVA ⟨_, rfl⟩ F.ns fun D w0 w1 w2 h6 tk6 up6 hN6 hD6 hD60 => ?_
    obtain ⟨F6, N6⟩ := fr_putA (o := LCg.lst [.int (nr30 ro) w0, .int (nr30 go) w1, .int (nr30 bo) w2]) F N up6 hN6 hD6 hD60
    clear F N up6 hN6 hD6 hD60 g5 m3 v1 v2 v3
    k_steps
    refine StopD.out ?_
    refine grow_Assign (by with_unfolding_all rfl) (by with_unfolding_all rfl) (by decide) (by rfl) (by decide) (by rfl) (by rfl) ?_ (by intro _; with_unfolding_all rfl)
    k_steps
    refine StopD.out ?_
    refine LC_list (its := #[Value.int (nr30 ro) w0, Value.int (nr30 go) w1, Value.int (nr30 bo) w2]) (RV fun i t => .int (wq way (Int.fdiv (sel (nr30 ro) (nr30 go) (nr30 bo) i) (2 ^ Int.toNat 21))) t) rfl rfl rfl ⟨_, (N6 _ List.mem_cons_self).1, rfl, _, rfl⟩ (Nat.le_of_ble_eq_true rfl) ?_ ?_
    · rintro i v C h5 tk5 m5 s5 E5 ⟨g5, rfl⟩ hv hn5 hm5 hC5 up5
      obtain ⟨fb, tb, rfl, ex5⟩ := int_key hv
      have hcell5 : Heap.IsCell _ (L + 1) (some (.int way t5)) := ⟨o, (N6 (L + 1, o) (by k_mem)).1, hcell⟩
      have KX5 := KX.keeps F6.keep
      have T5 := T.keeps F6.keep
      clear hret hmx hmn q1 q2 q3 f1 f2 f3 u0 u1 hv N6 hp B F6 KX T m1 m2 hcell
      refine elt_g hC5 hn5 up5 fun sn FC NC KC => ?_
      (try dsimp only at FC NC hC5)
      clear up5 hn5
      k_steps
      · refine ⟨_, _, _, _, [], rfl, by with_reducible assumption, by with_reducible assumption, fun p hp => ?_, fun _ p hp => (by cases hp), _, congrArg (fun z => Value.int z _) (?_ : _ = wq way _)⟩
        · repeat (first | exact hp | refine List.mem_cons_of_mem _ ?_)
        · rw [ex5, wq, if_pos (by assumption)]
      · refine ⟨_, _, _, _, [], rfl, by with_reducible assumption, by with_reducible assumption, fun p hp => ?_, fun _ p hp => (by cases hp), _, congrArg (fun z => Value.int z _) (?_ : _ = wq way _)⟩
        · repeat (first | exact hp | refine List.mem_cons_of_mem _ ?_)
        · rw [ex5, wq, if_neg (by assumption)]
    · intro g5
      refine doneVA ⟨_, rfl⟩ F6.ns fun D2 y0 y1 y2 h7 tk7 up7 hN7 hD7 hD70 => ?_
      obtain ⟨F7, N7⟩ := fr_putA (o := LCg.lst [.int ra y0, .int rb y1, .int rc y2]) F6 N6 up7 hN7 (by rw [← q1, ← q2, ← q3]; exact hD7) hD70
      clear F6 N6 up7 hN7 hD7 hD70 g5 q1 q2 q3
      k_steps
      refine StopD.out ?_
      refine grow_ListComp (by with_unfolding_all rfl) (by decide) (by rfl) (by decide) ?_ (by intro _; with_unfolding_all rfl)
      k_steps
      refine StopD.out ?_
      (rename Fr _ _ _ _ => F8); (rename News _ _ _ _ => N8)
      refine LC_list (its := #[Value.int (nr30 ro) w0, Value.int (nr30 go) w1, Value.int (nr30 bo) w2]) (RV fun i t => .int (Int.fmod (sel (nr30 ro) (nr30 go) (nr30 bo) i) (2 ^ Int.toNat 21)) t) rfl rfl rfl ⟨_, (N8 _ (List.mem_cons_of_mem _ List.mem_cons_self)).1, rfl, _, rfl⟩ (Nat.le_of_ble_eq_true rfl) ?_ ?_
      · rintro i v C h5 tk5 m5 s5 E5 ⟨g5, rfl⟩ hv hn5 hm5 hC5 up5
        obtain ⟨fb, tb, rfl, ex5⟩ := int_key hv
        have KX5 := KX.keeps F8.keep
        have T5 := T.keeps F8.keep
        clear hret hmx hmn f1 f2 f3 u0 u1 hv N8 hp B F8 KX T m1 m2 hcell
        refine elt_g hC5 hn5 up5 fun sn FC NC KC => ?_
        (try dsimp only at FC NC hC5)
        clear up5 hn5
        k_steps
        refine ⟨_, _, _, _, [], rfl, by with_reducible assumption, by with_reducible assumption, fun p hp => ?_, fun _ p hp => (by cases hp), _, congrArg (fun z => Value.int z _) (?_ : _ = Int.fmod _ _)⟩
        · repeat (first | exact hp | refine List.mem_cons_of_mem _ ?_)
        · rw [ex5]
      · intro g5
        refine doneV ⟨_, rfl⟩ fun D3 z0 z1 z2 h9 tk9 up9 hD9 hD90 => ?_
        have F9 := fr_up F8 up9
        have N9 := news_new F8 (news_up N8 up9) (o := LCg.lst [.int 0 z0, .int 0 z1, .int 0 z2]) (hD9.trans (by show some (LCg.lst [Value.int ((nr30 ro).fmod (2 ^ Int.toNat 21)) z0, Value.int ((nr30 go).fmod (2 ^ Int.toNat 21)) z1, Value.int ((nr30 bo).fmod (2 ^ Int.toNat 21)) z2]) = _; rw [f1, f2, f3])) hD90
        clear F8 N8 up9 hD9 hD90 g5
        k_steps
        refine StopD.out ?_
        (rename Fr _ _ _ _ => FF); (rename News _ _ _ _ => NN)
        refine ke_ne_ints (ns := [0, 0, 0]) (ms := [0, 0, 0]) ⟨_, (NN _ (List.mem_cons_of_mem _ List.mem_cons_self)).1, rfl, _, rfl⟩ ⟨_, (NN _ List.mem_cons_self).1, rfl, _, rfl⟩ (.cons _ _ (.cons _ _ (.cons _ _ .nil))) (.cons _ _ (.cons _ _ (.cons _ _ .nil))) (by show un + 64 < cLine; omega) ?_
        rw [show (!decide (([0, 0, 0] : List Int) = [0, 0, 0])) = false from by decide]
        k_steps
        refine StopD.out ?_
        (rename Fr _ _ _ _ => FF); (rename News _ _ _ _ => NN)
        have e9 := mx_eq hmx hmn (by assumption) (by assumption) (by assumption) (by assumption) (by assumption) (by assumption) (by assumption) (by assumption)
        refine ke_ne_ints ⟨_, (NN _ (List.mem_cons_of_mem _ List.mem_cons_self)).1, rfl, _, rfl⟩ ⟨_, (NN _ List.mem_cons_self).1, rfl, _, rfl⟩ (.cons _ _ (.cons _ _ .nil)) (.cons _ _ (.cons _ _ .nil)) (by show un + 64 < cLine; omega) ?_
        rw [e9, show ∀ l : List Int, (!decide (l = l)) = false from fun l => by simp]
        clear e9
        k_steps
        exact hret _ _ _ _ _ _ FF.keep (NN (D2, _) (by k_mem)).2.2 (NN (D2, _) (by k_mem)).1
end
end Mine
end

section
open PySem PySem.W PyProof.Rows PySem.Calls
namespace Mine
theorem news2 {h₀ h : Heap} {L : Addr} {l : List (Addr × Obj)} {p q : Addr × Obj} (N : News h₀ L h l) (hp : p ∈ l) (hq : q ∈ l) : News h₀ L h [p, q] := fun r hr => by
  rcases List.mem_cons.mp hr with rfl | hr
  · exact N _ hp
  · rw [List.mem_singleton.mp hr]; exact N _ hq
theorem part3 {way x y z : Int} {t u v' : Tok} {i : Nat} {v : Value} (h : #[Value.int x t, Value.int y u, Value.int z v'][i]? = some v)
    (hx : Float64.isInf (q512 (wq way x)) = false) (hy : Float64.isInf (q512 (wq way y)) = false) (hz : Float64.isInf (q512 (wq way z)) = false) :
    ∃ p tk, v = Value.int p tk ∧ Float64.isInf (q512 (wq way p)) = false ∧ q512 (wq way (sel x y z i)) = q512 (wq way p) := by
  rcases three_at h with ⟨rfl, rfl⟩ | ⟨rfl, rfl⟩ | ⟨rfl, rfl⟩
  · exact ⟨_, _, rfl, hx, rfl⟩
  · exact ⟨_, _, rfl, hy, rfl⟩
  · exact ⟨_, _, rfl, hz, rfl⟩
theorem wq_2 {way x : Int} (h : way = 2) : wq way x = 512 - x := if_pos h
theorem wq_n {way x : Int} (h : way ≠ 2) : wq way x = x := if_neg h
set_option compiler.extract_closed false
local macro_rules
  | `(tactic| walk_at "execs cons") => `(tactic| (k_here; with_reducible refine stop_asg ?_))
  | `(tactic| walk_at "eval Name") => `(tactic| (k_here; (with_reducible refine nm_c ?_); k_dflt (first | refine ldVarF (by with_reducible assumption) (by with_reducible assumption) ?_ rfl rfl (by decide) | refine ldCellF (by with_reducible assumption) rfl (by with_reducible assumption) ?_ rfl rfl (by decide)); k_whole))
  | `(tactic| walk_at $k:str) => if ["eval ListComp", "pyIter ref", "call ref"].contains k.getString then `(tactic| (k_here; refine StopD.mk ?_)) else Lean.Macro.throwUnsupported
section
variable {w : World} {mean : ExcName → Option Value} {mg mb : Str → Option Value} {dp un : Nat} {gd : Option (List Code)} {cn : Str} {cs : Scope} {a : Addr} {ccd : Value} {cl : List (Str × Addr)} {outer : List Env} {A₀ : Around} {base h₀ : Heap} {L : Addr} {m : Str → Option Value} {s : Shared} {Q E : Value → Shared → Prop} {news : List (Addr × Obj)}
/-- what the floats must be by the first way -/
abbrev HsvOk (fx fy fz hu ro go bo : UInt64) (k : Int) : Prop := ∃ sh va, hsvF fx fy fz = (hu, sh, va) ∧
  ((Float64.cmp (fmin3 fx fy fz) (fmax3 fx fy fz) == some .eq) = false → Float64.isZero (fmax3 fx fy fz) = false ∧ Float64.isZero (Float64.sub (fmax3 fx fy fz) (fmin3 fx fy fz)) = false) ∧
  unhsvF (Float64.add hu (Float64.mul (Float64.ofInt k) 4595172819793696085)) sh va = (ro, go, bo) ∧
  ((Float64.cmp sh 0 == some .eq) = false → Float64.isNaN (Float64.mul (Float64.add hu (Float64.mul (Float64.ofInt k) 4595172819793696085)) 4618441417868443648) = false ∧ Float64.isInf (Float64.mul (Float64.add hu (Float64.mul (Float64.ofInt k) 4595172819793696085)) 4618441417868443648) = false ∧ (Flt.toInt Float64.truncOf (Float64.mul (Float64.add hu (Float64.mul (Float64.ofInt k) 4595172819793696085)) 4618441417868443648)).natAbs < 2 ^ 1024 - 2 ^ 970)
abbrev HlsOk (fx fy fz hu ro go bo : UInt64) (k : Int) : Prop := ∃ li sh, hlsF fx fy fz = (hu, li, sh) ∧
  ((Float64.cmp (fmin3 fx fy fz) (fmax3 fx fy fz) == some .eq) = false → Float64.isZero (Float64.add (fmax3 fx fy fz) (fmin3 fx fy fz)) = false ∧ Float64.isZero (Float64.sub (fmax3 fx fy fz) (fmin3 fx fy fz)) = false ∧ Float64.isZero (Float64.sub (Float64.sub 4611686018427387904 (fmax3 fx fy fz)) (fmin3 fx fy fz)) = false) ∧
  unhlsF (Float64.add hu (Float64.mul (Float64.ofInt k) 4595172819793696085)) li sh = (ro, go, bo)
set_option maxRecDepth 100000 in
set_option maxHeartbeats 8000000 in
theorem led_call
  (B : Below A₀ base outer h₀) (F : Fr h₀ L s.heap m) (KX : (hd.heap_39 w.params).In h₀) (T : Top hd.view_39 (looseW hd.view_39 LS) mean mg mb h₀) (hk : cs.kind = .function)
  (hdp : dp + 3 < recursionLimit) (hun : un + 128 < cLine) {p : Addr} {x y z k way : Int} {t1 t2 t3 t4 t5 : Tok} {ra rb rc : Int}
  (hp : s.heap.IsList p #[.int x t1, .int y t2, .int z t3])
  {hu ro go bo : UInt64} (hx0 : Float64.isInf (q512 (wq way x)) = false) (hy0 : Float64.isInf (q512 (wq way y)) = false) (hz0 : Float64.isInf (q512 (wq way z)) = false)
  (H0 : way = 0 → HsvOk (q512 (wq way x)) (q512 (wq way y)) (q512 (wq way z)) hu ro go bo k)
  (H1 : way ≠ 0 → HlsOk (q512 (wq way x)) (q512 (wq way y)) (q512 (wq way z)) hu ro go bo k)
  (hk0 : k.natAbs < 2 ^ 1024 - 2 ^ 970)
  (v1 : FinF (Float64.mul ro (Float64.ofInt (2 ^ Int.toNat 30)))) (v2 : FinF (Float64.mul go (Float64.ofInt (2 ^ Int.toNat 30)))) (v3 : FinF (Float64.mul bo (Float64.ofInt (2 ^ Int.toNat 30))))
  (u0 : (Float64.cmpInt hu 0 == some .gt || Float64.cmpInt hu 0 == some .eq) = true) (u1 : (Float64.cmpInt hu 1 == some .lt) = true)
  (f1 : (nr30 ro).fmod (2 ^ Int.toNat 21) = 0) (f2 : (nr30 go).fmod (2 ^ Int.toNat 21) = 0) (f3 : (nr30 bo).fmod (2 ^ Int.toNat 21) = 0)
  (q1 : wq way ((nr30 ro).fdiv (2 ^ Int.toNat 21)) = ra) (q2 : wq way ((nr30 go).fdiv (2 ^ Int.toNat 21)) = rb) (q3 : wq way ((nr30 bo).fdiv (2 ^ Int.toNat 21)) = rc)
  (hmx : max (max ra rb) rc = max (max x y) z) (hmn : min (min ra rb) rc = min (min x y) z)
  (hret : ∀ D u1 u2 u3 h' tk', (∀ b o, s.heap.get? b = some o → h'.get? b = some o) → s.heap.get? D = none → h'.get? D = some (LCg.lst [.int ra u1, .int rb u2, .int rc u3]) → Q (.ref D) { s with heap := h', toks := tk' }) :
  wpAny (model PR w) (ktrTop dp un gd cn cs L a ccd cl outer) (call (.ref 54) [.ref p, .int k t4, .int way t5]) Q E s := by
  w_top off
  refine wpAny_call ?_
  k_dflt (refine' enterC ?k1 ?k2 ?k3 ?k5 ?kA ?kF ?kK ?k6 ?k7 ?k8 ?k9 ?kB ?kD ?_ ?c2 ?c3 ?c4; (case kA => exact rfl); (case kF => exact rfl); (case kK => assumption); (case k1 => k_asm); (case k2 => k_asm); (case k3 => k_asm); (case k5 => k_asm); (case k6 => k_is); (case k7 => k_is); (case k8 => ktr_room); (case k9 => exact rfl); (case kB => exact rfl); (case kD => decide +kernel); (case c2 => exact rfl); (case c3 => exact rfl); (case c4 => exact rfl); k_whole; intro L' h' tk' cells' F' N' Y' B' X' T' eL'; k_cells Y'; (try simp only [List.cons_append, List.nil_append] at N'); (try dsimp only); (try k_fold))
  (try clear B F KX T)
  k_steps
  refine StopD.out ?_
  refine grow_ListComp (by with_unfolding_all rfl) (by decide) (by rfl) (by decide) ?_ (by intro _; with_unfolding_all rfl)
  k_steps
  refine StopD.out ?_
  (rename Fr _ _ _ _ => F1); (rename News _ _ _ _ => N1); (rename _ = Data.cell _ => hd1); (rename Top _ _ _ _ _ _ => T1); (rename Frag.In _ _ => KX1)
  refine useEq0 (show _ = Data.cell (some (.int way t5)) from hd1) fun hd1' => ?_
  clear hd1
  refine LC_list (its := #[Value.int x t1, Value.int y t2, Value.int z t3]) (RV fun i t => .float (q512 (wq way (sel x y z i))) t) rfl rfl rfl (hp.at fun o e => F1.keep _ _ e) (Nat.le_of_ble_eq_true rfl) ?_ ?_
  · rintro i v C h5 tk5 m5 s5 E5 ⟨g5, rfl⟩ hv hn5 hm5 hC5 up5
    obtain ⟨pv, tb, rfl, fin5, ex5⟩ := part3 hv hx0 hy0 hz0
    have hcell5 : Heap.IsCell _ (_ + 1) (some (.int way t5)) := ⟨_, (N1 _ List.mem_cons_self).1, hd1'⟩
    have KX5 := KX1.keeps F1.keep
    have T5 := T1.keeps F1.keep
    clear hret hmx hmn q1 q2 q3 f1 f2 f3 u0 u1 hv N1 hp F1 KX1 T1 H0 H1 hx0 hy0 hz0 hk0 v1 v2 v3
    refine elt_g hC5 hn5 up5 fun sn FC NC KC => ?_
    (try dsimp only at FC NC hC5)
    clear up5 hn5
    k_steps
    · exfalso; rw [wq_2 (by assumption)] at fin5; exact Bool.noConfusion (fin5.symm.trans (by assumption))
    · refine ⟨_, _, _, _, [], rfl, by with_reducible assumption, by with_reducible assumption, fun p hp => ?_, fun _ p hp => (by cases hp), _, congrArg (fun z => Value.float z _) (?_ : q512 _ = _)⟩
      · repeat (first | exact hp | refine List.mem_cons_of_mem _ ?_)
      · exact (ex5.trans (by rw [wq_2 (by assumption)])).symm
    · exfalso; rw [wq_n (by assumption)] at fin5; exact Bool.noConfusion (fin5.symm.trans (by assumption))
    · refine ⟨_, _, _, _, [], rfl, by with_reducible assumption, by with_reducible assumption, fun p hp => ?_, fun _ p hp => (by cases hp), _, congrArg (fun z => Value.float z _) (?_ : q512 _ = _)⟩
      · repeat (first | exact hp | refine List.mem_cons_of_mem _ ?_)
      · exact (ex5.trans (by rw [wq_n (by assumption)])).symm
  · intro g5
    refine doneV ⟨_, rfl⟩ fun D w0 w1 w2 h6 tk6 up6 hD6 hD60 => ?_
    have F2 := fr_up F1 up6
    have N2 := news_new F1 (news_up N1 up6) (o := LCg.lst [.float (q512 (wq way x)) w0, .float (q512 (wq way y)) w1, .float (q512 (wq way z)) w2]) hD6 hD60
    clear F1 N1 up6 hD6 hD60 g5
    k_steps
    · obtain ⟨sh, va, e1, hz1, e2, hz2⟩ := H0 (by assumption)
      clear H0 H1
      refine StopD.out ?_; (k_dflt (refine' rgb_to_hsv_call ?k1 ?k2 ?k3 ?k4 ?k5 ?kK ?kd ?ku ?kz ?_; (case k1 => k_asm); (case k2 => k_asm); (case k3 => k_asm); (case k4 => k_asm); (case k5 => k_asm); (case kK => first | exact rfl | assumption); (case kd => ktr_room); (case ku => ktr_units); (case kz => assumption); k_whole)); (rename hsvF _ _ _ = _ => e0); intro D9 x9 y9 z9 u9 v9 w9 c9 h9 tk9 e9 F9 N9 l9; (have q9 := e0.symm.trans e9); (simp only [Prod.mk.injEq] at q9); (obtain ⟨q1', q2', q3'⟩ := q9); subst q1'; subst q2'; subst q3'; clear e9; (try k_lt l9); (try dsimp only); (try k_fold); k_steps
      refine StopD.out ?_; (k_dflt (refine' rgb_to_hsv_ints ?k1 ?k2 ?k3 ?k4 ?k5 ?kK ?kd ?ku ?_; (case k1 => k_asm); (case k2 => k_asm); (case k3 => k_asm); (case k4 => k_asm); (case k5 => k_asm); (case kK => first | exact rfl | assumption); (case kd => ktr_room); (case ku => ktr_units); k_whole)); intro D9 x9 y9 z9 u9 c9 h9 tk9 e9 F9 N9 l9; subst e9; (try k_lt l9); (try dsimp only); (try k_fold); k_steps
      refine StopD.out ?_; (k_dflt (refine' hsv_to_rgb_call ?k1 ?k2 ?k3 ?k4 ?k5 ?kK ?kd ?ku ?kz ?_; (case k1 => k_asm); (case k2 => k_asm); (case k3 => k_asm); (case k4 => k_asm); (case k5 => k_asm); (case kK => first | exact rfl | assumption); (case kd => ktr_room); (case ku => ktr_units); (case kz => assumption); k_whole)); (rename unhsvF _ _ _ = _ => e0); intro D9 x9 y9 z9 u9 v9 w9 c9 h9 tk9 e9 F9 N9 l9; (have q9 := e0.symm.trans e9); (simp only [Prod.mk.injEq] at q9); (obtain ⟨q1', q2', q3'⟩ := q9); subst q1'; subst q2'; subst q3'; clear e9; (try k_lt l9); (try dsimp only); (try k_fold); k_steps
      all_goals (first
        | (exfalso; exact absurd hk0 (Nat.not_lt.mpr (by assumption)))
        | (refine StopD.out ?_; (rename Fr _ _ _ _ => FF); (rename News _ _ _ _ => NN); k_dflt (refine' led_tail (way := way) (ho := ?ho) (hbody := rfl) ?B FF ?KX ?T ?hun hp ?m1 ?m2 ?m3 hd1' (news2 NN ?n1 ?n2) v1 v2 v3 u0 u1 f1 f2 f3 q1 q2 q3 hmx hmn ?hr; (case ho => k_is); (case B => assumption); (case KX => assumption); (case T => assumption); (case hun => ktr_units); (case m1 => rfl); (case m2 => rfl); (case m3 => rfl); (case n1 => k_mem); (case n2 => k_mem); (case hr => exact fun D u1 u2 u3 h' tk' a b c => hret D u1 u2 u3 h' tk' a b c)))
        | skip)
    · obtain ⟨li, sh, e1, hz1, e2⟩ := H1 (by assumption)
      clear H0 H1
      refine StopD.out ?_; (k_dflt (refine' rgb_to_hls_call ?k1 ?k2 ?k3 ?k4 ?k5 ?kK ?kd ?ku ?kz ?_; (case k1 => k_asm); (case k2 => k_asm); (case k3 => k_asm); (case k4 => k_asm); (case k5 => k_asm); (case kK => first | exact rfl | assumption); (case kd => ktr_room); (case ku => ktr_units); (case kz => assumption); k_whole)); (rename hlsF _ _ _ = _ => e0); intro D9 x9 y9 z9 u9 v9 w9 c9 h9 tk9 e9 F9 N9 l9; (have q9 := e0.symm.trans e9); (simp only [Prod.mk.injEq] at q9); (obtain ⟨q1', q2', q3'⟩ := q9); subst q1'; subst q2'; subst q3'; clear e9; (try k_lt l9); (try dsimp only); (try k_fold); k_steps
      refine StopD.out ?_; (k_dflt (refine' rgb_to_hls_ints ?k1 ?k2 ?k3 ?k4 ?k5 ?kK ?kd ?ku ?_; (case k1 => k_asm); (case k2 => k_asm); (case k3 => k_asm); (case k4 => k_asm); (case k5 => k_asm); (case kK => first | exact rfl | assumption); (case kd => ktr_room); (case ku => ktr_units); k_whole)); intro D9 x9 y9 z9 u9 c9 h9 tk9 e9 F9 N9 l9; subst e9; (try k_lt l9); (try dsimp only); (try k_fold); k_steps
      refine StopD.out ?_; (k_dflt (refine' hls_to_rgb_call ?k1 ?k2 ?k3 ?k4 ?k5 ?kK ?kd ?ku ?_; (case k1 => k_asm); (case k2 => k_asm); (case k3 => k_asm); (case k4 => k_asm); (case k5 => k_asm); (case kK => first | exact rfl | assumption); (case kd => ktr_room); (case ku => ktr_units); k_whole)); (rename unhlsF _ _ _ = _ => e0); intro D9 x9 y9 z9 u9 v9 w9 c9 h9 tk9 e9 F9 N9 l9; (have q9 := e0.symm.trans e9); (simp only [Prod.mk.injEq] at q9); (obtain ⟨q1', q2', q3'⟩ := q9); subst q1'; subst q2'; subst q3'; clear e9; (try k_lt l9); (try dsimp only); (try k_fold); k_steps
      all_goals (first
        | (exfalso; exact absurd hk0 (Nat.not_lt.mpr (by assumption)))
        | (refine StopD.out ?_; (rename Fr _ _ _ _ => FF); (rename News _ _ _ _ => NN); k_dflt (refine' led_tail (way := way) (ho := ?ho) (hbody := rfl) ?B FF ?KX ?T ?hun hp ?m1 ?m2 ?m3 hd1' (news2 NN ?n1 ?n2) v1 v2 v3 u0 u1 f1 f2 f3 q1 q2 q3 hmx hmn ?hr; (case ho => k_is); (case B => assumption); (case KX => assumption); (case T => assumption); (case hun => ktr_units); (case m1 => rfl); (case m2 => rfl); (case m3 => rfl); (case n1 => k_mem); (case n2 => k_mem); (case hr => exact fun D u1 u2 u3 h' tk' a b c => hret D u1 u2 u3 h' tk' a b c)))
        | skip)
end
end Mine
end

section
open PySem PySem.Float64
namespace Mine
theorem V_grid (k : Nat) : ∀ q : Nat, q ≤ 2 ^ 53 → ∃ t, V t = q * 2 ^ k := by
  induction k with
  | zero => exact fun q hq => ⟨0 * 2 ^ 52 + q, V_at hq (.inr rfl)⟩
  | succ k ih =>
    intro q hq
    by_cases h : 2 ^ 52 ≤ q
    · exact ⟨_, V_at hq (.inl h)⟩
    · obtain ⟨t, ht⟩ := ih (2 * q) (by omega)
      exact ⟨t, by rw [ht, Nat.pow_succ]; ac_rfl⟩
theorem right_fin {r : UInt64} {neg : Bool} {W D g : Nat} (h : Right r neg W D) (hD : 0 < D) (hg : g ≤ 1900) (hW : W ≤ D * (2 ^ 53 * 2 ^ g)) :
    ∃ t, t < infMag ∧ r = pack neg t ∧ ∀ t', dist W (D * V t) ≤ dist W (D * V t') := by
  obtain ⟨t, rfl, hle, hov, hn⟩ := h
  have hlt : t < infMag := by
    rcases Nat.lt_or_eq_of_le hle with h | h
    · exact h
    · exfalso
      have h1 := hov.mp h
      have e1 : 2 ^ 2045 = 2 ^ 145 * 2 ^ 1900 := (Nat.pow_add 2 145 1900)
      have e2 : 2 ^ g ≤ 2 ^ 1900 := Nat.pow_le_pow_right (by decide) hg
      rw [e1] at h1
      have e3 : 0 < 2 ^ 1900 := Nat.two_pow_pos 1900
      generalize 2 ^ 1900 = P at *
      generalize 2 ^ g = G at *
      have h3 : D * ((2 ^ 54 - 1) * (2 ^ 145 * P)) ≤ D * (2 * (2 ^ 53 * P)) := by
        refine Nat.le_trans h1 (Nat.le_trans (Nat.mul_le_mul_left 2 (Nat.le_trans hW (Nat.mul_le_mul_left D (Nat.mul_le_mul_left _ e2)))) ?_)
        rw [Nat.mul_left_comm]
        exact Nat.le_refl _
      have h4 := Nat.le_of_mul_le_mul_left h3 hD
      omega
  exact ⟨t, hlt, rfl, fun t' => (hn hlt t').1⟩
theorem right_dist {r : UInt64} {neg : Bool} {W D g : Nat} (h : Right r neg W D) (hD : 0 < D) (hg : g ≤ 1900) (hW : W ≤ D * (2 ^ 53 * 2 ^ g)) :
    ∃ t, t < infMag ∧ r = pack neg t ∧ dist W (D * V t) ≤ D * 2 ^ g := by
  obtain ⟨t, hlt, hr, hn⟩ := right_fin h hD hg hW
  refine ⟨t, hlt, hr, ?_⟩
  have hP : 0 < D * 2 ^ g := Nat.mul_pos hD (Nat.two_pow_pos _)
  obtain ⟨t', ht'⟩ := V_grid g (W / (D * 2 ^ g)) (by
    apply Nat.div_le_of_le_mul
    refine Nat.le_trans hW (Nat.le_of_eq ?_)
    ac_rfl)
  refine Nat.le_trans (hn t') ?_
  rw [ht']
  have e : D * (W / (D * 2 ^ g) * 2 ^ g) = D * 2 ^ g * (W / (D * 2 ^ g)) := by ac_rfl
  have h1 := Nat.div_add_mod W (D * 2 ^ g)
  have h2 := Nat.mod_lt W hP
  rw [e]
  unfold dist
  generalize D * 2 ^ g * (W / (D * 2 ^ g)) = A at *
  generalize W % (D * 2 ^ g) = B at *
  omega
/-- the exact answer is a float's value: it is given -/
theorem right_exact {r : UInt64} {neg : Bool} {W D g q : Nat} (h : Right r neg W D) (hD : 0 < D) (hg : g ≤ 1900) (hq : q ≤ 2 ^ 53) (hW : W = D * (q * 2 ^ g)) :
    ∃ t, t < infMag ∧ r = pack neg t ∧ D * V t = W := by
  obtain ⟨t, hlt, hr, hn⟩ := right_fin h hD hg (by rw [hW]; exact Nat.mul_le_mul_left _ (Nat.mul_le_mul_right _ hq))
  obtain ⟨t', ht'⟩ := V_grid g q hq
  refine ⟨t, hlt, hr, ?_⟩
  have := hn t'
  rw [ht', ← hW] at this
  unfold dist at this
  omega

def Fin' (x : UInt64) : Prop := ∃ a m e, decode x = .fin a m e
noncomputable def KQ : Rat := ((2 ^ 1074 : Nat) : Rat)
noncomputable def rv (x : UInt64) : Rat := (val x : Rat) / KQ
theorem KQ_pos : 0 < KQ := by unfold KQ; exact_mod_cast Nat.two_pow_pos 1074
theorem rv_mul (x : UInt64) : rv x * KQ = (val x : Rat) := by unfold rv; exact Rat.div_mul_cancel (by have := KQ_pos; grind)
/-- r is a float that differs from e by no more than d -/
def Near (r : UInt64) (e d : Rat) : Prop := Fin' r ∧ rv r - e ≤ d ∧ e - rv r ≤ d
theorem rat_le_of {a b c : Rat} (hc : 0 < c) (h : a * c ≤ b * c) : a ≤ b := Rat.le_of_mul_le_mul_right h hc
theorem near_of {r : UInt64} {neg : Bool} {W D g : Nat} {e d : Rat} (h : Right r neg W D) (hD : 0 < D) (hg : g ≤ 1900) (hW : W ≤ D * (2 ^ 53 * 2 ^ g))
    (he : e * ((D : Rat) * KQ) = ((sgn neg W : Int) : Rat)) (hd : d * KQ = ((2 ^ g : Nat) : Rat)) : Near r e d := by
  obtain ⟨t, hlt, rfl, hdist⟩ := right_dist h hD hg hW
  obtain ⟨m, f, hdec, _⟩ := decode_pack neg hlt
  have hDq : (0 : Rat) < (D : Rat) := by exact_mod_cast hD
  have hc : (0 : Rat) < (D : Rat) * KQ := Rat.mul_pos hDq KQ_pos
  have hv : rv (pack neg t) * ((D : Rat) * KQ) = ((sgn neg (V t) * (D : Int) : Int) : Rat) := by
    have := rv_mul (pack neg t)
    rw [val_pack neg hlt] at this
    rw [Rat.intCast_mul, ← this]
    have : ((D : Int) : Rat) = (D : Rat) := by norm_cast
    rw [this]
    grind
  have hd' : d * ((D : Rat) * KQ) = ((D * 2 ^ g : Nat) : Rat) := by
    rw [Rat.natCast_mul, ← hd]; grind
  have key : (sgn neg (V t) * (D : Int) - sgn neg W ≤ ((D * 2 ^ g : Nat) : Int)) ∧ (sgn neg W - sgn neg (V t) * (D : Int) ≤ ((D * 2 ^ g : Nat) : Int)) := by
    rw [← sgn_mul, Nat.mul_comm (V t) D]
    unfold dist at hdist
    generalize D * V t = A at *
    generalize D * 2 ^ g = B at *
    unfold sgn
    cases neg <;> simp only [if_true, if_false, Bool.false_eq_true] <;> omega
  have k1 := Rat.intCast_le_intCast.mpr key.1
  have k2 := Rat.intCast_le_intCast.mpr key.2
  rw [Rat.intCast_sub, ← hv, ← he] at k1 k2
  have hcast : ((((D * 2 ^ g : Nat) : Int)) : Rat) = ((D * 2 ^ g : Nat) : Rat) := by norm_cast
  rw [hcast, ← hd'] at k1 k2
  refine ⟨⟨_, _, _, hdec⟩, rat_le_of hc ?_, rat_le_of hc ?_⟩
  · generalize (D : Rat) * KQ = c at *; grind
  · generalize (D : Rat) * KQ = c at *; grind
end Mine
end

section
open PySem PySem.Float64
namespace Mine
theorem castN (n : Nat) : (((n : Nat) : Int) : Rat) = (n : Rat) := by norm_cast
theorem c53 : ((2 ^ 53 : Nat) : Rat) = 9007199254740992 := by rw [show (2 : Nat) ^ 53 = 9007199254740992 by decide]; rfl
theorem c49 : ((2 ^ 49 : Nat) : Rat) = 562949953421312 := by rw [show (2 : Nat) ^ 49 = 562949953421312 by decide]; rfl
theorem c22 : ((2 ^ 22 : Nat) : Rat) = 4194304 := by rw [show (2 : Nat) ^ 22 = 4194304 by decide]; rfl
theorem near_of' {r : UInt64} {neg : Bool} {W D g : Nat} {e d : Rat} (h : Right r neg W D) (hD : 0 < D) (hg : g ≤ 1900)
    (he : e * ((D : Rat) * KQ) = ((sgn neg W : Int) : Rat)) (hd : d * KQ = ((2 ^ g : Nat) : Rat)) (h1 : e ≤ 9007199254740992 * d) (h2 : -(9007199254740992 * d) ≤ e) : Near r e d := by
  refine near_of h hD hg ?_ he hd
  have hDq : (0 : Rat) < (D : Rat) := by exact_mod_cast hD
  have hc : (0 : Rat) < (D : Rat) * KQ := Rat.mul_pos hDq KQ_pos
  have hN : 9007199254740992 * d * ((D : Rat) * KQ) = ((((D * (2 ^ 53 * 2 ^ g) : Nat) : Int)) : Rat) := by
    have : ((((D * (2 ^ 53 * 2 ^ g) : Nat) : Int)) : Rat) = (D : Rat) * (9007199254740992 * ((2 ^ g : Nat) : Rat)) := by
      rw [castN, Rat.natCast_mul, Rat.natCast_mul, c53]
    rw [this, ← hd]; grind
  have k1 := Rat.mul_le_mul_of_nonneg_right h1 (Rat.le_of_lt hc)
  have k2 := Rat.mul_le_mul_of_nonneg_right h2 (Rat.le_of_lt hc)
  rw [he, hN] at k1
  rw [he, show -(9007199254740992 * d) * ((D : Rat) * KQ) = -(9007199254740992 * d * ((D : Rat) * KQ)) by grind, hN, ← Rat.intCast_neg] at k2
  have i1 := Rat.intCast_le_intCast.mp k1
  have i2 := Rat.intCast_le_intCast.mp k2
  generalize D * (2 ^ 53 * 2 ^ g) = B at *
  unfold sgn at i1 i2
  cases neg <;> simp only [if_true, if_false, Bool.false_eq_true] at i1 i2 <;> omega
theorem d49 : (1 / 562949953421312 : Rat) * KQ = ((2 ^ 1025 : Nat) : Rat) := by
  unfold KQ
  have e1 : 2 ^ 1074 = 2 ^ 1025 * 2 ^ 49 := Nat.pow_add 2 1025 49
  rw [e1, Rat.natCast_mul, c49]
  generalize ((2 ^ 1025 : Nat) : Rat) = P
  grind
theorem d22 : (1 / 4194304 : Rat) * KQ = ((2 ^ 1052 : Nat) : Rat) := by
  unfold KQ
  have e1 : 2 ^ 1074 = 2 ^ 1052 * 2 ^ 22 := Nat.pow_add 2 1052 22
  rw [e1, Rat.natCast_mul, c22]
  generalize ((2 ^ 1052 : Nat) : Rat) = P
  grind
theorem sgn_sgn (a b : Bool) (m k : Nat) : sgn (a != b) (m * k) = sgn a m * sgn b k := by
  unfold sgn
  cases a <;> cases b <;> simp [Int.neg_mul, Int.mul_neg]
theorem sgn_abs_val {x : UInt64} {a : Bool} {m : Nat} {e : Int} (h : decode x = .fin a m e) : sgn a (val x).natAbs = val x := by rw [val_natAbs h, val_eq h]
theorem sgn_lt (i : Int) : sgn (decide (i < 0)) i.natAbs = i := by
  unfold sgn; by_cases h : i < 0 <;> simp [h] <;> omega
theorem val_zero (b : Bool) : val (zero b) = 0 := by rw [show zero b = pack b 0 by unfold zero; rfl, val_pack b (by decide), V_zero]; cases b <;> rfl
theorem fin_zero (b : Bool) : Fin' (zero b) := by rw [show zero b = pack b 0 by unfold zero; rfl]; obtain ⟨m, e, h, _⟩ := decode_pack b (t := 0) (by decide); exact ⟨_, _, _, h⟩
variable {x y : UInt64} {d : Rat} {g : Nat}
theorem add_near (hx : Fin' x) (hy : Fin' y) (hg : g ≤ 1900) (hd : d * KQ = ((2 ^ g : Nat) : Rat)) (h1 : rv x + rv y ≤ 9007199254740992 * d) (h2 : -(9007199254740992 * d) ≤ rv x + rv y) : Near (add x y) (rv x + rv y) d := by
  obtain ⟨a, m, e, hx⟩ := hx
  obtain ⟨b, k, f, hy⟩ := hy
  have hs : (rv x + rv y) * KQ = ((val x + val y : Int) : Rat) := by rw [Rat.intCast_add, ← rv_mul, ← rv_mul]; grind
  have R := add_right hx hy
  by_cases h0 : val x + val y = 0
  · rw [R.1 h0]
    have hK := KQ_pos
    have z : rv x + rv y = 0 := by
      rw [h0] at hs
      have : (rv x + rv y) * KQ = 0 * KQ := by rw [hs]; grind
      grind
    have z2 : rv (zero (a && b)) = 0 := by unfold rv; rw [val_zero]; grind
    have hd0 : 0 ≤ d := by
      have : (0:Rat) * KQ ≤ d * KQ := by rw [hd]; have : (0:Rat) ≤ ((2^g : Nat) : Rat) := by exact_mod_cast Nat.zero_le _
                                         grind
      exact rat_le_of hK this
    refine ⟨fin_zero _, ?_, ?_⟩ <;> rw [z, z2] <;> grind
  · refine near_of' (R.2 h0) (by decide) hg ?_ hd h1 h2
    rw [sgn_lt, ← hs]; grind
theorem neg_fin (hy : Fin' y) : Fin' (Float64.neg y) := by
  obtain ⟨b, k, f, hy⟩ := hy; exact ⟨_, _, _, neg_decode hy⟩
theorem neg_rv (hy : Fin' y) : rv (Float64.neg y) = -rv y := by
  obtain ⟨b, k, f, hy⟩ := hy
  unfold rv
  rw [neg_val hy, Rat.intCast_neg]; grind
theorem sub_near (hx : Fin' x) (hy : Fin' y) (hg : g ≤ 1900) (hd : d * KQ = ((2 ^ g : Nat) : Rat)) (h1 : rv x - rv y ≤ 9007199254740992 * d) (h2 : -(9007199254740992 * d) ≤ rv x - rv y) : Near (sub x y) (rv x - rv y) d := by
  have e : rv x - rv y = rv x + rv (Float64.neg y) := by rw [neg_rv hy]; grind
  rw [e] at h1 h2 ⊢
  unfold Float64.sub
  exact add_near hx (neg_fin hy) hg hd h1 h2
theorem mul_near (hx : Fin' x) (hy : Fin' y) (hg : g ≤ 1900) (hd : d * KQ = ((2 ^ g : Nat) : Rat)) (h1 : rv x * rv y ≤ 9007199254740992 * d) (h2 : -(9007199254740992 * d) ≤ rv x * rv y) : Near (mul x y) (rv x * rv y) d := by
  obtain ⟨a, m, e, hx⟩ := hx
  obtain ⟨b, k, f, hy⟩ := hy
  refine near_of' (mul_right hx hy) (Nat.two_pow_pos _) hg ?_ hd h1 h2
  rw [sgn_sgn, sgn_abs_val hx, sgn_abs_val hy, Rat.intCast_mul, ← rv_mul, ← rv_mul]
  show rv x * rv y * (KQ * KQ) = _
  grind
theorem div_near (hx : Fin' x) (hy : Fin' y) (hp : 0 < rv y) (hg : g ≤ 1900) (hd : d * KQ = ((2 ^ g : Nat) : Rat)) (h1 : rv x / rv y ≤ 9007199254740992 * d) (h2 : -(9007199254740992 * d) ≤ rv x / rv y) : Near (div x y) (rv x / rv y) d := by
  obtain ⟨a, m, e, hx⟩ := hx
  obtain ⟨b, k, f, hy⟩ := hy
  have hv : 0 < val y := by
    have := Rat.mul_pos hp KQ_pos
    rw [rv_mul] at this
    exact_mod_cast this
  have hk : k ≠ 0 := by
    intro h; rw [val_eq hy, h] at hv; unfold sgn at hv; simp at hv
  have hb : b = false := by
    rw [val_eq hy] at hv
    cases b
    · rfl
    · unfold sgn at hv; simp only [if_true] at hv; omega
  subst hb
  refine near_of' (div_right hx hy hk) (by omega) hg ?_ hd h1 h2
  have e1 : sgn (a != false) ((val x).natAbs * 2 ^ 1074) = val x * ((2 ^ 1074 : Nat) : Int) := by
    rw [show (a != false) = a by cases a <;> rfl, sgn_mul, sgn_abs_val hx]
  have e2 : (((val y).natAbs : Nat) : Rat) = rv y * KQ := by
    rw [rv_mul]
    have : ((val y).natAbs : Int) = val y := by omega
    exact_mod_cast congrArg (fun i : Int => (i : Rat)) this
  rw [e1, e2, Rat.intCast_mul, ← rv_mul]
  have : (((2 ^ 1074 : Nat) : Int) : Rat) = KQ := castN _
  rw [this]
  have := @Rat.div_mul_cancel (rv x) (rv y) (by grind)
  grind
end Mine
end

section
open PySem PySem.Float64
namespace Mine
variable {x y : UInt64}
theorem fin_not (h : Fin' x) : isNaN x = false ∧ isInf x = false := by
  obtain ⟨a, m, e, h⟩ := h
  unfold isNaN isInf
  rw [h]; exact ⟨rfl, rfl⟩
theorem zero_iff (h : Fin' x) : isZero x = true ↔ rv x = 0 := by
  obtain ⟨a, m, e, h⟩ := h
  have h1 := val_natAbs h
  have hK := KQ_pos
  have h2 := rv_mul x
  have h3 : val x = 0 ↔ m = 0 := by
    have : 0 < 2 ^ (e + 1074).toNat := Nat.two_pow_pos _
    constructor
    · intro z; rw [z] at h1; have := Nat.mul_eq_zero.mp h1.symm; (first | lia | omega)
    · intro z; rw [z] at h1; (first | lia | omega)
  have h4 : rv x = 0 ↔ val x = 0 := by
    constructor
    · intro z; rw [z] at h2
      have : ((val x : Int) : Rat) = ((0 : Int) : Rat) := by rw [← h2]; grind
      exact_mod_cast this
    · intro z; rw [z] at h2
      have : rv x * KQ = 0 := by rw [h2]; rfl
      rcases Rat.mul_eq_zero.mp this with h | h
      · exact h
      · rw [h] at hK; grind
  rw [h4, h3]
  unfold isZero
  rw [h]
  cases m <;> simp
theorem rv_lt : rv x < rv y ↔ val x < val y := by
  have hK := KQ_pos
  have h1 := rv_mul x
  have h2 := rv_mul y
  constructor
  · intro h
    have := Rat.mul_lt_mul_of_pos_right h hK
    rw [h1, h2] at this
    exact_mod_cast this
  · intro h
    have h3 : ((val x : Int) : Rat) < ((val y : Int) : Rat) := by exact_mod_cast h
    rw [← h1, ← h2] at h3
    exact Rat.lt_of_mul_lt_mul_right h3 (Rat.le_of_lt hK)
theorem rv_int (i : Int) : (rv x < (i : Rat) ↔ val x < i * 2 ^ 1074) ∧ ((i : Rat) < rv x ↔ i * 2 ^ 1074 < val x) := by
  have hK := KQ_pos
  have h1 := rv_mul x
  have h2 : (i : Rat) * KQ = ((i * ((2 ^ 1074 : Nat) : Int) : Int) : Rat) := by rw [Rat.intCast_mul, castN]; rfl
  have e : ((2 ^ 1074 : Nat) : Int) = (2 : Int) ^ 1074 := by simp
  rw [e] at h2
  generalize (2 : Int) ^ 1074 = P at *
  refine ⟨⟨fun h => ?_, fun h => ?_⟩, ⟨fun h => ?_, fun h => ?_⟩⟩
  · have := Rat.mul_lt_mul_of_pos_right h hK
    rw [h1, h2] at this
    exact_mod_cast this
  · have h3 : ((val x : Int) : Rat) < ((i * P : Int) : Rat) := by exact_mod_cast h
    rw [← h1, ← h2] at h3
    exact Rat.lt_of_mul_lt_mul_right h3 (Rat.le_of_lt hK)
  · have := Rat.mul_lt_mul_of_pos_right h hK
    rw [h1, h2] at this
    exact_mod_cast this
  · have h3 : ((i * P : Int) : Rat) < ((val x : Int) : Rat) := by exact_mod_cast h
    rw [← h1, ← h2] at h3
    exact Rat.lt_of_mul_lt_mul_right h3 (Rat.le_of_lt hK)
theorem compare_beq (p q : Int) : ((some (compare p q) == some Ordering.lt) = true ↔ p < q) ∧ ((some (compare p q) == some Ordering.eq) = true ↔ p = q) ∧ ((some (compare p q) == some Ordering.gt) = true ↔ q < p) := by
  rcases Int.lt_trichotomy p q with h | h | h
  · rw [Int.compare_eq_lt.mpr h]; exact ⟨⟨fun _ => h, fun _ => rfl⟩, ⟨fun z => (by cases z), fun z => (by (first | lia | omega))⟩, ⟨fun z => (by cases z), fun z => (by (first | lia | omega))⟩⟩
  · subst h; rw [show compare p p = .eq from Int.compare_eq_eq.mpr rfl]; exact ⟨⟨fun z => (by cases z), fun z => (by (first | lia | omega))⟩, ⟨fun _ => rfl, fun _ => rfl⟩, ⟨fun z => (by cases z), fun z => (by (first | lia | omega))⟩⟩
  · rw [Int.compare_eq_gt.mpr h]; exact ⟨⟨fun z => (by cases z), fun z => (by (first | lia | omega))⟩, ⟨fun z => (by cases z), fun z => (by (first | lia | omega))⟩, ⟨fun _ => h, fun _ => rfl⟩⟩
theorem cmp_lt (hx : Fin' x) (hy : Fin' y) : (cmp x y == some .lt) = true ↔ rv x < rv y := by
  obtain ⟨_, _, _, hx⟩ := hx; obtain ⟨_, _, _, hy⟩ := hy
  rw [cmp_right hx hy, rv_lt]; exact (compare_beq _ _).1
theorem cmp_eq (hx : Fin' x) (hy : Fin' y) : (cmp x y == some .eq) = true ↔ rv x = rv y := by
  have h1 := @rv_lt x y
  have h2 := @rv_lt y x
  obtain ⟨_, _, _, hx⟩ := hx; obtain ⟨_, _, _, hy⟩ := hy
  rw [cmp_right hx hy, (compare_beq _ _).2.1]
  constructor
  · intro h; unfold rv; rw [h]
  · intro h
    have a1 : ¬ val x < val y := fun q => by have := h1.mpr q; grind
    have a2 : ¬ val y < val x := fun q => by have := h2.mpr q; grind
    (first | lia | omega)
theorem cmpInt_lt (hx : Fin' x) (i : Int) : (cmpInt x i == some .lt) = true ↔ rv x < (i : Rat) := by
  obtain ⟨_, _, _, hx⟩ := hx
  rw [cmpInt_right hx, (rv_int i).1]; exact (compare_beq _ _).1
theorem cmpInt_ge (hx : Fin' x) (i : Int) : (cmpInt x i == some .gt || cmpInt x i == some .eq) = true ↔ (i : Rat) ≤ rv x := by
  have h := (rv_int (x := x) i).1
  obtain ⟨_, _, _, hx⟩ := hx
  rw [cmpInt_right hx, Bool.or_eq_true, (compare_beq _ _).2.2, (compare_beq _ _).2.1]
  constructor
  · intro z
    have a1 : ¬ rv x < (i : Rat) := fun q => by
      have := h.mp q
      generalize i * 2 ^ 1074 = P at *
      (first | lia | omega)
    grind
  · intro z
    have a1 : ¬ rv x < (i : Rat) := by grind
    have a2 : ¬ val x < i * 2 ^ 1074 := fun q => a1 (h.mpr q)
    generalize i * 2 ^ 1074 = P at *
    (first | lia | omega)
theorem natpos {n : Nat} (h : 0 < n) : (0 : Rat) < (n : Rat) := by exact_mod_cast h
/-- a float of known bits: its value is m / 2 ^ j -/
theorem rv_bits {a : Bool} {m j : Nat} (h : decode x = .fin a m (-(j : Int))) (hj : j ≤ 1074) : Fin' x ∧ rv x * ((2 ^ j : Nat) : Rat) = ((sgn a m : Int) : Rat) := by
  refine ⟨⟨_, _, _, h⟩, ?_⟩
  have hK := KQ_pos
  have h1 := rv_mul x
  rw [val_eq h, sgn_mul, Rat.intCast_mul, castN] at h1
  have e0 : (-(j : Int) + 1074).toNat + j = 1074 := by (first | lia | omega)
  have e : 2 ^ ((-(j : Int) + 1074).toNat + j) = 2 ^ (-(j : Int) + 1074).toNat * 2 ^ j := Nat.pow_add _ _ _
  rw [e0] at e
  have e2 : KQ = ((2 ^ (-(j : Int) + 1074).toNat : Nat) : Rat) * ((2 ^ j : Nat) : Rat) := by unfold KQ; rw [e, Rat.natCast_mul]
  have hp : (0 : Rat) < ((2 ^ (-(j : Int) + 1074).toNat : Nat) : Rat) := natpos (Nat.two_pow_pos _)
  rw [e2] at h1
  generalize ((2 ^ (-(j : Int) + 1074).toNat : Nat) : Rat) = P at *
  generalize ((2 ^ j : Nat) : Rat) = J at *
  have : rv x * J * P = ((sgn a m : Int) : Rat) * P := by grind
  have h3 := Rat.mul_eq_zero.mp (show (rv x * J - ((sgn a m : Int) : Rat)) * P = 0 by grind)
  grind

theorem c_of {a : Bool} {m j : Nat} {q M : Rat} (h : decode x = .fin a m (-(j : Int))) (hj : j ≤ 1074) (h1 : ((2 ^ j : Nat) : Rat) = M) (h2 : q * M = ((sgn a m : Int) : Rat)) (h3 : M ≠ 0) : Fin' x ∧ rv x = q := by
  obtain ⟨f, e⟩ := rv_bits h hj
  refine ⟨f, ?_⟩
  rw [h1, ← h2] at e
  grind
theorem sgnF (n : Nat) : ((sgn false n : Int) : Rat) = (n : Rat) := by unfold sgn; exact castN n
theorem c_one : Fin' 4607182418800017408 ∧ rv 4607182418800017408 = 1 :=
  c_of (a := false) (m := 4503599627370496) (j := 52) (M := 4503599627370496) (by unfold decode; rfl) (by decide) (by rfl) (by rw [sgnF, Rat.natCast_ofNat]; grind) (by grind)
theorem c_half : Fin' 4602678819172646912 ∧ rv 4602678819172646912 = 1 / 2 :=
  c_of (a := false) (m := 4503599627370496) (j := 53) (M := 9007199254740992) (by unfold decode; rfl) (by decide) (by rfl) (by rw [sgnF, Rat.natCast_ofNat]; grind) (by grind)
theorem c_two : Fin' 4611686018427387904 ∧ rv 4611686018427387904 = 2 :=
  c_of (a := false) (m := 4503599627370496) (j := 51) (M := 2251799813685248) (by unfold decode; rfl) (by decide) (by rfl) (by rw [sgnF, Rat.natCast_ofNat]; grind) (by grind)
theorem c_four : Fin' 4616189618054758400 ∧ rv 4616189618054758400 = 4 :=
  c_of (a := false) (m := 4503599627370496) (j := 50) (M := 1125899906842624) (by unfold decode; rfl) (by decide) (by rfl) (by rw [sgnF, Rat.natCast_ofNat]; grind) (by grind)
theorem c_six : Fin' 4618441417868443648 ∧ rv 4618441417868443648 = 6 :=
  c_of (a := false) (m := 6755399441055744) (j := 50) (M := 1125899906842624) (by unfold decode; rfl) (by decide) (by rfl) (by rw [sgnF, Rat.natCast_ofNat]; grind) (by grind)
theorem c_third : Fin' 4599676419421066581 ∧ rv 4599676419421066581 = 6004799503160661 / 18014398509481984 :=
  c_of (a := false) (m := 6004799503160661) (j := 54) (M := 18014398509481984) (by unfold decode; rfl) (by decide) (by rfl) (by rw [sgnF, Rat.natCast_ofNat]; grind) (by grind)
theorem c_sixth : Fin' 4595172819793696085 ∧ rv 4595172819793696085 = 6004799503160661 / 36028797018963968 :=
  c_of (a := false) (m := 6004799503160661) (j := 55) (M := 36028797018963968) (by unfold decode; rfl) (by decide) (by rfl) (by rw [sgnF, Rat.natCast_ofNat]; grind) (by grind)
theorem c_two3 : Fin' 4604180019048437077 ∧ rv 4604180019048437077 = 6004799503160661 / 9007199254740992 :=
  c_of (a := false) (m := 6004799503160661) (j := 53) (M := 9007199254740992) (by unfold decode; rfl) (by decide) (by rfl) (by rw [sgnF, Rat.natCast_ofNat]; grind) (by grind)
theorem c_zero : Fin' 0 ∧ rv 0 = 0 :=
  ⟨⟨false, 0, -1074, by unfold decode; rfl⟩, by have := rv_mul 0; have e : val 0 = 0 := by { rw [val_eq (x := 0) (a := false) (m := 0) (e := -1074) (by unfold decode; rfl)]; simp [sgn] }
                                                rw [e] at this; have hK := KQ_pos; rcases Rat.mul_eq_zero.mp (this.trans rfl) with h | h; exact h; rw [h] at hK; grind⟩
/-- the fraction is a float: its bits are just that -/
theorem ofFrac_exact {neg : Bool} {n d j : Nat} (hj : j ≤ 900) (hd : d = 2 ^ j) (hn : n ≤ 2 ^ 53) : Fin' (ofFrac neg n d) ∧ rv (ofFrac neg n d) * (d : Rat) = ((sgn neg n : Int) : Rat) := by
  have hd0 : 0 < d := hd ▸ Nat.two_pow_pos _
  have R : Right (ofFrac neg n d) neg (n * 2 ^ 1074) d := ofFrac_right hd0 rfl hd0
  have e0 : j + (1074 - j) = 1074 := by (first | lia | omega)
  have e : 2 ^ (j + (1074 - j)) = 2 ^ j * 2 ^ (1074 - j) := Nat.pow_add _ _ _
  rw [e0] at e
  obtain ⟨t, ht, hr, hV⟩ := right_exact (g := 1074 - j) (q := n) R hd0 (by (first | lia | omega)) hn (by rw [hd, e]; ac_rfl)
  rw [hr]
  obtain ⟨m, f, hdec, _⟩ := decode_pack neg ht
  refine ⟨⟨_, _, _, hdec⟩, ?_⟩
  have h1 := rv_mul (pack neg t)
  rw [val_pack neg ht] at h1
  have h2 : sgn neg (V t) * (d : Int) = sgn neg n * ((2 ^ 1074 : Nat) : Int) := by
    rw [← sgn_mul, ← sgn_mul, ← hV, Nat.mul_comm]
  have h3 : ((sgn neg (V t) : Int) : Rat) * (d : Rat) = ((sgn neg n : Int) : Rat) * KQ := by
    have := congrArg (fun i : Int => (i : Rat)) h2
    simp only [Rat.intCast_mul, castN] at this
    exact this
  rw [← h1] at h3
  have hK := KQ_pos
  have h4 := Rat.mul_eq_zero.mp (show (rv (pack neg t) * (d : Rat) - ((sgn neg n : Int) : Rat)) * KQ = 0 by grind)
  grind
theorem ofInt_exact {i : Int} (h : i.natAbs ≤ 2 ^ 53) : Fin' (ofInt i) ∧ rv (ofInt i) = (i : Rat) := by
  have := ofFrac_exact (neg := decide (i < 0)) (j := 0) (by decide) (d := 1) rfl h
  rw [sgn_lt] at this
  unfold ofInt
  exact ⟨this.1, by have := this.2; grind⟩
theorem q512_exact {X : Int} (h0 : 0 ≤ X) (h : X ≤ 512) : Fin' (ofFrac (decide (X < 0) != decide ((512 : Int) < 0)) X.natAbs (Int.natAbs 512)) ∧ rv (ofFrac (decide (X < 0) != decide ((512 : Int) < 0)) X.natAbs (Int.natAbs 512)) = (X : Rat) / 512 := by
  have e : (decide (X < 0) != decide ((512 : Int) < 0)) = false := by simp; (first | lia | omega)
  rw [e]
  have := ofFrac_exact (neg := false) (j := 9) (n := X.natAbs) (by decide) (d := Int.natAbs 512) rfl (by (first | lia | omega))
  refine ⟨this.1, ?_⟩
  have h2 := this.2
  rw [show ((Int.natAbs 512 : Nat) : Rat) = 512 from rfl, show sgn false X.natAbs = X by unfold sgn; simp; (first | lia | omega)] at h2
  grind
theorem sub_tri (A N B : Nat) : A - B ≤ (A - N) + (N - B) := by omega
theorem dist_tri (N A B : Nat) : dist A B ≤ dist N A + dist N B := by
  unfold dist
  have a := sub_tri A N B
  have b := sub_tri B N A
  generalize A - B = p1 at *
  generalize B - A = p2 at *
  generalize A - N = p3 at *
  generalize N - B = p4 at *
  generalize B - N = p5 at *
  generalize N - A = p6 at *
  lia
theorem dist_sgn (a : Bool) {N B P : Nat} (i1 : 2 * sgn a N - 2 * sgn a B < P) (i2 : 2 * sgn a B - 2 * sgn a N < P) : 2 * dist N B < P := by
  unfold sgn at i1 i2
  unfold dist
  cases a <;> simp only [if_true, if_false, Bool.false_eq_true] at i1 i2 <;> omega
theorem dist_0 {a b : Nat} (h : dist a b < 1) : a = b := by unfold dist at h; omega
/-- the nearest whole -/
theorem near_whole (hx : Fin' x) {C : Int} (h1 : rv x - C < 1 / 2) (h2 : C - rv x < 1 / 2) : Flt.toInt nearestOf x = C := by
  obtain ⟨a, m, e, hx⟩ := hx
  have hK := KQ_pos
  have k1 := Rat.mul_lt_mul_of_pos_right h1 hK
  have k2 := Rat.mul_lt_mul_of_pos_right h2 hK
  have hv := rv_mul x
  have hKe : KQ = ((2 ^ 1074 : Nat) : Rat) := rfl
  have hP : 0 < 2 ^ 1074 := Nat.two_pow_pos 1074
  have hsh := shift_one m e 1074 (by have := decode_ge hx; (first | lia | omega))
  have hd := shift_pos m 1 e (by decide)
  have habs : m * 2 ^ (e + (1074 : Nat)).toNat = (val x).natAbs := (val_natAbs hx).symm
  have hsg := sgn_abs_val hx
  rw [habs] at hsh
  unfold Flt.toInt nearestOf
  rw [hx]
  simp only
  have hn := halfEven_nearest (shift m 1 e).1 (shift m 1 e).2 hd C.natAbs
  generalize halfEven (shift m 1 e).1 (shift m 1 e).2 = H at *
  generalize (shift m 1 e).1 = n at *
  generalize (shift m 1 e).2 = d at *
  generalize 2 ^ 1074 = P at *
  -- in whole numbers
  have i1 : 2 * val x - 2 * C * P < P := by
    have : ((2 * val x - 2 * C * P : Int) : Rat) < ((P : Int) : Rat) := by
      rw [castN]; simp only [Rat.intCast_sub, Rat.intCast_mul, castN]; rw [← hv, hKe]; rw [hKe] at k1
      have : ((2 : Int) : Rat) = 2 := rfl
      grind
    exact_mod_cast this
  have i2 : 2 * C * P - 2 * val x < P := by
    have : ((2 * C * P - 2 * val x : Int) : Rat) < ((P : Int) : Rat) := by
      rw [castN]; simp only [Rat.intCast_sub, Rat.intCast_mul, castN]; rw [← hv, hKe]; rw [hKe] at k2
      have : ((2 : Int) : Rat) = 2 := rfl
      grind
    exact_mod_cast this
  have hd1 : dist (val x).natAbs (H * P) ≤ dist (val x).natAbs (C.natAbs * P) := by
    have := Nat.mul_le_mul_left P hn
    rw [← dist_mul, ← dist_mul, Nat.mul_comm P n, hsh] at this
    rw [show P * (d * H) = d * (H * P) by ac_rfl, show P * (d * C.natAbs) = d * (C.natAbs * P) by ac_rfl, Nat.mul_comm _ d, dist_mul, dist_mul] at this
    exact Nat.le_of_mul_le_mul_left this hd
  have hCs : C = 0 ∨ (sgn a C.natAbs = C) := by
    rcases Int.lt_trichotomy C 0 with h | h | h
    · right
      cases a
      · exfalso
        have : 0 ≤ val x := by rw [← hsg]; unfold sgn; simp
        have : 2 * C * P ≤ -2 * P := Int.mul_le_mul_of_nonneg_right (by (first | lia | omega)) (by (first | lia | omega))
        (first | lia | omega)
      · unfold sgn; simp; (first | lia | omega)
    · exact .inl h
    · right
      cases a
      · unfold sgn; simp; (first | lia | omega)
      · exfalso
        have : val x ≤ 0 := by rw [← hsg]; unfold sgn; simp
        have : 2 * P ≤ 2 * C * P := Int.mul_le_mul_of_nonneg_right (by (first | lia | omega)) (by (first | lia | omega))
        (first | lia | omega)
  have hc : 2 * dist (val x).natAbs (C.natAbs * P) < P := by
    have e1 : sgn a (C.natAbs * P) = C * P := by
      rcases hCs with h | h
      · rw [h]; unfold sgn; simp
      · rw [sgn_mul, h]
    have e2 : 2 * C * P = 2 * (C * P) := by rw [Int.mul_assoc]
    rw [e2] at i1 i2
    rw [← e1] at i1 i2
    rw [← hsg] at i1 i2
    exact dist_sgn a i1 i2
  have hHC : H = C.natAbs := by
    have h3 := dist_tri (val x).natAbs (H * P) (C.natAbs * P)
    rw [Nat.mul_comm H, Nat.mul_comm C.natAbs] at h3
    rw [Nat.mul_comm H, Nat.mul_comm C.natAbs] at hd1
    rw [Nat.mul_comm C.natAbs] at hc
    have h4 : P * dist H C.natAbs < P * 1 := by rw [← dist_mul, Nat.mul_one]; clear i1 i2 hCs hsh hsg habs hn; omega
    exact dist_0 (Nat.lt_of_mul_lt_mul_left h4)
  rw [hHC]
  rcases hCs with h | h
  · rw [h]; unfold sgn; simp
  · exact h
end Mine
end

section
open PySem PySem.Float64
namespace Mine
variable {x y : UInt64}
theorem exp_a (e : Int) : (e - min e (-52)).toNat + (min e (-52) + 1074).toNat = (e + 1074).toNat := by
  rcases Int.le_total e (-52) with q | q
  · rw [Int.min_eq_left q, Int.sub_self]; exact Nat.zero_add _
  · rw [Int.min_eq_right q]; omega
theorem exp_b {e : Int} (h : -1074 ≤ e) : (-52 - min e (-52)).toNat + (min e (-52) + 1074).toNat = 1022 := by
  rcases Int.le_total e (-52) with q | q
  · rw [Int.min_eq_left q]; omega
  · rw [Int.min_eq_right q]; rfl
theorem lt_step (z : Rat) : z * KQ < (z + 1) * KQ := by have := KQ_pos; grind
theorem sgn_split (a : Bool) (P q r : Nat) : sgn a (P * q + r) = sgn a q * ((P : Nat) : Int) + sgn a r := by
  unfold sgn
  cases a <;> simp only [if_true, if_false, Bool.false_eq_true]
  · rw [Int.natCast_add, Int.natCast_mul, Int.mul_comm]
  · rw [Int.natCast_add, Int.natCast_mul, Int.neg_add, Int.neg_mul, Int.mul_comm]
/-- the whole part of a float that is not below nought -/
theorem trunc_whole (hx : Fin' x) (h0 : 0 ≤ rv x) : ((Flt.toInt truncOf x : Int) : Rat) ≤ rv x ∧ rv x < ((Flt.toInt truncOf x : Int) : Rat) + 1 := by
  obtain ⟨a, m, e, hx⟩ := hx
  have hK := KQ_pos
  have hv := rv_mul x
  have hge := decode_ge hx
  have hKe : KQ = ((2 ^ 1074 : Nat) : Rat) := rfl
  have fl : ((floorOf false m e : Int) : Rat) * KQ ≤ ((m * 2 ^ (e + 1074).toNat : Nat) : Rat) ∧ ((m * 2 ^ (e + 1074).toNat : Nat) : Rat) < (((floorOf false m e : Int) : Rat) + 1) * KQ := by
    unfold floorOf
    by_cases he : e ≥ 0
    · rw [if_pos he]
      have e0 : (e + 1074).toNat = e.toNat + 1074 := by (first | lia | omega)
      have e1 : 2 ^ (e.toNat + 1074) = 2 ^ e.toNat * 2 ^ 1074 := Nat.pow_add _ _ _
      have e2 : sgn false m * 2 ^ e.toNat = ((m * 2 ^ e.toNat : Nat) : Int) := by unfold sgn; simp
      have e3 : ((m * 2 ^ (e + 1074).toNat : Nat) : Rat) = ((m * 2 ^ e.toNat : Nat) : Rat) * KQ := by rw [e0, e1, ← Nat.mul_assoc, Rat.natCast_mul, hKe]
      rw [e2, castN, e3]
      exact ⟨Rat.le_refl, lt_step _⟩
    · rw [if_neg he]
      have e0 : (-e).toNat + (e + 1074).toNat = 1074 := by (first | lia | omega)
      have e1 : 2 ^ ((-e).toNat + (e + 1074).toNat) = 2 ^ (-e).toNat * 2 ^ (e + 1074).toNat := Nat.pow_add _ _ _
      rw [e0] at e1
      have e2 : (sgn false m).fdiv (2 ^ (-e).toNat) = ((m / 2 ^ (-e).toNat : Nat) : Int) := by
        have : (2 : Int) ^ (-e).toNat = ((2 ^ (-e).toNat : Nat) : Int) := by simp
        rw [this, Int.fdiv_eq_ediv_of_nonneg _ (Int.natCast_nonneg _)]
        unfold sgn; simp
      rw [e2, castN, hKe, e1]
      have hp := Nat.two_pow_pos (-e).toNat
      have hq := Nat.two_pow_pos (e + 1074).toNat
      generalize 2 ^ (-e).toNat = P at *
      generalize 2 ^ (e + 1074).toNat = G at *
      have h1 : m / P * (P * G) ≤ m * G := by
        rw [← Nat.mul_assoc]; exact Nat.mul_le_mul_right _ (Nat.div_mul_le_self m P)
      have h2 : m * G < (m / P + 1) * (P * G) := by
        rw [← Nat.mul_assoc]
        refine Nat.mul_lt_mul_of_pos_right ?_ hq
        have := Nat.div_add_mod m P
        have := Nat.mod_lt m hp
        have e3 : (m / P + 1) * P = P * (m / P) + P := by rw [Nat.add_mul, Nat.one_mul, Nat.mul_comm]
        (first | lia | omega)
      have h1' : ((m / P * (P * G) : Nat) : Rat) ≤ ((m * G : Nat) : Rat) := by exact_mod_cast h1
      have h2' : ((m * G : Nat) : Rat) < (((m / P + 1) * (P * G) : Nat) : Rat) := by exact_mod_cast h2
      rw [Rat.natCast_mul (m / P)] at h1'
      rw [Rat.natCast_mul (m / P + 1), Rat.natCast_add] at h2'
      exact ⟨h1', h2'⟩
  unfold Flt.toInt truncOf
  rw [hx]
  simp only
  cases a
  · rw [if_neg (by decide)]
    rw [val_eq hx, sgnF] at hv
    rw [← hv] at fl
    exact ⟨rat_le_of hK fl.1, Rat.lt_of_mul_lt_mul_right fl.2 (Rat.le_of_lt hK)⟩
  · have hm : m = 0 := by
      by_cases h : m = 0
      · exact h
      · exfalso
        have h1 : val x < 0 := by
          rw [val_eq hx]; unfold sgn; simp only [if_true]
          have := Nat.mul_pos (Nat.pos_of_ne_zero h) (Nat.two_pow_pos (e + 1074).toNat)
          (first | lia | omega)
        have h2 : ((val x : Int) : Rat) < ((0 : Int) : Rat) := by exact_mod_cast h1
        rw [← hv] at h2
        have h3 := Rat.mul_le_mul_of_nonneg_right h0 (Rat.le_of_lt hK)
        grind
    subst hm
    have hz : rv x = 0 := by
      have : val x = 0 := by rw [val_eq hx]; unfold sgn; simp
      rw [this] at hv
      rcases Rat.mul_eq_zero.mp (hv.trans rfl) with h | h
      · exact h
      · rw [h] at hK; grind
    have : ceilOf true 0 e = 0 := by
      unfold ceilOf floorOf sgn
      split <;> simp
    rw [if_pos rfl, this, hz]
    constructor <;> grind
theorem mod1 (hx : Fin' x) : ∃ n : Int, Fin' (divmod x 4607182418800017408).2 ∧ rv (divmod x 4607182418800017408).2 - (rv x - n) ≤ 1 / 281474976710656 ∧ (rv x - n) - rv (divmod x 4607182418800017408).2 ≤ 1 / 281474976710656 ∧ 0 ≤ rv x - n ∧ rv x - n ≤ 1 ∧ (rv x = 0 → rv (divmod x 4607182418800017408).2 = 0) := by
  obtain ⟨a, m, e, hx⟩ := hx
  have hge := decode_ge hx
  have h1 : decode 4607182418800017408 = .fin false 4503599627370496 (-52) := by unfold decode; rfl
  have hf1 : Fin' 4607182418800017408 := ⟨_, _, _, h1⟩
  have hfx : Fin' x := ⟨_, _, _, hx⟩
  have hK := KQ_pos
  -- the fmod
  have hm : fmod x 4607182418800017408 = ofBin a (m * 2 ^ (e - min e (-52)).toNat % (4503599627370496 * 2 ^ (-52 - min e (-52)).toNat)) (min e (-52)) := by
    unfold fmod
    rw [hx, h1]
    simp only [align, sgn]
    rfl
  have R := @ofBin_right a (m * 2 ^ (e - min e (-52)).toNat % (4503599627370496 * 2 ^ (-52 - min e (-52)).toNat)) (min e (-52)) (by (first | lia | omega))
  rw [← hm] at R
  have eW : m * 2 ^ (e - min e (-52)).toNat % (4503599627370496 * 2 ^ (-52 - min e (-52)).toNat) * 2 ^ (min e (-52) + 1074).toNat = (val x).natAbs % 2 ^ 1074 := by
    have hA : m * 2 ^ (e - min e (-52)).toNat * 2 ^ (min e (-52) + 1074).toNat = m * 2 ^ (e + 1074).toNat := by
      have e1 := exp_a e
      rw [Nat.mul_assoc, ← Nat.pow_add, e1]
    have hB : 4503599627370496 * 2 ^ (-52 - min e (-52)).toNat * 2 ^ (min e (-52) + 1074).toNat = 2 ^ 1074 := by
      have e2 : 4503599627370496 * 2 ^ (-52 - min e (-52)).toNat * 2 ^ (min e (-52) + 1074).toNat = 2 ^ 52 * 2 ^ ((-52 - min e (-52)).toNat + (min e (-52) + 1074).toNat) := by
        rw [Nat.mul_assoc, ← Nat.pow_add]
      have e3 := exp_b hge
      rw [e2, e3]
      exact (Nat.pow_add 2 52 1022).symm
    rw [← Nat.mul_mod_mul_right, val_natAbs hx, hA, hB]
  rw [eW] at R
  have hKe : KQ = ((2 ^ 1074 : Nat) : Rat) := rfl
  have hlt : (val x).natAbs % 2 ^ 1074 < 2 ^ 1074 := Nat.mod_lt _ (Nat.two_pow_pos _)
  have hdm := Nat.div_add_mod (val x).natAbs (2 ^ 1074)
  have hsg := sgn_abs_val hx
  have hv := rv_mul x
  generalize hr : (val x).natAbs % 2 ^ 1074 = r at *
  generalize hq : (val x).natAbs / 2 ^ 1074 = q at *
  -- x = sgn (q * P + r)
  have hrq : (r : Rat) < KQ := by rw [hKe]; exact_mod_cast hlt
  have hr0 : (0 : Rat) ≤ (r : Rat) := by exact_mod_cast Nat.zero_le _
  have hxe : rv x * KQ = ((sgn a q : Int) : Rat) * KQ + ((sgn a r : Int) : Rat) := by
    rw [hv, ← hsg, ← hdm, hKe, sgn_split, Rat.intCast_add, Rat.intCast_mul, castN]
  have hrr : ∃ ρ : Rat, ρ * KQ = ((sgn a r : Int) : Rat) := ⟨((sgn a r : Int) : Rat) / KQ, Rat.div_mul_cancel (by grind)⟩
  obtain ⟨ρ, hρ⟩ := hrr
  have hxρ : rv x = ((sgn a q : Int) : Rat) + ρ := by
    rw [← hρ] at hxe
    have := Rat.mul_eq_zero.mp (show (rv x - (((sgn a q : Int) : Rat) + ρ)) * KQ = 0 by grind)
    grind
  have hρb : (a = false → 0 ≤ ρ ∧ ρ < 1) ∧ (a = true → -1 < ρ ∧ ρ ≤ 0) := by
    constructor
    · rintro rfl
      rw [sgnF] at hρ
      rw [← hρ] at hrq hr0
      exact ⟨rat_le_of hK (by grind), Rat.lt_of_mul_lt_mul_right (c := KQ) (by grind) (Rat.le_of_lt hK)⟩
    · rintro rfl
      have : ((sgn true r : Int) : Rat) = -(r : Rat) := by unfold sgn; rw [if_pos rfl, Rat.intCast_neg, castN]
      rw [this] at hρ
      have e4 : (r : Rat) = -(ρ * KQ) := by grind
      rw [e4] at hrq hr0
      exact ⟨Rat.lt_of_mul_lt_mul_right (c := KQ) (by grind) (Rat.le_of_lt hK), rat_le_of hK (by grind)⟩
  have hN : Near (fmod x 4607182418800017408) ρ (1 / 562949953421312) := near_of' R (by decide) (by decide) (by rw [← hρ]; grind) d49 (by cases a <;> grind) (by cases a <;> grind)
  obtain ⟨hfm, n1, n2⟩ := hN
  have hsgn : (a = false → 0 ≤ rv (fmod x 4607182418800017408)) ∧ (a = true → rv (fmod x 4607182418800017408) ≤ 0) := by
    obtain ⟨t, ht, hr', _⟩ := right_fin R (by decide) (g := 1025) (by decide) (by
      have : 2 ^ 1074 ≤ 1 * (2 ^ 53 * 2 ^ 1025) := by
        rw [Nat.one_mul, ← Nat.pow_add]; exact Nat.pow_le_pow_right (by decide) (by decide)
      (first | lia | omega))
    have hv2 := rv_mul (fmod x 4607182418800017408)
    rw [hr', val_pack a ht] at hv2
    rw [hr']
    have hV : (0 : Rat) ≤ ((V t : Nat) : Rat) := by exact_mod_cast Nat.zero_le _
    constructor
    · rintro rfl
      rw [sgnF] at hv2
      exact rat_le_of hK (by grind)
    · rintro rfl
      have : ((sgn true (V t) : Int) : Rat) = -((V t : Nat) : Rat) := by unfold sgn; rw [if_pos rfl, Rat.intCast_neg, castN]
      rw [this] at hv2
      exact rat_le_of hK (by grind)
  have hz0 : rv x = 0 → rv (fmod x 4607182418800017408) = 0 := by
    intro h0
    have hvx : val x = 0 := by
      rw [h0] at hv
      have : ((val x : Int) : Rat) = ((0 : Int) : Rat) := by rw [← hv]; grind
      exact_mod_cast this
    have hr0' : r = 0 := by rw [← hr, hvx, show (0 : Int).natAbs = 0 from rfl, Nat.zero_mod]
    obtain ⟨t, ht, hr', hV⟩ := right_exact (g := 0) (q := 0) R (by decide) (by decide) (by decide) (by rw [hr0'])
    rw [hr0', Nat.one_mul] at hV
    have hv2 := rv_mul (fmod x 4607182418800017408)
    rw [hr', val_pack a ht, hV, show sgn a 0 = 0 by unfold sgn; cases a <;> rfl] at hv2
    rw [hr']
    rcases Rat.mul_eq_zero.mp (hv2.trans rfl) with h | h
    · exact h
    · rw [h] at hK; grind
  have hc0 : copysign (zero false) 4607182418800017408 = 0 := by decide +kernel
  unfold divmod
  simp only
  by_cases hz : isZero (fmod x 4607182418800017408) = true
  · rw [if_pos hz]
    have z := (zero_iff hfm).mp hz
    simp only [hc0]
    rw [c_zero.2]
    rw [z] at n1 n2
    cases a
    · exact ⟨sgn false q, c_zero.1, by grind, by grind, by have := hρb.1 rfl; grind, by have := hρb.1 rfl; grind, fun _ => rfl⟩
    · -- rho is nought or a rounding away from it
      by_cases hρ0 : ρ = 0
      · exact ⟨sgn true q, c_zero.1, by grind, by grind, by grind, by grind, fun _ => rfl⟩
      · exfalso
        -- |rho| is a whole multiple of 2^-1074, so it does not round to nought
        obtain ⟨t, ht, hr', hmin⟩ := right_fin R (by decide) (g := 1025) (by decide) (by
          have : 2 ^ 1074 ≤ 1 * (2 ^ 53 * 2 ^ 1025) := by
            rw [Nat.one_mul, ← Nat.pow_add]; exact Nat.pow_le_pow_right (by decide) (by decide)
          (first | lia | omega))
        have hr1 : r ≠ 0 := by
          intro h
          rw [h] at hρ
          rcases Rat.mul_eq_zero.mp (hρ.trans (by unfold sgn; simp)) with h | h
          · exact hρ0 h
          · rw [h] at hK; grind
        have hv2 := rv_mul (fmod x 4607182418800017408)
        rw [z, hr', val_pack true ht] at hv2
        have hVt : V t = 0 := by
          have h5 : ((0 : Int) : Rat) = ((sgn true (V t) : Int) : Rat) := by rw [← hv2]; grind
          have h6 : (0 : Int) = sgn true (V t) := by exact_mod_cast h5
          unfold sgn at h6; simp at h6; (first | lia | omega)
        have h7 := hmin 1
        have hV1 : V 1 = 1 := by unfold V; simp
        rw [hVt, hV1] at h7
        unfold dist at h7
        (first | lia | omega)
  · rw [if_neg hz]
    have hlt2 : (Float64.lt 4607182418800017408 (zero false) != Float64.lt (fmod x 4607182418800017408) (zero false)) = Float64.lt (fmod x 4607182418800017408) (zero false) := by
      have : Float64.lt 4607182418800017408 (zero false) = false := by decide +kernel
      rw [this]; cases Float64.lt (fmod x 4607182418800017408) (zero false) <;> rfl
    rw [hlt2]
    have z : rv (fmod x 4607182418800017408) ≠ 0 := fun h => hz ((zero_iff hfm).mpr h)
    have hz00 : rv (zero false) = 0 := by unfold rv; rw [val_zero]; grind
    have hl : Float64.lt (fmod x 4607182418800017408) (zero false) = true ↔ rv (fmod x 4607182418800017408) < 0 := by
      unfold Float64.lt
      rw [cmp_lt hfm (fin_zero false), hz00]
    cases a
    · have p := hsgn.1 rfl
      have b := hρb.1 rfl
      rw [if_neg (by rw [hl]; grind)]
      exact ⟨sgn false q, hfm, by grind, by grind, by grind, by grind, hz0⟩
    · have p := hsgn.2 rfl
      have b := hρb.2 rfl
      rw [if_pos (by rw [hl]; grind)]
      have A := add_near (g := 1025) hfm hf1 (by decide) d49 (by rw [c_one.2]; grind) (by rw [c_one.2]; grind)
      rw [c_one.2] at A
      obtain ⟨fA, a1, a2⟩ := A
      exact ⟨sgn true q - 1, fA, by rw [Rat.intCast_sub]; grind, by rw [Rat.intCast_sub]; grind, by rw [Rat.intCast_sub]; grind, by rw [Rat.intCast_sub]; grind, fun h => absurd (hz0 h) z⟩
end Mine
end

section
open PySem PySem.Float64
namespace Mine
variable {x y z : UInt64}
theorem exact_of {r : UInt64} {neg : Bool} {W D j : Nat} {e J : Rat} {i : Int} (h : Right r neg W D) (hD : 0 < D) (he : e * ((D : Rat) * KQ) = ((sgn neg W : Int) : Rat)) (hJ : J = ((2 ^ j : Nat) : Rat)) (hi : e * J = (i : Rat)) (hj : j ≤ 1074) (hi2 : i.natAbs ≤ 2 ^ 53) : Fin' r ∧ rv r = e := by
  have hK := KQ_pos
  have e0 : j + (1074 - j) = 1074 := by omega
  have e1 : 2 ^ (j + (1074 - j)) = 2 ^ j * 2 ^ (1074 - j) := Nat.pow_add _ _ _
  rw [e0] at e1
  have eK : KQ = ((2 ^ j : Nat) : Rat) * ((2 ^ (1074 - j) : Nat) : Rat) := by unfold KQ; rw [e1, Rat.natCast_mul]
  have hs : sgn neg W = i * ((D * 2 ^ (1074 - j) : Nat) : Int) := by
    have : ((sgn neg W : Int) : Rat) = ((i * ((D * 2 ^ (1074 - j) : Nat) : Int) : Int) : Rat) := by
      rw [← he, Rat.intCast_mul, castN, Rat.natCast_mul, ← hi, eK, hJ]; grind
    exact_mod_cast this
  have hW : W = D * (i.natAbs * 2 ^ (1074 - j)) := by
    have := congrArg Int.natAbs hs
    rw [sgn_natAbs, Int.natAbs_mul, Int.natAbs_natCast] at this
    rw [this]; ac_rfl
  obtain ⟨t, ht, hr, hV⟩ := right_exact (g := 1074 - j) (q := i.natAbs) h hD (by omega) hi2 hW
  rw [hr]
  obtain ⟨m, f, hdec, _⟩ := decode_pack neg ht
  refine ⟨⟨_, _, _, hdec⟩, ?_⟩
  have h1 := rv_mul (pack neg t)
  rw [val_pack neg ht] at h1
  have h2 : sgn neg (V t) * (D : Int) = sgn neg W := by rw [← sgn_mul, ← hV, Nat.mul_comm]
  have h3 : ((sgn neg (V t) : Int) : Rat) * (D : Rat) = ((sgn neg W : Int) : Rat) := by
    have := congrArg (fun i : Int => (i : Rat)) h2
    simp only [Rat.intCast_mul, castN] at this
    exact this
  rw [← h1, ← he] at h3
  have hDq : (0 : Rat) < (D : Rat) := natpos hD
  have hc : (0 : Rat) < (D : Rat) * KQ := Rat.mul_pos hDq hK
  have h4 := Rat.mul_eq_zero.mp (show (rv (pack neg t) - e) * ((D : Rat) * KQ) = 0 by grind)
  rcases h4 with h | h
  · grind
  · rw [h] at hc; grind
/-- a float of 512ths -/
def Ex (x : UInt64) (A : Int) : Prop := Fin' x ∧ rv x = (A : Rat) / 512
theorem c9 : (512 : Rat) = ((2 ^ 9 : Nat) : Rat) := rfl
theorem c10 : (1024 : Rat) = ((2 ^ 10 : Nat) : Rat) := rfl
theorem add_exact {i : Int} {j : Nat} {J : Rat} (hx : Fin' x) (hy : Fin' y) (hJ : J = ((2 ^ j : Nat) : Rat)) (hi : (rv x + rv y) * J = (i : Rat)) (hj : j ≤ 1074) (hi2 : i.natAbs ≤ 2 ^ 53) : Fin' (add x y) ∧ rv (add x y) = rv x + rv y := by
  obtain ⟨a, m, e, hx⟩ := hx
  obtain ⟨b, k, f, hy⟩ := hy
  have hs : (rv x + rv y) * KQ = ((val x + val y : Int) : Rat) := by rw [Rat.intCast_add, ← rv_mul, ← rv_mul]; grind
  have R := add_right hx hy
  by_cases h0 : val x + val y = 0
  · rw [R.1 h0]
    have hK := KQ_pos
    have q : rv x + rv y = 0 := by
      rw [h0] at hs
      have : (rv x + rv y) * KQ = 0 * KQ := by rw [hs]; grind
      grind
    have z2 : rv (zero (a && b)) = 0 := by unfold rv; rw [val_zero]; grind
    exact ⟨fin_zero _, by rw [q, z2]⟩
  · refine exact_of (R.2 h0) (by decide) ?_ hJ hi hj hi2
    rw [sgn_lt, ← hs]; grind
theorem add_ex {A B : Int} (hx : Ex x A) (hy : Ex y B) (h : (A + B).natAbs ≤ 2 ^ 53) : Ex (add x y) (A + B) := by
  have := add_exact (i := A + B) hx.1 hy.1 c9 (by rw [hx.2, hy.2, Rat.intCast_add]; grind) (by decide) h
  exact ⟨this.1, by rw [this.2, hx.2, hy.2, Rat.intCast_add]; grind⟩
theorem neg_ex {B : Int} (hy : Ex y B) : Ex (Float64.neg y) (-B) := ⟨neg_fin hy.1, by rw [neg_rv hy.1, hy.2, Rat.intCast_neg]; grind⟩
theorem sub_ex {A B : Int} (hx : Ex x A) (hy : Ex y B) (h : (A - B).natAbs ≤ 2 ^ 53) : Ex (sub x y) (A - B) := by
  unfold Float64.sub
  rw [show A - B = A + -B by omega] at h ⊢
  exact add_ex hx (neg_ex hy) h
theorem two_ex : Ex 4611686018427387904 1024 := ⟨c_two.1, by rw [c_two.2]; grind⟩
/-- half of it, exact -/
theorem half_exact {A : Int} (hx : Ex x A) (h : A.natAbs ≤ 2 ^ 53) : Fin' (div x 4611686018427387904) ∧ rv (div x 4611686018427387904) = (A : Rat) / 1024 := by
  obtain ⟨⟨a, m, e, hd⟩, hv⟩ := hx
  have h1 : decode 4611686018427387904 = .fin false 4503599627370496 (-51) := by unfold decode; rfl
  have R := div_right hd h1 (by decide)
  have hK := KQ_pos
  have e1 : sgn (a != false) ((val x).natAbs * 2 ^ 1074) = val x * ((2 ^ 1074 : Nat) : Int) := by
    rw [show (a != false) = a by cases a <;> rfl, sgn_mul, sgn_abs_val hd]
  have hp : 0 < val 4611686018427387904 := by
    have := c_two.2
    have h2 := rv_mul 4611686018427387904
    rw [this] at h2
    have h3 : ((0 : Int) : Rat) < ((val 4611686018427387904 : Int) : Rat) := by rw [← h2]; grind
    exact_mod_cast h3
  have e2 : (((val 4611686018427387904).natAbs : Nat) : Rat) = 2 * KQ := by
    rw [← c_two.2, rv_mul]
    have : ((val 4611686018427387904).natAbs : Int) = val 4611686018427387904 := by omega
    exact_mod_cast congrArg (fun i : Int => (i : Rat)) this
  refine exact_of (e := (A : Rat) / 1024) (i := A) R (by omega) ?_ c10 (by grind) (by decide) h
  rw [e1, e2, Rat.intCast_mul, ← rv_mul, hv]
  have : (((2 ^ 1074 : Nat) : Int) : Rat) = KQ := castN _
  rw [this]
  grind
theorem ex_cmp_eq {A B : Int} (hx : Ex x A) (hy : Ex y B) : (cmp x y == some .eq) = true ↔ A = B := by
  rw [cmp_eq hx.1 hy.1, hx.2, hy.2]
  constructor
  · intro h
    have : (A : Rat) = (B : Rat) := by grind
    exact_mod_cast this
  · intro h; rw [h]
theorem ex_cmp_lt {A B : Int} (hx : Ex x A) (hy : Ex y B) : (cmp x y == some .lt) = true ↔ A < B := by
  rw [cmp_lt hx.1 hy.1, hx.2, hy.2]
  constructor
  · intro h
    have : (A : Rat) < (B : Rat) := by grind
    exact_mod_cast this
  · intro h
    have : (A : Rat) < (B : Rat) := by exact_mod_cast h
    grind
end Mine
end

section
open PySem PySem.Float64
namespace Mine
variable {x y z : UInt64}
theorem add49 (hx : Fin' x) (hy : Fin' y) (h1 : rv x + rv y ≤ 16) (h2 : -16 ≤ rv x + rv y) : Near (add x y) (rv x + rv y) (1 / 562949953421312) := add_near hx hy (by decide) d49 (by grind) (by grind)
theorem sub49 (hx : Fin' x) (hy : Fin' y) (h1 : rv x - rv y ≤ 16) (h2 : -16 ≤ rv x - rv y) : Near (sub x y) (rv x - rv y) (1 / 562949953421312) := sub_near hx hy (by decide) d49 (by grind) (by grind)
theorem mul49 (hx : Fin' x) (hy : Fin' y) (h1 : rv x * rv y ≤ 16) (h2 : -16 ≤ rv x * rv y) : Near (mul x y) (rv x * rv y) (1 / 562949953421312) := mul_near hx hy (by decide) d49 (by grind) (by grind)
theorem div49 (hx : Fin' x) (hy : Fin' y) (hp : 0 < rv y) (h1 : rv x / rv y ≤ 16) (h2 : -16 ≤ rv x / rv y) : Near (div x y) (rv x / rv y) (1 / 562949953421312) := div_near hx hy hp (by decide) d49 (by grind) (by grind)
theorem prod_near {a d t e : Rat} (h1 : a - d ≤ e) (h2 : d - a ≤ e) (h3 : -2 ≤ t) (h4 : t ≤ 2) : a * t - d * t ≤ 2 * e ∧ d * t - a * t ≤ 2 * e := by
  have p1 := Rat.mul_nonneg (show 0 ≤ e - (a - d) by grind) (show 0 ≤ 2 + t by grind)
  have p2 := Rat.mul_nonneg (show 0 ≤ e + (a - d) by grind) (show 0 ≤ 2 - t by grind)
  have p3 := Rat.mul_nonneg (show 0 ≤ e + (a - d) by grind) (show 0 ≤ 2 + t by grind)
  have p4 := Rat.mul_nonneg (show 0 ≤ e - (a - d) by grind) (show 0 ≤ 2 - t by grind)
  constructor <;> grind
theorem ge_of_mul {a c C : Rat} (h0 : 0 < c) (h1 : c ≤ C) (h : 1 ≤ a * c) : 1 ≤ a * C := by
  have ha : 0 ≤ a := rat_le_of h0 (by grind)
  have := Rat.mul_le_mul_of_nonneg_right (a := c) (b := C) (c := a) h1 ha
  grind
theorem intpos {i : Int} (h : 0 < i) : (0 : Rat) < (i : Rat) := by exact_mod_cast h
theorem intle {i j : Int} (h : i ≤ j) : (i : Rat) ≤ (j : Rat) := by exact_mod_cast h
theorem ratio_eq (A D : Rat) (hD : 0 < D) : A / 512 / (D / 512) = A / D ∧ A / D * D = A := by
  have h1 : A / D * D = A := Rat.div_mul_cancel (by grind)
  refine ⟨?_, h1⟩
  have h2 : A / 512 / (D / 512) * (D / 512) = A / 512 := Rat.div_mul_cancel (by grind)
  have h3 := Rat.mul_eq_zero.mp (show (A / 512 / (D / 512) - A / D) * D = 0 by grind)
  grind
/-- a share of the range -/
theorem share_near {A D : Int} (hx : Ex x A) (hy : Ex y D) (hD : 0 < D) (h0 : 0 ≤ A) (h1 : A ≤ D) : ∃ ρ : Rat, ρ * (D : Rat) = (A : Rat) ∧ 0 ≤ ρ ∧ ρ ≤ 1 ∧ Near (div x y) ρ (1 / 562949953421312) := by
  have hDq := intpos hD
  have hA0 := intle h0
  have hA1 := intle h1
  obtain ⟨e1, e2⟩ := ratio_eq (A : Rat) (D : Rat) hDq
  have z0 : ((0 : Int) : Rat) = 0 := rfl
  have b0 : 0 ≤ (A : Rat) / (D : Rat) := rat_le_of hDq (by rw [e2]; grind)
  have b1 : (A : Rat) / (D : Rat) ≤ 1 := rat_le_of hDq (by rw [e2]; grind)
  refine ⟨_, e2, b0, b1, ?_⟩
  have e3 : rv x / rv y = (A : Rat) / (D : Rat) := by rw [hx.2, hy.2, e1]
  rw [← e3] at b0 b1 ⊢
  exact div49 hx.1 hy.1 (by rw [hy.2]; grind) (by grind) (by grind)
/-- the hue in sixths of the range -/
noncomputable def hueI (X Y Z M D : Int) : Int := if X = M then Y - Z else if Y = M then 2 * D + (Z - X) else 4 * D + (X - Y)
theorem hue_bd {X Y Z M D : Int} (hM : M = max (max X Y) Z) (hDD : D = M - min (min X Y) Z) (hX : 0 ≤ X ∧ X ≤ 512) (hY : 0 ≤ Y ∧ Y ≤ 512) (hZ : 0 ≤ Z ∧ Z ≤ 512) :
    (X ≤ M ∧ M - X ≤ D) ∧ (Y ≤ M ∧ M - Y ≤ D) ∧ (Z ≤ M ∧ M - Z ≤ D) ∧ D ≤ 512 ∧ M ≤ 512 ∧ (M = X ∨ M = Y ∨ M = Z) := by
  obtain ⟨⟨a1, a2, a3⟩, a4, a5, a6⟩ := mx3 X Y Z
  obtain ⟨b1, b2⟩ := mx3_le hX hY hZ
  have o := (mx3_or X Y Z).1
  rw [← hM] at a1 a2 a3 b1 o
  clear hM hX hY hZ
  generalize min (min X Y) Z = m at *
  refine ⟨⟨a1, by lia⟩, ⟨a2, by lia⟩, ⟨a3, by lia⟩, by lia, b1, o⟩
theorem hue_pre {r g b mx d : UInt64} {X Y Z M D : Int} (hr : Ex r X) (hg : Ex g Y) (hb : Ex b Z) (hm : Ex mx M) (hd : Ex d D) (hM : M = max (max X Y) Z) (hDD : D = M - min (min X Y) Z) (hD : 0 < D) (hX : 0 ≤ X ∧ X ≤ 512) (hY : 0 ≤ Y ∧ Y ≤ 512) (hZ : 0 ≤ Z ∧ Z ≤ 512) (hbg : Y = Z → g = b) :
    ∃ η : Rat, ∃ h : UInt64, hueF r g b mx d = (Float64.divmod (Float64.div h 4618441417868443648) 4607182418800017408).2 ∧ η * (D : Rat) = (hueI X Y Z M D : Rat) ∧ -1 ≤ η ∧ η ≤ 5 ∧ Near h η (8 / 562949953421312) ∧ (hueI X Y Z M D = 0 → rv h = 0) := by
  obtain ⟨⟨x0, x1⟩, ⟨y0, y1⟩, ⟨z0, z1⟩, d5, m5, om⟩ := hue_bd hM hDD hX hY hZ
  clear hM hDD
  have hDq := intpos hD
  have sr := sub_ex hm hr (by lia)
  have sg := sub_ex hm hg (by lia)
  have sb := sub_ex hm hb (by lia)
  obtain ⟨ρr, r1, r2, r3, fr, r4, r5⟩ := share_near sr hd hD (by lia) (by lia)
  obtain ⟨ρg, g1, g2, g3, fg, g4, g5⟩ := share_near sg hd hD (by lia) (by lia)
  obtain ⟨ρb, b1, b2, b3, fb, b4, b5⟩ := share_near sb hd hD (by lia) (by lia)
  rw [Rat.intCast_sub] at r1 g1 b1
  unfold hueF hueI
  by_cases c1 : X = M
  · rw [if_pos ((ex_cmp_eq hr hm).mpr c1)]
    obtain ⟨fs, s1, s2⟩ := sub49 fb fg (by grind) (by grind)
    refine ⟨ρb - ρg, _, rfl, ?_, by grind, by grind, ⟨fs, by grind, by grind⟩, ?_⟩
    · rw [if_pos c1, Rat.intCast_sub]; grind
    · rw [if_pos c1]
      intro h0
      have hYZ : Y = Z := by lia
      subst hYZ
      have := hbg rfl
      subst this
      have := (add_exact (i := 0) (j := 0) (J := 1) fb (neg_fin fb) rfl (by rw [neg_rv fb]; grind) (by decide) (by decide)).2
      rw [neg_rv fb] at this
      unfold Float64.sub at this ⊢
      grind
  · rw [if_neg (fun h => c1 ((ex_cmp_eq hr hm).mp h))]
    by_cases c2 : Y = M
    · rw [if_pos ((ex_cmp_eq hg hm).mpr c2)]
      obtain ⟨f1, s1, s2⟩ := add49 c_two.1 fr (by rw [c_two.2]; grind) (by rw [c_two.2]; grind)
      rw [c_two.2] at s1 s2
      obtain ⟨f2, s3, s4⟩ := sub49 f1 fb (by grind) (by grind)
      refine ⟨2 + ρr - ρb, _, rfl, ?_, by grind, by grind, ⟨f2, by grind, by grind⟩, ?_⟩
      · rw [if_neg c1, if_pos c2, Rat.intCast_add, Rat.intCast_mul, Rat.intCast_sub]
        have : ((2 : Int) : Rat) = 2 := rfl
        grind
      · rw [if_neg c1, if_pos c2]; intro h0; lia
    · rw [if_neg (fun h => c2 ((ex_cmp_eq hg hm).mp h))]
      obtain ⟨f1, s1, s2⟩ := add49 c_four.1 fg (by rw [c_four.2]; grind) (by rw [c_four.2]; grind)
      rw [c_four.2] at s1 s2
      obtain ⟨f2, s3, s4⟩ := sub49 f1 fr (by grind) (by grind)
      refine ⟨4 + ρg - ρr, _, rfl, ?_, by grind, by grind, ⟨f2, by grind, by grind⟩, ?_⟩
      · rw [if_neg c1, if_neg c2, Rat.intCast_add, Rat.intCast_mul, Rat.intCast_sub]
        have : ((4 : Int) : Rat) = 4 := rfl
        grind
      · rw [if_neg c1, if_neg c2]; intro h0; lia
/-- the hue: within a rounding of sixths of the range, less a whole number; not below nought, below one -/
theorem hue_near {r g b mx d : UInt64} {X Y Z M D : Int} (hr : Ex r X) (hg : Ex g Y) (hb : Ex b Z) (hm : Ex mx M) (hd : Ex d D) (hM : M = max (max X Y) Z) (hDD : D = M - min (min X Y) Z) (hD : 0 < D) (hX : 0 ≤ X ∧ X ≤ 512) (hY : 0 ≤ Y ∧ Y ≤ 512) (hZ : 0 ≤ Z ∧ Z ≤ 512) (hbg : Y = Z → g = b) :
    ∃ η : Rat, ∃ n : Int, η * (6 * (D : Rat)) = (hueI X Y Z M D : Rat) ∧ Near (hueF r g b mx d) (η - n) (8 / 562949953421312) ∧ 0 ≤ rv (hueF r g b mx d) ∧ rv (hueF r g b mx d) < 1 := by
  obtain ⟨η, h, he, h1, h2, h3, ⟨fh, h4, h5⟩, h6⟩ := hue_pre hr hg hb hm hd hM hDD hD hX hY hZ hbg
  rw [he]
  obtain ⟨⟨x0, x1⟩, ⟨y0, y1⟩, ⟨z0, z1⟩, d5, -, om⟩ := hue_bd hM hDD hX hY hZ
  have hHb : -D ≤ hueI X Y Z M D ∧ hueI X Y Z M D ≤ 5 * D := by
    clear h1 h2 h3 h4 h5 h6 he fh hr hg hb hm hd hX hY hZ hM hDD hbg
    unfold hueI; split <;> (try split) <;> constructor <;> lia
  clear hM hDD hX hY hZ x0 x1 y0 y1 z0 z1 om
  have hDq := intpos hD
  obtain ⟨fq, q1, q2⟩ := div49 fh c_six.1 (by rw [c_six.2]; grind) (by rw [c_six.2]; grind) (by rw [c_six.2]; grind)
  rw [c_six.2] at q1 q2
  have q3 : rv h = 0 → rv (div h 4618441417868443648) = 0 := by
    intro h0
    obtain ⟨a, m, e, hd1⟩ := fh
    have R := div_right hd1 (show decode 4618441417868443648 = .fin false 6755399441055744 (-50) by unfold decode; rfl) (by decide)
    have hv : val h = 0 := by
      have := rv_mul h
      rw [h0] at this
      have : ((val h : Int) : Rat) = ((0 : Int) : Rat) := by rw [← this]; grind
      exact_mod_cast this
    rw [hv] at R
    have h6p : 0 < (val 4618441417868443648).natAbs := by
      have := c_six.2
      apply Nat.pos_of_ne_zero
      intro hz
      have hz' : val 4618441417868443648 = 0 := by (first | lia | omega)
      unfold rv at this
      rw [hz'] at this
      grind
    have := exact_of (e := 0) (i := 0) (j := 0) (J := 1) R h6p (by rw [show (0 : Int).natAbs = 0 from rfl, Nat.zero_mul, show sgn (a != false) 0 = 0 by unfold sgn; cases a <;> rfl]; grind) rfl (by grind) (by decide) (by decide)
    exact this.2
  obtain ⟨n, fm, m1, m2, m3, m4, m5⟩ := mod1 fq
  generalize hq : div h 4618441417868443648 = q at *
  generalize hu : (divmod q 4607182418800017408).2 = u at *
  refine ⟨η / 6, n, by grind, ⟨fm, by grind, by grind⟩, ?_⟩
  by_cases hz : hueI X Y Z M D = 0
  · rw [m5 (q3 (h6 hz))]; grind
  · have hN : (η / 6 - n) * (6 * (D : Rat)) = ((hueI X Y Z M D - 6 * D * n : Int) : Rat) := by
      rw [Rat.intCast_sub, Rat.intCast_mul, Rat.intCast_mul, ← h1]
      have : ((6 : Int) : Rat) = 6 := rfl
      rw [this]; grind
    have hc : (0 : Rat) < 6 * (D : Rat) := by grind
    have hc2 : 6 * (D : Rat) ≤ 3072 := by
      have := intle d5
      have e : ((512 : Int) : Rat) = 512 := rfl
      grind
    generalize hueI X Y Z M D = H at *
    have lo : (0 : Int) < H - 6 * D * n + 1 := by
      have := Rat.mul_lt_mul_of_pos_right (show -(1 / 3072) < η / 6 - n by grind) hc
      rw [hN] at this
      have h7 : ((-1 : Int) : Rat) < ((H - 6 * D * n : Int) : Rat) := by
        have e : ((-1 : Int) : Rat) = -1 := rfl
        grind
      have h8 : -1 < H - 6 * D * n := by exact_mod_cast h7
      (first | lia | omega)
    have hi : H - 6 * D * n < 6 * D + 1 := by
      have := Rat.mul_lt_mul_of_pos_right (show η / 6 - n < 1 + 1 / 3072 by grind) hc
      rw [hN] at this
      have h7 : ((H - 6 * D * n : Int) : Rat) < ((6 * D + 1 : Int) : Rat) := by
        have e : ((6 * D + 1 : Int) : Rat) = 6 * (D : Rat) + 1 := by rw [Rat.intCast_add, Rat.intCast_mul]; rfl
        grind
      exact_mod_cast h7
    have hn : n = 0 ∨ n = -1 := by
      have n1 : n < 1 := by
        apply Int.lt_of_mul_lt_mul_left (a := 6 * D) _ (by (first | lia | omega))
        (first | lia | omega)
      have n2 : -2 < n := by
        apply Int.lt_of_mul_lt_mul_left (a := 6 * D) _ (by (first | lia | omega))
        (first | lia | omega)
      (first | lia | omega)
    have lo' : 1 ≤ H - 6 * D * n := by rcases hn with rfl | rfl <;> (first | lia | omega)
    have hi' : H - 6 * D * n ≤ 6 * D - 1 := by rcases hn with rfl | rfl <;> (first | lia | omega)
    have k1 := ge_of_mul hc hc2 (a := η / 6 - n) (by rw [hN]; have := intle lo'; have e : ((1 : Int) : Rat) = 1 := rfl; grind)
    have k2 := ge_of_mul hc hc2 (a := 1 - (η / 6 - n)) (by
      have := intle hi'
      rw [← hN, Rat.intCast_sub, Rat.intCast_mul] at this
      have e : ((1 : Int) : Rat) = 1 := rfl
      have e' : ((6 : Int) : Rat) = 6 := rfl
      grind)
    constructor <;> grind
end Mine
end

section
open PySem PySem.Float64
namespace Mine
variable {x y z : UInt64}
noncomputable def tri (d u : Rat) : Rat := max 0 (min d (min u (4 * d - u)))
theorem rmax_l {a b : Rat} (h : b ≤ a) : max a b = a := by grind
theorem rmax_r {a b : Rat} (h : a ≤ b) : max a b = b := by grind
theorem rmin_l {a b : Rat} (h : a ≤ b) : min a b = a := by grind
theorem rmin_r {a b : Rat} (h : b ≤ a) : min a b = b := by grind
/-- the trapezoid's four sides, told to an error -/
theorem tri_pos (d u : Rat) : 0 ≤ tri d u := by
  unfold tri
  rcases (Rat.le_total : 0 ≤ min d (min u (4 * d - u)) ∨ _) with h | h
  · rw [rmax_r h]; exact h
  · rw [rmax_l h]; exact Rat.le_refl
theorem tri_le {d u v : Rat} (h0 : 0 ≤ v) (h : min d (min u (4 * d - u)) ≤ v) : tri d u ≤ v := by
  unfold tri
  rcases (Rat.le_total : 0 ≤ min d (min u (4 * d - u)) ∨ _) with k | k
  · rw [rmax_r k]; exact h
  · rw [rmax_l k]; exact h0
theorem le_tri {d u v : Rat} (h : v ≤ min d (min u (4 * d - u))) : v ≤ tri d u := by
  unfold tri
  rcases (Rat.le_total : 0 ≤ min d (min u (4 * d - u)) ∨ _) with k | k
  · rw [rmax_r k]; exact h
  · rw [rmax_l k]; exact Rat.le_trans h k
theorem min_le1 (a b : Rat) : min a b ≤ a := by grind
theorem min_le2 (a b : Rat) : min a b ≤ b := by grind
theorem le_min2 {a b v : Rat} (h : v ≤ a) (k : v ≤ b) : v ≤ min a b := by grind
theorem tri_up' {d u e : Rat} (hd : 0 ≤ d) (he : 0 ≤ e) (h0 : -e ≤ u) (h1 : u ≤ d) : tri d u ≤ u + e ∧ u ≤ tri d u :=
  ⟨tri_le (by grind) (Rat.le_trans (min_le2 _ _) (Rat.le_trans (min_le1 _ _) (by grind))), le_tri (le_min2 h1 (le_min2 Rat.le_refl (by grind)))⟩
theorem tri_top' {d u e : Rat} (hd : 0 ≤ d) (he : 0 ≤ e) (h0 : d - e ≤ u) (h1 : u ≤ 3 * d) : tri d u ≤ d ∧ d ≤ tri d u + e :=
  ⟨tri_le hd (min_le1 _ _), by have := le_tri (d := d) (u := u) (v := d - e) (le_min2 (by grind) (le_min2 h0 (by grind))); grind⟩
theorem tri_dn' {d u e : Rat} (hd : 0 ≤ d) (he : 0 ≤ e) (h0 : 3 * d ≤ u) (h1 : u ≤ 4 * d + e) : tri d u ≤ 4 * d - u + e ∧ 4 * d - u ≤ tri d u :=
  ⟨tri_le (by grind) (Rat.le_trans (min_le2 _ _) (Rat.le_trans (min_le2 _ _) (by grind))), le_tri (le_min2 (by grind) (le_min2 (by grind) Rat.le_refl))⟩
theorem tri_out' {d u e : Rat} (he : 0 ≤ e) (h0 : 4 * d - e ≤ u) : tri d u ≤ e ∧ 0 ≤ tri d u :=
  ⟨tri_le he (Rat.le_trans (min_le2 _ _) (Rat.le_trans (min_le2 _ _) (by grind))), tri_pos _ _⟩
theorem tri_upE {d u : Rat} (hd : 0 ≤ d) (h0 : 0 ≤ u) (h1 : u ≤ d) : tri d u = u :=
  Rat.le_antisymm (by have := (tri_up' (e := 0) hd Rat.le_refl (by grind) h1).1; grind) (tri_up' (e := 0) hd Rat.le_refl (by grind) h1).2
theorem tri_topE {d u : Rat} (hd : 0 ≤ d) (h0 : d ≤ u) (h1 : u ≤ 3 * d) : tri d u = d :=
  Rat.le_antisymm (tri_top' (e := 0) hd Rat.le_refl (by grind) h1).1 (by have := (tri_top' (e := 0) hd Rat.le_refl (by grind) h1).2; grind)
theorem tri_dnE {d u : Rat} (hd : 0 ≤ d) (h0 : 3 * d ≤ u) (h1 : u ≤ 4 * d) : tri d u = 4 * d - u :=
  Rat.le_antisymm (by have := (tri_dn' (e := 0) hd Rat.le_refl h0 (by grind)).1; grind) (tri_dn' (e := 0) hd Rat.le_refl h0 (by grind)).2
theorem tri_outE {d u : Rat} (h0 : 4 * d ≤ u) : tri d u = 0 :=
  Rat.le_antisymm (tri_out' (e := 0) Rat.le_refl (by grind)).1 (tri_out' (e := 0) Rat.le_refl (by grind)).2
theorem vF_near {m1 m2 h : UInt64} {m d : Rat} (N1 : Near m1 m (10 / 562949953421312)) (N2 : Near m2 (m + d) (6 / 562949953421312)) (fh : Fin' h) (h0 : 0 ≤ m) (h1 : m + d ≤ 1) (hd : 0 ≤ d) :
    ∃ t : Rat, ∃ n : Int, t - (rv h - n) ≤ 2 / 562949953421312 ∧ (rv h - n) - t ≤ 2 / 562949953421312 ∧ -(2 / 562949953421312) ≤ t ∧ t ≤ 1 + 2 / 562949953421312 ∧ Near (vF m1 m2 h) (m + tri d (6 * (d * t))) (300 / 562949953421312) := by
  obtain ⟨n, ff, a1, a2, a3, a4, -⟩ := mod1 fh
  unfold vF
  generalize (divmod h 4607182418800017408).2 = q at *
  generalize ht : rv q = t at *
  refine ⟨t, n, by grind, by grind, by grind, by grind, ?_⟩
  obtain ⟨f1, b1, b2⟩ := N1
  obtain ⟨f2, b3, b4⟩ := N2
  obtain ⟨fd, d1, d2⟩ := sub49 f2 f1 (by grind) (by grind)
  have dt0 := Rat.mul_le_mul_of_nonneg_left (show -(2 / 562949953421312) ≤ t by grind) hd
  by_cases c1 : t < 6004799503160661 / 36028797018963968
  · rw [if_pos ((cmp_lt ff c_sixth.1).mpr (by rw [ht, c_sixth.2]; exact c1))]
    have dt1 := Rat.mul_le_mul_of_nonneg_left (Rat.le_of_lt c1) hd
    obtain ⟨p1, p2⟩ := prod_near (a := rv (Float64.sub m2 m1)) (d := d) (t := t) (e := 17 / 562949953421312) (by grind) (by grind) (by grind) (by grind)
    obtain ⟨fm, e1, e2⟩ := mul49 fd ff (by rw [ht]; grind) (by rw [ht]; grind)
    rw [ht] at e1 e2
    obtain ⟨fn, e3, e4⟩ := mul49 fm c_six.1 (by rw [c_six.2]; grind) (by rw [c_six.2]; grind)
    rw [c_six.2] at e3 e4
    obtain ⟨fo, e5, e6⟩ := add49 f1 fn (by grind) (by grind)
    obtain ⟨T1, T2⟩ := tri_up' (u := 6 * (d * t)) (e := 12 / 562949953421312) hd (by decide +kernel) (by grind) (by grind)
    generalize tri d (6 * (d * t)) = T at *
    refine ⟨fo, ?_, ?_⟩ <;> grind
  · rw [if_neg (fun z => c1 (by have := (cmp_lt ff c_sixth.1).mp z; rw [ht, c_sixth.2] at this; exact this))]
    have dt1 := Rat.mul_le_mul_of_nonneg_left (show 6004799503160661 / 36028797018963968 ≤ t by grind) hd
    by_cases c2 : t < 1 / 2
    · rw [if_pos ((cmp_lt ff c_half.1).mpr (by rw [ht, c_half.2]; exact c2))]
      have dt2 := Rat.mul_le_mul_of_nonneg_left (Rat.le_of_lt c2) hd
      obtain ⟨T1, T2⟩ := tri_top' (u := 6 * (d * t)) (e := 1 / 562949953421312) hd (by decide +kernel) (by grind) (by grind)
      generalize tri d (6 * (d * t)) = T at *
      refine ⟨f2, ?_, ?_⟩ <;> grind
    · rw [if_neg (fun z => c2 (by have := (cmp_lt ff c_half.1).mp z; rw [ht, c_half.2] at this; exact this))]
      have dt2 := Rat.mul_le_mul_of_nonneg_left (show 1 / 2 ≤ t by grind) hd
      by_cases c3 : t < 6004799503160661 / 9007199254740992
      · rw [if_pos ((cmp_lt ff c_two3.1).mpr (by rw [ht, c_two3.2]; exact c3))]
        have dt3 := Rat.mul_le_mul_of_nonneg_left (Rat.le_of_lt c3) hd
        obtain ⟨fg, g1, g2⟩ := sub49 c_two3.1 ff (by rw [ht, c_two3.2]; grind) (by rw [ht, c_two3.2]; grind)
        rw [ht, c_two3.2] at g1 g2
        generalize hs : rv (Float64.sub 4604180019048437077 q) = s at *
        have dt4 := Rat.mul_le_mul_of_nonneg_left (show s ≤ 6004799503160661 / 9007199254740992 - t + 1 / 562949953421312 by grind) hd
        have dt5 := Rat.mul_le_mul_of_nonneg_left (show 6004799503160661 / 9007199254740992 - t - 1 / 562949953421312 ≤ s by grind) hd
        obtain ⟨p1, p2⟩ := prod_near (a := rv (Float64.sub m2 m1)) (d := d) (t := s) (e := 17 / 562949953421312) (by grind) (by grind) (by grind) (by grind)
        obtain ⟨fm, e1, e2⟩ := mul49 fd fg (by rw [hs]; grind) (by rw [hs]; grind)
        rw [hs] at e1 e2
        obtain ⟨fn, e3, e4⟩ := mul49 fm c_six.1 (by rw [c_six.2]; grind) (by rw [c_six.2]; grind)
        rw [c_six.2] at e3 e4
        obtain ⟨fo, e5, e6⟩ := add49 f1 fn (by grind) (by grind)
        obtain ⟨T1, T2⟩ := tri_dn' (u := 6 * (d * t)) (e := 12 / 562949953421312) hd (by decide +kernel) (by grind) (by grind)
        generalize tri d (6 * (d * t)) = T at *
        refine ⟨fo, ?_, ?_⟩ <;> grind
      · rw [if_neg (fun z => c3 (by have := (cmp_lt ff c_two3.1).mp z; rw [ht, c_two3.2] at this; exact this))]
        have dt3 := Rat.mul_le_mul_of_nonneg_left (show 6004799503160661 / 9007199254740992 ≤ t by grind) hd
        obtain ⟨T1, T2⟩ := tri_out' (d := d) (u := 6 * (d * t)) (e := 12 / 562949953421312) (by decide +kernel) (by grind)
        generalize tri d (6 * (d * t)) = T at *
        refine ⟨f1, ?_, ?_⟩ <;> grind
/-- the trapezoid in whole numbers -/
noncomputable def triI (D W : Int) : Int := max 0 (min D (min W (4 * D - W)))
theorem cmax (a b : Int) : ((max a b : Int) : Rat) / 512 = max ((a : Rat) / 512) ((b : Rat) / 512) := by
  rcases Int.le_total a b with h | h
  · have k := intle h; rw [Int.max_eq_right h, rmax_r (by grind)]
  · have k := intle h; rw [Int.max_eq_left h, rmax_l (by grind)]
theorem cmin (a b : Int) : ((min a b : Int) : Rat) / 512 = min ((a : Rat) / 512) ((b : Rat) / 512) := by
  rcases Int.le_total a b with h | h
  · have k := intle h; rw [Int.min_eq_left h, rmin_l (by grind)]
  · have k := intle h; rw [Int.min_eq_right h, rmin_r (by grind)]
theorem tri_cast (D W : Int) : tri ((D : Rat) / 512) ((W : Rat) / 512) = (triI D W : Rat) / 512 := by
  unfold tri triI
  rw [cmax, cmin, cmin, Rat.intCast_sub, Rat.intCast_mul, show (((0 : Int) : Rat)) / 512 = 0 by decide +kernel, show ((4 : Int) : Rat) = 4 from rfl, show (4 * (D : Rat) - (W : Rat)) / 512 = 4 * ((D : Rat) / 512) - (W : Rat) / 512 by grind]
theorem tri_lip {d u v e : Rat} (h1 : u - v ≤ e) (h2 : v - u ≤ e) : tri d u ≤ tri d v + e := by
  have p := tri_pos d v
  refine tri_le (by grind) ?_
  rcases (Rat.le_total : d ≤ min v (4 * d - v) ∨ _) with h | h
  · have k := le_tri (d := d) (u := v) (v := d) (le_min2 Rat.le_refl h)
    exact Rat.le_trans (min_le1 _ _) (by grind)
  · have k := le_tri (d := d) (u := v) (v := min v (4 * d - v)) (le_min2 h Rat.le_refl)
    refine Rat.le_trans (min_le2 _ _) ?_
    rcases (Rat.le_total : v ≤ 4 * d - v ∨ _) with q | q
    · rw [rmin_l q] at k; exact Rat.le_trans (min_le1 _ _) (by grind)
    · rw [rmin_r q] at k; exact Rat.le_trans (min_le2 _ _) (by grind)
theorem tri_near {D W : Int} {u e : Rat} (hD : 0 < D) (h1 : u - (W : Rat) / 512 ≤ e) (h2 : (W : Rat) / 512 - u ≤ e) : tri ((D : Rat) / 512) u - (triI D W : Rat) / 512 ≤ e ∧ (triI D W : Rat) / 512 - tri ((D : Rat) / 512) u ≤ e := by
  rw [← tri_cast]
  have a := tri_lip (d := (D : Rat) / 512) h1 h2
  have b := tri_lip (d := (D : Rat) / 512) h2 h1
  constructor <;> grind
theorem chan_int {v : UInt64} {η t : Rat} {H D c n mn : Int} (hD : 0 < D) (hD2 : D ≤ 512) (hη : η * (6 * (D : Rat)) = (H : Rat)) (t1 : t - (η + (c : Rat) / 6 + n) ≤ 60 / 562949953421312) (t2 : (η + (c : Rat) / 6 + n) - t ≤ 60 / 562949953421312)
    (t3 : -(60 / 562949953421312) ≤ t) (t4 : t ≤ 1 + 60 / 562949953421312) (hv : Near v ((mn : Rat) / 512 + tri ((D : Rat) / 512) (6 * ((D : Rat) / 512 * t))) (300 / 562949953421312)) :
    ∃ n' : Int, 0 ≤ H + c * D + 6 * D * n' ∧ H + c * D + 6 * D * n' ≤ 6 * D ∧ Near v (((mn + triI D (H + c * D + 6 * D * n') : Int) : Rat) / 512) (1000 / 562949953421312) := by
  have hDq := intpos hD
  have hDq2 := intle hD2
  have z512 : ((512 : Int) : Rat) = 512 := rfl
  have z6 : ((6 : Int) : Rat) = 6 := rfl
  have hW : ((H + c * D + 6 * D * n : Int) : Rat) = (η + (c : Rat) / 6 + n) * (6 * (D : Rat)) := by
    rw [Rat.intCast_add, Rat.intCast_add, Rat.intCast_mul, Rat.intCast_mul, Rat.intCast_mul, ← hη, z6]; grind
  generalize (η + (c : Rat) / 6 + n) = τ at *
  have hc : (0 : Rat) < 6 * (D : Rat) := by grind
  have m1 := Rat.mul_le_mul_of_nonneg_right t1 (Rat.le_of_lt hc)
  have m2 := Rat.mul_le_mul_of_nonneg_right t2 (Rat.le_of_lt hc)
  have m3 := Rat.mul_le_mul_of_nonneg_right t3 (Rat.le_of_lt hc)
  have m4 := Rat.mul_le_mul_of_nonneg_right t4 (Rat.le_of_lt hc)
  refine ⟨n, ?_, ?_, ?_⟩
  · have : ((-1 : Int) : Rat) < ((H + c * D + 6 * D * n : Int) : Rat) := by
      rw [hW]; have e : ((-1 : Int) : Rat) = -1 := rfl
      grind
    have : -1 < H + c * D + 6 * D * n := by exact_mod_cast this
    omega
  · have : ((H + c * D + 6 * D * n : Int) : Rat) < ((6 * D + 1 : Int) : Rat) := by
      rw [hW]; have e : ((6 * D + 1 : Int) : Rat) = 6 * (D : Rat) + 1 := by rw [Rat.intCast_add, Rat.intCast_mul]; rfl
      grind
    have : H + c * D + 6 * D * n < 6 * D + 1 := by exact_mod_cast this
    omega
  · generalize H + c * D + 6 * D * n = W at *
    obtain ⟨k1, k2⟩ := tri_near (W := W) (u := 6 * ((D : Rat) / 512 * t)) (e := 400 / 562949953421312) hD (by grind) (by grind)
    obtain ⟨f, g1, g2⟩ := hv
    exact ⟨f, by rw [Rat.intCast_add]; grind, by rw [Rat.intCast_add]; grind⟩
/-- a part within a rounding of whole 512ths: told to a 2 ** 30th it is whole -/
theorem part_round {v : UInt64} {C : Int} (h0 : 0 ≤ C) (h1 : C ≤ 512) (hv : Near v ((C : Rat) / 512) (1000 / 562949953421312)) :
    (isNaN (mul v (ofInt (2 ^ Int.toNat 30))) = false ∧ isInf (mul v (ofInt (2 ^ Int.toNat 30))) = false) ∧ (Flt.toInt nearestOf (mul v (ofInt (2 ^ Int.toNat 30)))).fmod (2 ^ Int.toNat 21) = 0 ∧ (Flt.toInt nearestOf (mul v (ofInt (2 ^ Int.toNat 30)))).fdiv (2 ^ Int.toNat 21) = C := by
  have e30 : (2 : Int) ^ Int.toNat 30 = 1073741824 := by decide
  have e21 : (2 : Int) ^ Int.toNat 21 = 2097152 := by decide
  rw [e30, e21]
  obtain ⟨f30, v30⟩ := ofInt_exact (i := 1073741824) (by decide)
  have z30 : ((1073741824 : Int) : Rat) = 1073741824 := rfl
  rw [z30] at v30
  obtain ⟨f, a1, a2⟩ := hv
  have c0 := intle h0
  have c1 := intle h1
  have z0 : ((0 : Int) : Rat) = 0 := rfl
  have z512 : ((512 : Int) : Rat) = 512 := rfl
  obtain ⟨fm, b1, b2⟩ := mul_near (g := 1052) f f30 (by decide) d22 (by rw [v30]; grind) (by rw [v30]; grind)
  rw [v30] at b1 b2
  have zC : ((C * 2097152 : Int) : Rat) = (C : Rat) * 2097152 := by rw [Rat.intCast_mul]; rfl
  have hn := near_whole fm (C := C * 2097152) (by rw [zC]; grind) (by rw [zC]; grind)
  refine ⟨fin_not fm, ?_, ?_⟩
  · rw [hn]; exact Int.mul_fmod_left _ _
  · rw [hn]; exact Int.mul_fdiv_cancel _ (by decide)
theorem ex_max {A B : Int} (hx : Ex x A) (hy : Ex y B) : Ex (fmax x y) (max A B) := by
  unfold fmax
  by_cases h : A < B
  · rw [if_pos ((ex_cmp_lt hx hy).mpr h), Int.max_eq_right (Int.le_of_lt h)]; exact hy
  · rw [if_neg (fun z => h ((ex_cmp_lt hx hy).mp z)), Int.max_eq_left (by omega)]; exact hx
theorem ex_min {A B : Int} (hx : Ex x A) (hy : Ex y B) : Ex (fmin x y) (min A B) := by
  unfold fmin
  by_cases h : B < A
  · rw [if_pos ((ex_cmp_lt hy hx).mpr h), Int.min_eq_right (Int.le_of_lt h)]; exact hy
  · rw [if_neg (fun z => h ((ex_cmp_lt hy hx).mp z)), Int.min_eq_left (by omega)]; exact hx
end Mine
end

section
open PySem PySem.Float64
namespace Mine
noncomputable def ledM (M : Int) : Nat → Int × Int × Int → Int × Int × Int
  | 0, p => p
  | n + 1, p => (M - (ledM M n p).2.1, M - (ledM M n p).2.2, M - (ledM M n p).1)
/-- the colour led k sixths: the wheel in whole numbers -/
noncomputable def ledI (k : Nat) (p : Int × Int × Int) : Int × Int × Int := ledM (max (max p.1 p.2.1) p.2.2 + min (min p.1 p.2.1) p.2.2) k p
def IsT (D U τ : Int) : Prop := ∀ n : Int, 0 ≤ U + 6 * D * n → U + 6 * D * n ≤ 6 * D → triI D (U + 6 * D * n) = τ
theorem six_small {D n a : Int} (hD : 0 < D) (h1 : a = 6 * D * n) (h2 : -(6 * D) ≤ a) (h3 : a ≤ 6 * D) : n = -1 ∨ n = 0 ∨ n = 1 := by
  have k1 : n < 2 := by
    apply Int.lt_of_mul_lt_mul_left (a := 6 * D) _ (by (first | lia | omega))
    (first | lia | omega)
  have k2 : -2 < n := by
    apply Int.lt_of_mul_lt_mul_left (a := 6 * D) _ (by (first | lia | omega))
    (first | lia | omega)
  (first | lia | omega)
theorem tri_up {D u : Int} (h0 : 0 ≤ u) (h : u ≤ D) : triI D u = u := by
  unfold triI; rw [Int.min_eq_left (show u ≤ 4 * D - u by lia), Int.min_eq_right h, Int.max_eq_right h0]
theorem tri_top {D u : Int} (hD : 0 < D) (h : D ≤ u) (h2 : u ≤ 3 * D) : triI D u = D := by
  unfold triI; rw [Int.min_eq_left (Int.le_min.mpr ⟨h, show D ≤ 4 * D - u by lia⟩), Int.max_eq_right (Int.le_of_lt hD)]
theorem tri_dn {D u : Int} (hD : 0 < D) (h : 3 * D ≤ u) (h2 : u ≤ 4 * D) : triI D u = 4 * D - u := by
  unfold triI; rw [Int.min_eq_right (show 4 * D - u ≤ u by lia), Int.min_eq_right (show 4 * D - u ≤ D by lia), Int.max_eq_right (show 0 ≤ 4 * D - u by lia)]
theorem tri_0 {D u : Int} (hD : 0 < D) (h : 4 * D ≤ u) : triI D u = 0 := by
  unfold triI; rw [Int.min_eq_right (show 4 * D - u ≤ u by lia), Int.min_eq_right (show 4 * D - u ≤ D by lia), Int.max_eq_left (show 4 * D - u ≤ 0 by lia)]
theorem tri_half {D W : Int} (hD : 0 < D) (h0 : 0 ≤ W) (h1 : W ≤ 3 * D) : triI D (W + 3 * D) = D - triI D W := by
  by_cases h : W ≤ D
  · rw [tri_up h0 h, tri_dn hD (by lia) (by lia)]; lia
  · rw [tri_top hD (by lia) h1, tri_0 hD (by lia)]; lia
theorem isT_of {D U τ : Int} (n₀ : Int) (hD : 0 < D) (h0 : 0 ≤ U + 6 * D * n₀) (h1 : U + 6 * D * n₀ ≤ 6 * D) (h : triI D (U + 6 * D * n₀) = τ) : IsT D U τ := by
  intro n g0 g1
  have e : U + 6 * D * n = U + 6 * D * n₀ + 6 * D * (n - n₀) := by rw [Int.mul_sub]; lia
  rw [e] at g0 g1 ⊢
  generalize U + 6 * D * n₀ = W at *
  clear e
  rcases six_small (n := n - n₀) hD rfl (by lia) (by lia) with z | z | z <;> rw [z] at g0 g1 ⊢ <;> clear z
  · obtain rfl : W = 6 * D := by lia
    rw [← h, tri_0 (u := 6 * D) hD (by lia), show 6 * D + 6 * D * -1 = 0 by lia, tri_up (Int.le_refl 0) (by lia)]
  · rw [Int.mul_zero, Int.add_zero]; exact h
  · obtain rfl : W = 0 := by lia
    rw [← h, tri_up (Int.le_refl 0) (by lia), tri_0 hD (by lia)]
theorem isT_shift {D U τ : Int} (j : Int) (h : IsT D U τ) : IsT D (U + 6 * D * j) τ := by
  intro n g0 g1
  have e : U + 6 * D * j + 6 * D * n = U + 6 * D * (j + n) := by rw [Int.mul_add]; (first | lia | omega)
  rw [e] at g0 g1 ⊢
  exact h _ g0 g1
theorem isT_three {D U τ : Int} (hD : 0 < D) (h : IsT D U τ) : IsT D (U + 3 * D) (D - τ) := by
  intro n g0 g1
  by_cases c : 3 * D ≤ U + 3 * D + 6 * D * n
  · have e : U + 3 * D + 6 * D * n = U + 6 * D * n + 3 * D := by lia
    rw [e] at c g0 g1 ⊢
    rw [tri_half hD (by lia) (by lia), h n (by lia) (by lia)]
  · have e : U + 6 * D * (n + 1) = U + 3 * D + 6 * D * n + 3 * D := by rw [Int.mul_add]; lia
    have k := h (n + 1) (by lia) (by lia)
    rw [e, tri_half hD g0 (by lia)] at k
    lia
theorem isT_up {D U τ : Int} (n : Int) (hD : 0 < D) (h0 : 0 ≤ U + 6 * D * n) (h1 : U + 6 * D * n ≤ D) (e : U + 6 * D * n = τ) : IsT D U τ := isT_of n hD h0 (by lia) ((tri_up h0 h1).trans e)
theorem isT_top {D U τ : Int} (n : Int) (hD : 0 < D) (h0 : D ≤ U + 6 * D * n) (h1 : U + 6 * D * n ≤ 3 * D) (e : D = τ) : IsT D U τ := isT_of n hD (by lia) (by lia) ((tri_top hD h0 h1).trans e)
theorem isT_dn {D U τ : Int} (n : Int) (hD : 0 < D) (h0 : 3 * D ≤ U + 6 * D * n) (h1 : U + 6 * D * n ≤ 4 * D) (e : 4 * D - (U + 6 * D * n) = τ) : IsT D U τ := isT_of n hD (by lia) (by lia) ((tri_dn hD h0 h1).trans e)
theorem isT_0 {D U τ : Int} (n : Int) (hD : 0 < D) (h0 : 4 * D ≤ U + 6 * D * n) (h1 : U + 6 * D * n ≤ 6 * D) (e : 0 = τ) : IsT D U τ := isT_of n hD (by lia) h1 ((tri_0 hD h0).trans e)
theorem mxmn {X Y Z M m : Int} (hM : M = max (max X Y) Z) (hm : m = min (min X Y) Z) : (X ≤ M ∧ Y ≤ M ∧ Z ≤ M) ∧ (m ≤ X ∧ m ≤ Y ∧ m ≤ Z) ∧ (M = X ∨ M = Y ∨ M = Z) ∧ (m = X ∨ m = Y ∨ m = Z) := by
  subst hM hm
  exact ⟨(mx3 X Y Z).1, (mx3 X Y Z).2, (mx3_or X Y Z).1, (mx3_or X Y Z).2⟩
theorem led_base {X Y Z M m D : Int} (hM : M = max (max X Y) Z) (hm : m = min (min X Y) Z) (hD : D = M - m) (hD0 : 0 < D) :
    IsT D (hueI X Y Z M D + 2 * D) (X - m) ∧ IsT D (hueI X Y Z M D) (Y - m) ∧ IsT D (hueI X Y Z M D - 2 * D) (Z - m) := by
  obtain ⟨⟨x1, y1, z1⟩, ⟨x2, y2, z2⟩, o1, o2⟩ := mxmn hM hm
  clear hM hm
  unfold hueI
  by_cases c1 : X = M
  · rw [if_pos c1]
    subst c1
    clear o1
    by_cases c : Y < Z
    · obtain rfl : m = Y := by lia
      clear o2 y2 y1 x2
      subst hD
      exact ⟨isT_top 0 hD0 (by lia) (by lia) rfl, isT_0 1 hD0 (by lia) (by lia) (by lia), isT_dn 1 hD0 (by lia) (by lia) (by lia)⟩
    · obtain rfl : m = Z := by lia
      clear o2 z2 z1 x2
      subst hD
      exact ⟨isT_top 0 hD0 (by lia) (by lia) rfl, isT_up 0 hD0 (by lia) (by lia) (by lia), isT_0 1 hD0 (by lia) (by lia) (by lia)⟩
  · rw [if_neg c1]
    by_cases c2 : Y = M
    · rw [if_pos c2]
      subst c2
      clear o1
      by_cases c : Z < X
      · obtain rfl : m = Z := by lia
        clear o2 z2 z1 y2
        subst hD
        exact ⟨isT_dn 0 hD0 (by lia) (by lia) (by lia), isT_top 0 hD0 (by lia) (by lia) rfl, isT_0 1 hD0 (by lia) (by lia) (by lia)⟩
      · obtain rfl : m = X := by lia
        clear o2 x2 x1 y2
        subst hD
        exact ⟨isT_0 0 hD0 (by lia) (by lia) (by lia), isT_top 0 hD0 (by lia) (by lia) rfl, isT_up 0 hD0 (by lia) (by lia) (by lia)⟩
    · rw [if_neg c2]
      obtain rfl : M = Z := by lia
      clear o1
      by_cases c : X < Y
      · obtain rfl : m = X := by lia
        clear o2 x2 x1 z2
        subst hD
        exact ⟨isT_0 0 hD0 (by lia) (by lia) (by lia), isT_dn 0 hD0 (by lia) (by lia) (by lia), isT_top 0 hD0 (by lia) (by lia) rfl⟩
      · obtain rfl : m = Y := by lia
        clear o2 y2 y1 z2
        subst hD
        exact ⟨isT_up (-1) hD0 (by lia) (by lia) (by lia), isT_0 0 hD0 (by lia) (by lia) (by lia), isT_top 0 hD0 (by lia) (by lia) rfl⟩
theorem led_tri {X Y Z M m D : Int} (hM : M = max (max X Y) Z) (hm : m = min (min X Y) Z) (hD : D = M - m) (hD0 : 0 < D) (k : Nat) :
    IsT D (hueI X Y Z M D + ((k : Int) + 2) * D) ((ledM (M + m) k (X, Y, Z)).1 - m) ∧ IsT D (hueI X Y Z M D + (k : Int) * D) ((ledM (M + m) k (X, Y, Z)).2.1 - m) ∧ IsT D (hueI X Y Z M D + ((k : Int) + -2) * D) ((ledM (M + m) k (X, Y, Z)).2.2 - m) := by
  induction k with
  | zero =>
    obtain ⟨a, b, c⟩ := led_base hM hm hD hD0
    simp only [ledM]
    refine ⟨?_, ?_, ?_⟩
    · rwa [show hueI X Y Z M D + (((0 : Nat) : Int) + 2) * D = hueI X Y Z M D + 2 * D by simp]
    · rwa [show hueI X Y Z M D + (((0 : Nat) : Int)) * D = hueI X Y Z M D by simp]
    · rwa [show hueI X Y Z M D + (((0 : Nat) : Int) + -2) * D = hueI X Y Z M D - 2 * D by simp; (first | lia | omega)]
  | succ k ih =>
    obtain ⟨a, b, c⟩ := ih
    simp only [ledM]
    generalize ledM (M + m) k (X, Y, Z) = p at *
    generalize hueI X Y Z M D = H at *
    have e0 : ∀ j : Int, ((k : Int) + j) * D = (k : Int) * D + j * D := fun j => Int.add_mul _ _ _
    have e1 : ∀ j : Int, (((k + 1 : Nat) : Int) + j) * D = (k : Int) * D + D + j * D := fun j => by rw [Int.natCast_add, Int.add_mul, Int.add_mul]; simp
    have e2 : (((k + 1 : Nat) : Int)) * D = (k : Int) * D + D := by rw [Int.natCast_add, Int.add_mul]; simp
    rw [e0] at a c
    rw [e1, e2, e1]
    generalize (k : Int) * D = kD at *
    refine ⟨?_, ?_, ?_⟩
    · have := isT_three hD0 b
      rw [show H + (kD + D + 2 * D) = H + kD + 3 * D by (first | lia | omega), show M + m - p.2.1 - m = D - (p.2.1 - m) by (first | lia | omega)]; exact this
    · have := isT_three hD0 c
      rw [show H + (kD + D) = H + (kD + -2 * D) + 3 * D by (first | lia | omega), show M + m - p.2.2 - m = D - (p.2.2 - m) by (first | lia | omega)]; exact this
    · have := isT_shift (-1) (isT_three hD0 a)
      rw [show H + (kD + D + -2 * D) = H + (kD + 2 * D) + 3 * D + 6 * D * -1 by (first | lia | omega), show M + m - p.1 - m = D - (p.1 - m) by (first | lia | omega)]; exact this
theorem ledM_grey (X : Int) (k : Nat) : ledM (X + X) k (X, X, X) = (X, X, X) := by
  induction k with
  | zero => rfl
  | succ k ih => simp only [ledM, ih]; congr 1; (first | lia | omega); congr 1 <;> (first | lia | omega)
theorem ledM_range {M m : Int} (p : Int × Int × Int) (h1 : m ≤ p.1 ∧ p.1 ≤ M) (h2 : m ≤ p.2.1 ∧ p.2.1 ≤ M) (h3 : m ≤ p.2.2 ∧ p.2.2 ≤ M) (k : Nat) :
    (m ≤ (ledM (M + m) k p).1 ∧ (ledM (M + m) k p).1 ≤ M) ∧ (m ≤ (ledM (M + m) k p).2.1 ∧ (ledM (M + m) k p).2.1 ≤ M) ∧ (m ≤ (ledM (M + m) k p).2.2 ∧ (ledM (M + m) k p).2.2 ≤ M) := by
  induction k with
  | zero => exact ⟨h1, h2, h3⟩
  | succ k ih =>
    simp only [ledM]
    generalize ledM (M + m) k p = q at *
    (first | lia | omega)
/-- a colour that is led keeps its greatest and its least part -/
theorem ledM_max {M m : Int} (p : Int × Int × Int) (hM : max (max p.1 p.2.1) p.2.2 = M) (hm : min (min p.1 p.2.1) p.2.2 = m) (k : Nat) :
    max (max (ledM (M + m) k p).1 (ledM (M + m) k p).2.1) (ledM (M + m) k p).2.2 = M ∧ min (min (ledM (M + m) k p).1 (ledM (M + m) k p).2.1) (ledM (M + m) k p).2.2 = m := by
  induction k with
  | zero => exact ⟨hM, hm⟩
  | succ k ih =>
    simp only [ledM]
    generalize ledM (M + m) k p = q at *
    rw [(mx3_sub _ _ _ _).1, (mx3_sub _ _ _ _).2, Int.min_comm, ← Int.min_assoc, ih.2, Int.max_comm, ← Int.max_assoc, ih.1]
    constructor <;> lia
theorem ledM_neg {M : Int} (p : Int × Int × Int) (k : Nat) : ledM (1024 - M) k (512 - p.1, 512 - p.2.1, 512 - p.2.2) = (512 - (ledM M k p).1, 512 - (ledM M k p).2.1, 512 - (ledM M k p).2.2) := by
  induction k with
  | zero => rfl
  | succ k ih =>
    simp only [ledM, ih]
    generalize ledM M k p = q at *
    congr 1; (first | lia | omega); congr 1 <;> (first | lia | omega)
end Mine
end

section
open PySem PySem.Float64
namespace Mine
variable {r g b : UInt64} {X Y Z : Int}
abbrev Good (v : UInt64) (C : Int) : Prop := Near v ((C : Rat) / 512) (1000 / 562949953421312)
theorem ex_max3 (hr : Ex r X) (hg : Ex g Y) (hb : Ex b Z) : Ex (fmax3 r g b) (max (max X Y) Z) := by unfold fmax3; exact ex_max (ex_max hr hg) hb
theorem ex_min3 (hr : Ex r X) (hg : Ex g Y) (hb : Ex b Z) : Ex (fmin3 r g b) (min (min X Y) Z) := by unfold fmin3; exact ex_min (ex_min hr hg) hb
theorem pos_of_mul {a c : Rat} (hc : 0 < c) (h : 1 ≤ a * c) (h2 : c ≤ 1024) : 1 ≤ a * 1024 := ge_of_mul hc h2 h
theorem lnot {p : Bool} {q : Prop} (h : p = true ↔ q) (hq : ¬ q) : p = false := by cases p <;> simp_all
theorem absmul {p q : Int} (h0 : 0 ≤ p) (h1 : 0 ≤ q) : ((p.natAbs * q.natAbs : Nat) : Int) = p * q := by
  rw [Int.natCast_mul, show ((p.natAbs : Nat) : Int) = p by omega, show ((q.natAbs : Nat) : Int) = q by omega]
theorem half_cmp {S : Int} {v : Rat} (hv : v = (S : Rat) / 1024) : (v < 1 / 2 ∨ v = 1 / 2) ↔ S ≤ 512 := by
  rw [hv, ← Rat.intCast_le_intCast]
  have z512 : ((512 : Int) : Rat) = 512 := rfl
  rw [z512]
  generalize (S : Rat) = s
  constructor
  · rintro (h | h)
    · grind
    · have : s = 512 := by grind
      grind
  · intro h
    by_cases c : s / 1024 < 1 / 2
    · exact .inl c
    · right; grind
theorem natle_of {a b : Nat} (h : (a : Rat) ≤ (b : Rat)) : a ≤ b := by exact_mod_cast h
theorem right_nonneg {r : UInt64} {neg : Bool} {W D : Nat} (h : Right r neg W D) (hD : 0 < D) (hW : W ≤ D * (2 ^ 53 * 2 ^ 1025)) (hn : neg = true → W = 0) : 0 ≤ rv r := by
  have hK := KQ_pos
  cases neg
  · obtain ⟨t, ht, hr, -⟩ := right_fin h hD (by decide) hW
    rw [hr]
    have h1 := rv_mul (pack false t)
    rw [val_pack false ht, sgnF] at h1
    have hV : (0 : Rat) ≤ ((V t : Nat) : Rat) := by exact_mod_cast Nat.zero_le _
    exact rat_le_of hK (by grind)
  · obtain ⟨t, ht, hr, hV⟩ := right_exact (g := 0) (q := 0) h hD (by decide) (by decide) (by rw [hn rfl]; simp)
    rw [hr]
    have h1 := rv_mul (pack true t)
    rw [hn rfl] at hV
    have hV0 : V t = 0 := by rcases Nat.mul_eq_zero.mp hV with h | h; omega; exact h
    rw [val_pack true ht, hV0] at h1
    exact rat_le_of hK (by rw [h1]; unfold sgn; simp)
theorem rv_nonneg {x : UInt64} : 0 ≤ rv x ↔ 0 ≤ val x := by
  have h := (rv_int (x := x) 0).1
  rw [Int.zero_mul] at h
  have z0 : ((0 : Int) : Rat) = 0 := rfl
  rw [z0] at h
  constructor
  · intro q
    have a1 : ¬ val x < 0 := fun z => by have := h.mpr z; grind
    omega
  · intro q
    have a1 : ¬ rv x < 0 := fun z => by have := h.mp z; omega
    grind
theorem big_of {i : Int} {e : Rat} (he : e * KQ = (i : Rat)) (h1 : e ≤ 16) (h0 : 0 ≤ e) : i.natAbs ≤ 1 * (2 ^ 53 * 2 ^ 1025) := by
  have hK := KQ_pos
  have m1 := Rat.mul_le_mul_of_nonneg_right h1 (Rat.le_of_lt hK)
  have m0 := Rat.mul_nonneg h0 (Rat.le_of_lt hK)
  rw [he] at m1 m0
  have e16 : 16 * KQ = ((((2 ^ 53 * 2 ^ 1025 : Nat) : Int)) : Rat) := by rw [castN, Rat.natCast_mul, ← d49, c53]; grind
  rw [e16] at m1
  have i1 := Rat.intCast_le_intCast.mp m1
  have i0 : (0 : Int) ≤ i := by exact_mod_cast m0
  generalize 2 ^ 53 * 2 ^ 1025 = P at *
  omega
theorem add_nonneg49 {x y : UInt64} (hx : Fin' x) (hy : Fin' y) (h0 : 0 ≤ rv x) (h1 : 0 ≤ rv y) (h2 : rv x + rv y ≤ 16) : 0 ≤ rv (add x y) := by
  have v0 := rv_nonneg.mp h0
  have v1 := rv_nonneg.mp h1
  obtain ⟨a, m, e, hx⟩ := hx
  obtain ⟨b, k, f, hy⟩ := hy
  have R := add_right hx hy
  by_cases c : val x + val y = 0
  · rw [R.1 c]; unfold rv; rw [val_zero]; grind
  · refine right_nonneg (R.2 c) (by decide) (big_of (e := rv x + rv y) ?_ h2 (by grind)) ?_
    · rw [Rat.intCast_add, ← rv_mul, ← rv_mul]; grind
    · intro q; simp only [decide_eq_true_eq] at q; omega
theorem mul_nonneg49 {x y : UInt64} (hx : Fin' x) (hy : Fin' y) (h0 : 0 ≤ rv x) (h1 : 0 ≤ rv y) (h2 : rv x * rv y ≤ 16) : 0 ≤ rv (mul x y) := by
  have v0 := rv_nonneg.mp h0
  have v1 := rv_nonneg.mp h1
  have hK := KQ_pos
  obtain ⟨a, m, e, hx⟩ := hx
  obtain ⟨b, k, f, hy⟩ := hy
  have R := mul_right hx hy
  refine right_nonneg R (Nat.two_pow_pos _) ?_ ?_
  · have e1 : ((((val x).natAbs * (val y).natAbs : Nat)) : Rat) = rv x * rv y * (KQ * KQ) := by
      have : (((val x).natAbs * (val y).natAbs : Nat) : Int) = val x * val y := absmul v0 v1
      rw [← castN, this, Rat.intCast_mul, ← rv_mul, ← rv_mul]; grind
    have e2 : (((2 ^ 1074 * (2 ^ 53 * 2 ^ 1025) : Nat)) : Rat) = 16 * (KQ * KQ) := by
      rw [Rat.natCast_mul, Rat.natCast_mul, c53, ← d49]; show KQ * _ = _; grind
    have := Rat.mul_le_mul_of_nonneg_right h2 (Rat.le_of_lt (Rat.mul_pos hK hK))
    rw [← e1, ← e2] at this
    exact natle_of this
  · intro q
    have s1 := sgn_abs_val hx
    have s2 := sgn_abs_val hy
    generalize (val x).natAbs = A at *
    generalize (val y).natAbs = B at *
    cases a <;> cases b <;> simp [sgn] at q s1 s2 ⊢
    · have : B = 0 := by omega
      rw [this]; simp
    · have : A = 0 := by omega
      rw [this]; simp
/-- the hue, turned -/
theorem turned {hu : UInt64} {η : Rat} {n : Int} (k : Nat) (hk : k ≤ 5) (hN : Near hu (η - n) (8 / 562949953421312)) (h0 : 0 ≤ rv hu) (h1 : rv hu < 1) :
    Near (add hu (mul (ofInt (k : Int)) 4595172819793696085)) (η - n + (k : Rat) / 6) (11 / 562949953421312) ∧ 0 ≤ rv (add hu (mul (ofInt (k : Int)) 4595172819793696085)) ∧ rv (add hu (mul (ofInt (k : Int)) 4595172819793696085)) ≤ 2 := by
  obtain ⟨fh, a1, a2⟩ := hN
  obtain ⟨fk, vk⟩ := ofInt_exact (i := (k : Int)) (by omega)
  rw [castN] at vk
  have k0 : (0 : Rat) ≤ (k : Rat) := by exact_mod_cast Nat.zero_le k
  have k5 : (k : Rat) ≤ 5 := by exact_mod_cast hk
  obtain ⟨fm, b1, b2⟩ := mul49 fk c_sixth.1 (by rw [vk, c_sixth.2]; grind) (by rw [vk, c_sixth.2]; grind)
  rw [vk, c_sixth.2] at b1 b2
  have bnn := mul_nonneg49 fk c_sixth.1 (by rw [vk]; exact k0) (by rw [c_sixth.2]; grind) (by rw [vk, c_sixth.2]; grind)
  obtain ⟨fa, e1, e2⟩ := add49 fh fm (by grind) (by grind)
  exact ⟨⟨fa, by grind, by grind⟩, add_nonneg49 fh fm h0 bnn (by grind), by grind⟩
theorem grey_led {X Y Z : Int} (h : max (max X Y) Z = min (min X Y) Z) (k : Nat) : ledI k (X, Y, Z) = (X, Y, Z) ∧ Y = X ∧ Z = X := by
  obtain ⟨a, b⟩ := mx3 X Y Z
  rw [h] at a
  have h1 : Y = X := Int.le_antisymm (Int.le_trans a.2.1 b.1) (Int.le_trans a.1 b.2.1)
  have h2 : Z = X := Int.le_antisymm (Int.le_trans a.2.2 b.1) (Int.le_trans a.1 b.2.2)
  clear a b h
  subst h1; subst h2
  refine ⟨?_, rfl, rfl⟩
  unfold ledI
  simp only [Int.max_self, Int.min_self]
  exact ledM_grey Z k
theorem mm3 {X Y Z : Int} (hX : 0 ≤ X ∧ X ≤ 512) (hY : 0 ≤ Y ∧ Y ≤ 512) (hZ : 0 ≤ Z ∧ Z ≤ 512) : 0 ≤ min (min X Y) Z ∧ min (min X Y) Z ≤ max (max X Y) Z ∧ max (max X Y) Z ≤ 512 :=
  ⟨(mx3_le hX hY hZ).2, Int.le_trans (mx3 X Y Z).2.1 (mx3 X Y Z).1.1, (mx3_le hX hY hZ).1⟩
theorem grey_all {X Y Z : Int} (k : Nat) (h : min (min X Y) Z = max (max X Y) Z) : ledM (max (max X Y) Z + min (min X Y) Z) k (X, Y, Z) = (X, Y, Z) ∧ Y = X ∧ Z = X ∧ max (max X Y) Z = Z := by
  have q := grey_led h.symm k
  refine ⟨q.1, q.2.1, q.2.2, ?_⟩
  rw [q.2.1, q.2.2, Int.max_self, Int.max_self]
theorem hls_all (hr : Ex r X) (hg : Ex g Y) (hb : Ex b Z) (hX : 0 ≤ X ∧ X ≤ 512) (hY : 0 ≤ Y ∧ Y ≤ 512) (hZ : 0 ≤ Z ∧ Z ≤ 512) (hbg : Y = Z → g = b) (k : Nat) (hk : k ≤ 5) :
    ∃ hu li sh ro go bo, hlsF r g b = (hu, li, sh) ∧ unhlsF (add hu (mul (ofInt (k : Int)) 4595172819793696085)) li sh = (ro, go, bo) ∧ (Fin' hu ∧ 0 ≤ rv hu ∧ rv hu < 1) ∧
      Good ro (ledI k (X, Y, Z)).1 ∧ Good go (ledI k (X, Y, Z)).2.1 ∧ Good bo (ledI k (X, Y, Z)).2.2 ∧
      ((Float64.cmp (fmin3 r g b) (fmax3 r g b) == some .eq) = false → Float64.isZero (Float64.add (fmax3 r g b) (fmin3 r g b)) = false ∧ Float64.isZero (Float64.sub (fmax3 r g b) (fmin3 r g b)) = false ∧ Float64.isZero (Float64.sub (Float64.sub 4611686018427387904 (fmax3 r g b)) (fmin3 r g b)) = false) := by
  have Em := ex_max3 hr hg hb
  have En := ex_min3 hr hg hb
  unfold hlsF
  generalize fmax3 r g b = mx at *
  generalize fmin3 r g b = mn at *
  obtain ⟨mb0, mb1, mb2⟩ := mm3 hX hY hZ
  have G := grey_all (X := X) (Y := Y) (Z := Z) k
  have T := fun hD => led_tri (X := X) (Y := Y) (Z := Z) (M := max (max X Y) Z) (m := min (min X Y) Z) rfl rfl rfl hD k
  have HN := fun (Ed : Ex (sub mx mn) (max (max X Y) Z - min (min X Y) Z)) (hD : 0 < max (max X Y) Z - min (min X Y) Z) => hue_near (D := max (max X Y) Z - min (min X Y) Z) hr hg hb Em Ed rfl rfl hD hX hY hZ hbg
  unfold ledI
  simp only
  generalize max (max X Y) Z = M at *
  generalize min (min X Y) Z = m at *
  clear hX hY hZ hr hg hb hbg
  have Es := add_ex Em En (by lia)
  obtain ⟨fl, vl⟩ := half_exact Es (by lia)
  by_cases hgrey : m = M
  · rw [if_pos ((ex_cmp_eq En Em).mpr hgrey)]
    obtain ⟨e, rfl, rfl, eM⟩ := G hgrey
    have hz0 : (cmp 0 0 == some .eq) = true := (cmp_eq c_zero.1 c_zero.1).mpr rfl
    have hG : Good (div (add mx mn) 4611686018427387904) Z := by
      rw [hgrey, eM, Rat.intCast_add] at vl
      clear e hgrey eM Em En Es mb0 mb1 mb2 T HN G
      refine ⟨fl, ?_, ?_⟩ <;> (rw [vl]; grind)
    refine ⟨_, _, _, _, _, _, rfl, by unfold unhlsF; rw [if_pos hz0], ⟨c_zero.1, by rw [c_zero.2]; grind, by rw [c_zero.2]; grind⟩, ?_, ?_, ?_, ?_⟩
    · rw [e]; exact hG
    · rw [e]; exact hG
    · rw [e]; exact hG
    · intro h; rw [(ex_cmp_eq En Em).mpr hgrey] at h; cases h
  · rw [if_neg (fun q => hgrey ((ex_cmp_eq En Em).mp q))]
    clear G
    have hD : 0 < M - m := by lia
    have Ed := sub_ex Em En (by lia)
    have Et := sub_ex two_ex Em (by lia)
    have Eu := sub_ex Et En (by lia)
    replace T := T hD
    replace HN := HN Ed hD
    have hMb : 0 < M ∧ M ≤ 512 := by lia
    have hmb : 0 ≤ m ∧ m < M := by lia
    clear hgrey mb0 mb1 mb2
    obtain ⟨η, n, eη, Nh, hu0, hu1⟩ := HN
    generalize hueI X Y Z M (M - m) = H at *
    generalize ledM (M + m) k (X, Y, Z) = q at *
    generalize hueF r g b mx (sub mx mn) = hu at *
    obtain ⟨Nt, ht0, ht1⟩ := turned k hk Nh hu0 hu1
    generalize hht : add hu (mul (ofInt (k : Int)) 4595172819793696085) = ht at *
    have Mq := intle hMb.2
    have mq := intle hmb.1
    have Dq := intpos hD
    have z0 : ((0 : Int) : Rat) = 0 := rfl
    have z1 : ((1 : Int) : Rat) = 1 := rfl
    have z2 : ((2 : Int) : Rat) = 2 := rfl
    have zm2 : ((-2 : Int) : Rat) = -2 := rfl
    have z512 : ((512 : Int) : Rat) = 512 := rfl
    have z1024 : ((1024 : Int) : Rat) = 1024 := rfl
    have eD : ((M - m : Int) : Rat) = (M : Rat) - (m : Rat) := Rat.intCast_sub _ _
    have D1 := intle (show 1 ≤ M - m by lia)
    -- the share and the two ends
    have hcmp : (cmp (div (add mx mn) 4611686018427387904) 4602678819172646912 == some .lt || cmp (div (add mx mn) 4611686018427387904) 4602678819172646912 == some .eq) = true ↔ M + m ≤ 512 := by
      rw [Bool.or_eq_true, cmp_lt fl c_half.1, cmp_eq fl c_half.1, c_half.2]
      exact half_cmp vl
    rw [Rat.intCast_add] at vl
    have key : ∃ s ρ, (if (cmp (div (add mx mn) 4611686018427387904) 4602678819172646912 == some .lt || cmp (div (add mx mn) 4611686018427387904) 4602678819172646912 == some .eq) = true
        then div (sub mx mn) (add mx mn) else div (sub mx mn) (sub (sub 4611686018427387904 mx) mn)) = s ∧ Near s ρ (1 / 562949953421312) ∧ 1 ≤ ρ * 1024 ∧ Near (m2F (div (add mx mn) 4611686018427387904) s) ((M : Rat) / 512) (6 / 562949953421312) := by
      unfold m2F
      by_cases c : M + m ≤ 512
      · rw [if_pos (hcmp.mpr c)]
        obtain ⟨ρ, e1, p0, p1, fs, s1, s2⟩ := share_near Ed Es (by lia) (by lia) (by lia)
        have cq := intle c
        have Sp := intpos (show 0 < M + m by lia)
        have Sq := intle (show M + m ≤ 1024 by lia)
        have g1 := pos_of_mul Sp (a := ρ) (by rw [e1]; grind) (by grind)
        refine ⟨_, ρ, rfl, ⟨fs, s1, s2⟩, g1, ?_⟩
        rw [if_pos (hcmp.mpr c)]
        generalize div (sub mx mn) (add mx mn) = s at *
        generalize div (add mx mn) 4611686018427387904 = l at *
        rw [Rat.intCast_add] at e1 cq
        rw [eD] at e1
        obtain ⟨fa, a1, a2⟩ := add49 c_one.1 fs (by rw [c_one.2]; grind) (by rw [c_one.2]; grind)
        rw [c_one.2] at a1 a2
        generalize add 4607182418800017408 s = os at *
        have l0 : 0 ≤ rv l := by rw [vl]; grind
        have l1 : rv l ≤ 1 / 2 := by rw [vl]; grind
        obtain ⟨b1, b2⟩ := prod_near (a := rv os) (d := 1 + ρ) (t := rv l) (e := 2 / 562949953421312) (by grind) (by grind) (by grind) (by grind)
        have pl0 := Rat.mul_nonneg p0 l0
        have pl1 := Rat.mul_le_mul_of_nonneg_right p1 l0
        have ex : (1 + ρ) * rv l = (M : Rat) / 512 := by rw [vl]; grind
        obtain ⟨fm, d1, d2⟩ := mul49 fl fa (by grind) (by grind)
        exact ⟨fm, by grind, by grind⟩
      · rw [if_neg (fun q => c (hcmp.mp q))]
        obtain ⟨ρ, e1, p0, p1, fs, s1, s2⟩ := share_near Ed Eu (by lia) (by lia) (by lia)
        have Sp := intpos (show 0 < 1024 - M - m by lia)
        have Sq := intle (show 1024 - M - m ≤ 1024 by lia)
        have S3 := intle (show M + m ≤ 1024 by lia)
        have S4 := intle (show 0 ≤ M + m by lia)
        have g1 := pos_of_mul Sp (a := ρ) (by rw [e1]; grind) (by grind)
        refine ⟨_, ρ, rfl, ⟨fs, s1, s2⟩, g1, ?_⟩
        rw [if_neg (fun q => c (hcmp.mp q))]
        generalize div (sub mx mn) (sub (sub 4611686018427387904 mx) mn) = s at *
        generalize div (add mx mn) 4611686018427387904 = l at *
        rw [Rat.intCast_add] at S3 S4
        rw [eD, Rat.intCast_sub, Rat.intCast_sub] at e1
        have l0 : 0 ≤ rv l := by rw [vl]; grind
        have l1 : rv l ≤ 1 := by rw [vl]; grind
        obtain ⟨fa, a1, a2⟩ := add49 fl fs (by grind) (by grind)
        obtain ⟨b1, b2⟩ := prod_near (a := rv s) (d := ρ) (t := rv l) (e := 1 / 562949953421312) (by grind) (by grind) (by grind) (by grind)
        have pl0 := Rat.mul_nonneg p0 l0
        have pl1 := Rat.mul_le_mul_of_nonneg_right p1 l0
        obtain ⟨fm, d1, d2⟩ := mul49 fl fs (by grind) (by grind)
        obtain ⟨fo, o1, o2⟩ := sub49 fa fm (by grind) (by grind)
        have ex : rv l + ρ - ρ * rv l = (M : Rat) / 512 := by rw [vl]; grind
        exact ⟨fo, by grind, by grind⟩
    obtain ⟨s, ρ, es, ⟨fs, s1, s2⟩, g1, ⟨fm2, m21, m22⟩⟩ := key
    rw [es]
    have hs0 : ¬ (cmp s 0 == some .eq) = true := by
      rw [cmp_eq fs c_zero.1, c_zero.2]
      grind
    have fz : ∀ {x : UInt64} {A : Int}, Ex x A → A ≠ 0 → isZero x = false := by
      intro x A h h0
      refine lnot (zero_iff h.1) ?_
      rw [h.2]
      intro q
      have : (A : Rat) = ((0 : Int) : Rat) := by grind
      exact h0 (by exact_mod_cast this)
    have hU : unhlsF ht (div (add mx mn) 4611686018427387904) s = (vF (sub (mul 4611686018427387904 (div (add mx mn) 4611686018427387904)) (m2F (div (add mx mn) 4611686018427387904) s)) (m2F (div (add mx mn) 4611686018427387904) s) (add ht 4599676419421066581),
        vF (sub (mul 4611686018427387904 (div (add mx mn) 4611686018427387904)) (m2F (div (add mx mn) 4611686018427387904) s)) (m2F (div (add mx mn) 4611686018427387904) s) ht,
        vF (sub (mul 4611686018427387904 (div (add mx mn) 4611686018427387904)) (m2F (div (add mx mn) 4611686018427387904) s)) (m2F (div (add mx mn) 4611686018427387904) s) (sub ht 4599676419421066581)) := by
      unfold unhlsF; rw [if_neg hs0]
    generalize div (add mx mn) 4611686018427387904 = l at *
    generalize m2F l s = m2 at *
    obtain ⟨ftl, tl1, tl2⟩ := mul49 c_two.1 fl (by rw [c_two.2, vl]; grind) (by rw [c_two.2, vl]; grind)
    rw [c_two.2, vl] at tl1 tl2
    obtain ⟨fm1, m11, m12⟩ := sub49 ftl fm2 (by grind) (by grind)
    generalize sub (mul 4611686018427387904 l) m2 = m1 at *
    have N1 : Near m1 ((m : Rat) / 512) (10 / 562949953421312) := ⟨fm1, by grind, by grind⟩
    have N2 : Near m2 ((m : Rat) / 512 + ((M - m : Int) : Rat) / 512) (6 / 562949953421312) := by
      rw [eD, show (m : Rat) / 512 + ((M : Rat) - (m : Rat)) / 512 = (M : Rat) / 512 by grind]; exact ⟨fm2, m21, m22⟩
    have q1 : (0 : Rat) ≤ (m : Rat) / 512 := by grind
    have q2 : (m : Rat) / 512 + ((M - m : Int) : Rat) / 512 ≤ 1 := by rw [eD]; grind
    have q3 : (0 : Rat) ≤ ((M - m : Int) : Rat) / 512 := by grind
    obtain ⟨ft, t1, t2⟩ := Nt
    have chan : ∀ (h : UInt64) (c : Int) (C : Int), Near h (η - n + (k : Rat) / 6 + (c : Rat) / 6) (14 / 562949953421312) → IsT (M - m) (H + ((k : Int) + c) * (M - m)) (C - m) → Good (vF m1 m2 h) C := by
      intro h c C ⟨fh, w1, w2⟩ hT
      obtain ⟨t, nn, v1, v2, v3, v4, v5⟩ := vF_near N1 N2 fh q1 q2 q3
      obtain ⟨n', b0, b1, hv⟩ := chan_int (η := η) (c := (k : Int) + c) (n := -n - nn) (mn := m) hD (by lia) eη (t := t) (by rw [Rat.intCast_add, castN, Rat.intCast_sub, Rat.intCast_neg]; grind) (by rw [Rat.intCast_add, castN, Rat.intCast_sub, Rat.intCast_neg]; grind) (by grind) (by grind) v5
      rw [hT n' b0 b1, show m + (C - m) = C by lia] at hv
      exact hv
    refine ⟨hu, l, s, _, _, _, rfl, (congrArg (fun q => unhlsF q l s) hht).trans hU, ⟨Nh.1, hu0, hu1⟩, ?_, ?_, ?_, fun _ => ⟨fz Es (by lia), fz Ed (by lia), fz Eu (by lia)⟩⟩
    · obtain ⟨fa, a1, a2⟩ := add49 ft c_third.1 (by rw [c_third.2]; grind) (by rw [c_third.2]; grind)
      rw [c_third.2] at a1 a2
      exact chan _ 2 _ ⟨fa, by grind, by grind⟩ T.1
    · refine chan _ 0 _ ⟨ft, by grind, by grind⟩ ?_
      rw [Int.add_zero]; exact T.2.1
    · obtain ⟨fa, a1, a2⟩ := sub49 ft c_third.1 (by rw [c_third.2]; grind) (by rw [c_third.2]; grind)
      rw [c_third.2] at a1 a2
      exact chan _ (-2) _ ⟨fa, by grind, by grind⟩ T.2.2
end Mine
end

section
open PySem PySem.Float64
namespace Mine
variable {r g b : UInt64} {X Y Z : Int}
set_option maxHeartbeats 4000000 in
theorem hsv_all (hr : Ex r X) (hg : Ex g Y) (hb : Ex b Z) (hX : 0 ≤ X ∧ X ≤ 512) (hY : 0 ≤ Y ∧ Y ≤ 512) (hZ : 0 ≤ Z ∧ Z ≤ 512) (hbg : Y = Z → g = b) (k : Nat) (hk : k ≤ 5) :
    ∃ hu sh va ro go bo, hsvF r g b = (hu, sh, va) ∧ unhsvF (add hu (mul (ofInt (k : Int)) 4595172819793696085)) sh va = (ro, go, bo) ∧ (Fin' hu ∧ 0 ≤ rv hu ∧ rv hu < 1) ∧
      Good ro (ledI k (X, Y, Z)).1 ∧ Good go (ledI k (X, Y, Z)).2.1 ∧ Good bo (ledI k (X, Y, Z)).2.2 ∧
      ((Float64.cmp (fmin3 r g b) (fmax3 r g b) == some .eq) = false → Float64.isZero (fmax3 r g b) = false ∧ Float64.isZero (Float64.sub (fmax3 r g b) (fmin3 r g b)) = false) ∧
      ((Float64.cmp sh 0 == some .eq) = false → Float64.isNaN (Float64.mul (Float64.add hu (Float64.mul (Float64.ofInt (k : Int)) 4595172819793696085)) 4618441417868443648) = false ∧ Float64.isInf (Float64.mul (Float64.add hu (Float64.mul (Float64.ofInt (k : Int)) 4595172819793696085)) 4618441417868443648) = false ∧ (Flt.toInt Float64.truncOf (Float64.mul (Float64.add hu (Float64.mul (Float64.ofInt (k : Int)) 4595172819793696085)) 4618441417868443648)).natAbs < 2 ^ 1024 - 2 ^ 970) := by
  have Em := ex_max3 hr hg hb
  have En := ex_min3 hr hg hb
  unfold hsvF
  generalize fmax3 r g b = mx at *
  generalize fmin3 r g b = mn at *
  obtain ⟨mb0, mb1, mb2⟩ := mm3 hX hY hZ
  have G := grey_all (X := X) (Y := Y) (Z := Z) k
  have T := fun hD => led_tri (X := X) (Y := Y) (Z := Z) (M := max (max X Y) Z) (m := min (min X Y) Z) rfl rfl rfl hD k
  have HN := fun (Ed : Ex (sub mx mn) (max (max X Y) Z - min (min X Y) Z)) (hD : 0 < max (max X Y) Z - min (min X Y) Z) => hue_near (D := max (max X Y) Z - min (min X Y) Z) hr hg hb Em Ed rfl rfl hD hX hY hZ hbg
  unfold ledI
  simp only
  generalize max (max X Y) Z = M at *
  generalize min (min X Y) Z = m at *
  clear hX hY hZ hr hg hb hbg
  by_cases hgrey : m = M
  · rw [if_pos ((ex_cmp_eq En Em).mpr hgrey)]
    obtain ⟨e, rfl, rfl, eM⟩ := G hgrey
    have hz0 : (cmp 0 0 == some .eq) = true := (cmp_eq c_zero.1 c_zero.1).mpr rfl
    have hG : Good mx Z := by
      rw [eM] at Em
      clear e hgrey eM En mb0 mb1 mb2 T HN G
      refine ⟨Em.1, ?_, ?_⟩ <;> (rw [Em.2]; grind)
    refine ⟨_, _, _, _, _, _, rfl, by unfold unhsvF; rw [if_pos hz0], ⟨c_zero.1, by rw [c_zero.2]; grind, by rw [c_zero.2]; grind⟩, ?_, ?_, ?_, ?_, ?_⟩
    · rw [e]; exact hG
    · rw [e]; exact hG
    · rw [e]; exact hG
    · intro h; rw [(ex_cmp_eq En Em).mpr hgrey] at h; cases h
    · intro h; rw [hz0] at h; cases h
  · rw [if_neg (fun q => hgrey ((ex_cmp_eq En Em).mp q))]
    clear G
    have hD : 0 < M - m := by lia
    have Ed := sub_ex Em En (by lia)
    replace T := T hD
    replace HN := HN Ed hD
    have hMb : 0 < M ∧ M ≤ 512 := by lia
    have hmb : 0 ≤ m ∧ m < M := by lia
    clear hgrey mb0 mb1 mb2
    obtain ⟨η, n, eη, Nh, hu0, hu1⟩ := HN
    generalize hueI X Y Z M (M - m) = H at *
    generalize ledM (M + m) k (X, Y, Z) = q at *
    generalize hueF r g b mx (sub mx mn) = hu at *
    obtain ⟨Nt, ht0, ht1⟩ := turned k hk Nh hu0 hu1
    generalize hht : add hu (mul (ofInt (k : Int)) 4595172819793696085) = ht at *
    have Mq := intle hMb.2
    have mq := intle hmb.1
    have Dq := intpos hD
    have z0 : ((0 : Int) : Rat) = 0 := rfl
    have z1 : ((1 : Int) : Rat) = 1 := rfl
    have z2 : ((2 : Int) : Rat) = 2 := rfl
    have z512 : ((512 : Int) : Rat) = 512 := rfl
    have z1024 : ((1024 : Int) : Rat) = 1024 := rfl
    have eD : ((M - m : Int) : Rat) = (M : Rat) - (m : Rat) := Rat.intCast_sub _ _
    have D1 := intle (show 1 ≤ M - m by omega)
    have fz : ∀ {x : UInt64} {A : Int}, Ex x A → A ≠ 0 → isZero x = false := by
      intro x A h h0
      refine lnot (zero_iff h.1) ?_
      rw [h.2]
      intro q
      have : (A : Rat) = ((0 : Int) : Rat) := by grind
      exact h0 (by exact_mod_cast this)
    -- the share
    obtain ⟨ρ, e1, p0, p1, fs, s1, s2⟩ := share_near Ed Em hMb.1 (by omega) (by omega)
    have g1 := pos_of_mul (intpos hMb.1) (a := ρ) (by rw [e1]; grind) (by grind)
    generalize div (sub mx mn) mx = s at *
    have hs0 : ¬ (cmp s 0 == some .eq) = true := by
      rw [cmp_eq fs c_zero.1, c_zero.2]
      grind
    obtain ⟨ft, t1, t2⟩ := Nt
    have h60 : 0 ≤ rv ht * 6 := by grind
    obtain ⟨fx, x1, x2⟩ := mul49 ft c_six.1 (by rw [c_six.2]; grind) (by rw [c_six.2]; grind)
    have x0 := mul_nonneg49 ft c_six.1 ht0 (by rw [c_six.2]; grind) (by rw [c_six.2]; grind)
    rw [c_six.2] at x1 x2
    have hU : unhsvF ht s mx = sixF (mul ht 4618441417868443648) s mx := by unfold unhsvF; rw [if_neg hs0]
    have hbig : ∀ i : Int, (i : Rat) ≤ 13 → (-1 : Rat) ≤ (i : Rat) → i.natAbs < 2 ^ 1024 - 2 ^ 970 := by
      intro i h1 h2
      have a1 : i ≤ 13 := by
        have : (i : Rat) ≤ ((13 : Int) : Rat) := h1
        exact_mod_cast this
      have a2 : -1 ≤ i := by
        have : ((-1 : Int) : Rat) ≤ (i : Rat) := h2
        exact_mod_cast this
      exact Nat.lt_of_le_of_lt (show i.natAbs ≤ 13 by omega) (by decide +kernel)
    refine ⟨hu, s, mx, (sixF (mul ht 4618441417868443648) s mx).1, (sixF (mul ht 4618441417868443648) s mx).2.1, (sixF (mul ht 4618441417868443648) s mx).2.2, rfl, (congrArg (fun q => unhsvF q s mx) hht).trans hU, ⟨Nh.1, hu0, hu1⟩, ?_⟩
    rw [hht]
    generalize mul ht 4618441417868443648 = x at *
    obtain ⟨i1, i2⟩ := trunc_whole fx x0
    have hb2 := hbig _ (Rat.le_trans i1 (by grind)) (by grind)
    clear hbig
    rw [← and_assoc, ← and_assoc]
    refine ⟨?_, fun _ => ⟨fz Em (by omega), fz Ed (by omega)⟩, fun _ => ⟨(fin_not fx).1, (fin_not fx).2, hb2⟩⟩
    rw [and_assoc]
    unfold sixF
    generalize hi : Flt.toInt truncOf x = i at *
    have hi13 : i ≤ 13 := by
      have : (i : Rat) ≤ ((13 : Int) : Rat) := Rat.le_trans i1 (by have : ((13 : Int) : Rat) = 13 := rfl; grind)
      exact_mod_cast this
    have hi0 : 0 ≤ i := by
      have : ((-1 : Int) : Rat) < (i : Rat) := by have : ((-1 : Int) : Rat) = -1 := rfl; grind
      have : -1 < i := by exact_mod_cast this
      omega
    obtain ⟨fi, vi⟩ := ofInt_exact (i := i) (by omega)
    obtain ⟨ff, f1, f2⟩ := sub49 fx fi (by rw [vi]; grind) (by rw [vi]; grind)
    rw [vi] at f1 f2
    generalize hφ : rv x - (i : Rat) = φ at *
    have φ0 : 0 ≤ φ := by grind
    have φ1 : φ ≤ 1 := by grind
    generalize sub x (ofInt i) = f at *
    have fv := Em.1
    have vv := Em.2
    have v0 : 0 ≤ rv mx := by rw [vv]; grind
    have v1 : rv mx ≤ 1 := by rw [vv]; grind
    have eρ : ρ * rv mx = ((M - m : Int) : Rat) / 512 := by rw [vv]; grind
    have hm : (m : Rat) / 512 = rv mx - ((M - m : Int) : Rat) / 512 := by rw [vv, eD]; grind
    have d0 : 0 ≤ ((M - m : Int) : Rat) / 512 := by grind
    have d1 : ((M - m : Int) : Rat) / 512 ≤ 1 := by rw [eD]; grind
    generalize hd : ((M - m : Int) : Rat) / 512 = d at *
    generalize hvm : rv mx = vm at *
    have dφ0 := Rat.mul_nonneg d0 φ0
    have dφ1 := Rat.mul_le_mul_of_nonneg_left φ1 d0
    have ρφ0 := Rat.mul_nonneg p0 φ0
    have ρφ1 := Rat.mul_le_mul_of_nonneg_left φ1 p0
    -- p
    obtain ⟨fo, o1, o2⟩ := sub49 c_one.1 fs (by rw [c_one.2]; grind) (by rw [c_one.2]; grind)
    rw [c_one.2] at o1 o2
    have Np : Near (mul mx (sub 4607182418800017408 s)) (vm - d) (10 / 562949953421312) := by
      generalize sub 4607182418800017408 s = w at *
      obtain ⟨b1, b2⟩ := prod_near (a := rv w) (d := 1 - ρ) (t := vm) (e := 2 / 562949953421312) (by grind) (by grind) (by grind) (by grind)
      obtain ⟨fm, c1, c2⟩ := mul49 fv fo (by rw [hvm]; grind) (by rw [hvm]; grind)
      rw [hvm] at c1 c2
      exact ⟨fm, by grind, by grind⟩
    -- q
    have Nq : Near (mul mx (sub 4607182418800017408 (mul s f))) (vm - d * φ) (20 / 562949953421312) := by
      obtain ⟨b1, b2⟩ := prod_near (a := rv s) (d := ρ) (t := rv f) (e := 1 / 562949953421312) (by grind) (by grind) (by grind) (by grind)
      obtain ⟨b3, b4⟩ := prod_near (a := rv f) (d := φ) (t := ρ) (e := 1 / 562949953421312) (by grind) (by grind) (by grind) (by grind)
      obtain ⟨fm, c1, c2⟩ := mul49 fs ff (by grind) (by grind)
      generalize mul s f = w at *
      obtain ⟨fw, w1, w2⟩ := sub49 c_one.1 fm (by rw [c_one.2]; grind) (by rw [c_one.2]; grind)
      rw [c_one.2] at w1 w2
      generalize sub 4607182418800017408 w = y at *
      obtain ⟨b5, b6⟩ := prod_near (a := rv y) (d := 1 - ρ * φ) (t := vm) (e := 7 / 562949953421312) (by grind) (by grind) (by grind) (by grind)
      have e2 : (1 - ρ * φ) * vm = vm - d * φ := by rw [← eρ]; grind
      obtain ⟨fy, y1, y2⟩ := mul49 fv fw (by rw [hvm]; grind) (by rw [hvm]; grind)
      rw [hvm] at y1 y2
      exact ⟨fy, by grind, by grind⟩
    have Nt : Near (mul mx (sub 4607182418800017408 (mul s (sub 4607182418800017408 f)))) (vm - d + d * φ) (30 / 562949953421312) := by
      obtain ⟨fg, g1', g2'⟩ := sub49 c_one.1 ff (by rw [c_one.2]; grind) (by rw [c_one.2]; grind)
      rw [c_one.2] at g1' g2'
      generalize sub 4607182418800017408 f = u at *
      obtain ⟨b1, b2⟩ := prod_near (a := rv s) (d := ρ) (t := rv u) (e := 1 / 562949953421312) (by grind) (by grind) (by grind) (by grind)
      obtain ⟨b3, b4⟩ := prod_near (a := rv u) (d := 1 - φ) (t := ρ) (e := 2 / 562949953421312) (by grind) (by grind) (by grind) (by grind)
      obtain ⟨fm, c1, c2⟩ := mul49 fs fg (by grind) (by grind)
      generalize mul s u = w at *
      obtain ⟨fw, w1, w2⟩ := sub49 c_one.1 fm (by rw [c_one.2]; grind) (by rw [c_one.2]; grind)
      rw [c_one.2] at w1 w2
      generalize sub 4607182418800017408 w = y at *
      obtain ⟨b5, b6⟩ := prod_near (a := rv y) (d := 1 - ρ * (1 - φ)) (t := vm) (e := 9 / 562949953421312) (by grind) (by grind) (by grind) (by grind)
      have e2 : (1 - ρ * (1 - φ)) * vm = vm - d + d * φ := by rw [← eρ]; grind
      obtain ⟨fy, y1, y2⟩ := mul49 fv fw (by rw [hvm]; grind) (by rw [hvm]; grind)
      rw [hvm] at y1 y2
      exact ⟨fy, by grind, by grind⟩
    have Nv : Near mx vm 0 := ⟨fv, by rw [hvm]; grind, by rw [hvm]; grind⟩
    have chan : ∀ (val : UInt64) (c j δ r C : Int) (J : Rat), (j : Rat) = J → i % 6 = r → j = r + c - 6 * δ → 0 ≤ j → j ≤ 5 → Near val (vm - d + tri d (6 * (d * ((J + φ) / 6)))) (300 / 562949953421312) → IsT (M - m) (H + ((k : Int) + c) * (M - m)) (C - m) → Good val C := by
      intro val c j δ r C J hJ hr hj j0 j5 hv hT
      replace hj : j = i + c - 6 * (i / 6 + δ) := by clear hT hv; lia
      generalize i / 6 + δ = E at hj
      clear hr
      have jq0 := intle j0
      have jq5 := intle j5
      have z5 : ((5 : Int) : Rat) = 5 := rfl
      have ej : (j : Rat) = (i : Rat) + (c : Rat) - 6 * (E : Rat) := by rw [hj, Rat.intCast_sub, Rat.intCast_add, Rat.intCast_mul]; rfl
      obtain ⟨n', b0, b1, hv'⟩ := chan_int (v := val) (η := η) (c := (k : Int) + c) (n := -n - E) (mn := m) hD (by lia) eη (t := (J + φ) / 6) (by rw [Rat.intCast_add, castN, Rat.intCast_sub, Rat.intCast_neg]; grind) (by rw [Rat.intCast_add, castN, Rat.intCast_sub, Rat.intCast_neg]; grind) (by grind) (by grind) (by rw [hd, hm]; exact hv)
      rw [hT n' b0 b1, show m + (C - m) = C by lia] at hv'
      exact hv'
    have wide : ∀ {val : UInt64} {e e' : Rat} {δ : Rat}, Near val e δ → e' = e → δ ≤ 300 / 562949953421312 → Near val e' (300 / 562949953421312) := by
      intro val e e' δ h h1 h2
      obtain ⟨a, b, c⟩ := h
      exact ⟨a, by grind, by grind⟩
    have T2 : IsT (M - m) (H + ((k : Int) + 0) * (M - m)) (q.2.1 - m) := by rw [Int.add_zero]; exact T.2.1
    have eu : ∀ J : Rat, 6 * (d * ((J + φ) / 6)) = J * d + d * φ := fun J => by grind
    have y1 : d * φ ≤ d := by grind
    simp only [eu] at chan
    clear eu
    generalize d * φ = y at *
    have J0 : vm - d + tri d (0 * d + y) = vm - d + y := by rw [tri_upE d0 (by grind) (by grind)]; grind
    have J1 : vm - d + tri d (1 * d + y) = vm := by rw [tri_topE d0 (by grind) (by grind)]; grind
    have J2 : vm - d + tri d (2 * d + y) = vm := by rw [tri_topE d0 (by grind) (by grind)]; grind
    have J3 : vm - d + tri d (3 * d + y) = vm - y := by rw [tri_dnE d0 (by grind) (by grind)]; grind
    have J4 : vm - d + tri d (4 * d + y) = vm - d := by rw [tri_outE (by grind)]; grind
    have J5 : vm - d + tri d (5 * d + y) = vm - d := by rw [tri_outE (by grind)]; grind
    have hfm : i.fmod 6 = i % 6 := Int.fmod_eq_emod_of_nonneg _ (by decide)
    rw [hfm]
    have dn : (10 : Rat) / 562949953421312 ≤ 300 / 562949953421312 ∧ (20 : Rat) / 562949953421312 ≤ 300 / 562949953421312 ∧ (30 : Rat) / 562949953421312 ≤ 300 / 562949953421312 ∧ (0 : Rat) ≤ 300 / 562949953421312 := by refine ⟨?_, ?_, ?_, ?_⟩ <;> grind
    by_cases k0 : i % 6 = 0
    · rw [if_pos k0]
      exact ⟨chan _ 2 2 0 _ _ 2 rfl k0 (by decide) (by decide) (by decide) (wide Nv J2 dn.2.2.2) T.1,
        chan _ 0 0 0 _ _ 0 rfl k0 (by decide) (by decide) (by decide) (wide Nt J0 dn.2.2.1) T2,
        chan _ (-2) 4 (-1) _ _ 4 rfl k0 (by decide) (by decide) (by decide) (wide Np J4 dn.1) T.2.2⟩
    rw [if_neg k0]
    by_cases k1 : i % 6 = 1
    · rw [if_pos k1]
      exact ⟨chan _ 2 3 0 _ _ 3 rfl k1 (by decide) (by decide) (by decide) (wide Nq J3 dn.2.1) T.1,
        chan _ 0 1 0 _ _ 1 rfl k1 (by decide) (by decide) (by decide) (wide Nv J1 dn.2.2.2) T2,
        chan _ (-2) 5 (-1) _ _ 5 rfl k1 (by decide) (by decide) (by decide) (wide Np J5 dn.1) T.2.2⟩
    rw [if_neg k1]
    by_cases k2 : i % 6 = 2
    · rw [if_pos k2]
      exact ⟨chan _ 2 4 0 _ _ 4 rfl k2 (by decide) (by decide) (by decide) (wide Np J4 dn.1) T.1,
        chan _ 0 2 0 _ _ 2 rfl k2 (by decide) (by decide) (by decide) (wide Nv J2 dn.2.2.2) T2,
        chan _ (-2) 0 0 _ _ 0 rfl k2 (by decide) (by decide) (by decide) (wide Nt J0 dn.2.2.1) T.2.2⟩
    rw [if_neg k2]
    by_cases k3 : i % 6 = 3
    · rw [if_pos k3]
      exact ⟨chan _ 2 5 0 _ _ 5 rfl k3 (by decide) (by decide) (by decide) (wide Np J5 dn.1) T.1,
        chan _ 0 3 0 _ _ 3 rfl k3 (by decide) (by decide) (by decide) (wide Nq J3 dn.2.1) T2,
        chan _ (-2) 1 0 _ _ 1 rfl k3 (by decide) (by decide) (by decide) (wide Nv J1 dn.2.2.2) T.2.2⟩
    rw [if_neg k3]
    by_cases k4 : i % 6 = 4
    · rw [if_pos k4]
      exact ⟨chan _ 2 0 1 _ _ 0 rfl k4 (by decide) (by decide) (by decide) (wide Nt J0 dn.2.2.1) T.1,
        chan _ 0 4 0 _ _ 4 rfl k4 (by decide) (by decide) (by decide) (wide Np J4 dn.1) T2,
        chan _ (-2) 2 0 _ _ 2 rfl k4 (by decide) (by decide) (by decide) (wide Nv J2 dn.2.2.2) T.2.2⟩
    rw [if_neg k4]
    have k5 : i % 6 = 5 := by omega
    exact ⟨chan _ 2 1 1 _ _ 1 rfl k5 (by decide) (by decide) (by decide) (wide Nv J1 dn.2.2.2) T.1,
      chan _ 0 5 0 _ _ 5 rfl k5 (by decide) (by decide) (by decide) (wide Np J5 dn.1) T2,
      chan _ (-2) 3 0 _ _ 3 rfl k5 (by decide) (by decide) (by decide) (wide Nq J3 dn.2.1) T.2.2⟩
end Mine
end

section
open PySem PySem.W PyProof.Rows PySem.Calls
namespace Mine
theorem ledI_max (k : Nat) (x y z : Int) : max (max (ledI k (x, y, z)).1 (ledI k (x, y, z)).2.1) (ledI k (x, y, z)).2.2 = max (max x y) z ∧ min (min (ledI k (x, y, z)).1 (ledI k (x, y, z)).2.1) (ledI k (x, y, z)).2.2 = min (min x y) z := by
  unfold ledI
  exact ledM_max (x, y, z) rfl rfl k
theorem ledI_range (k : Nat) {x y z : Int} (hX : 0 ≤ x ∧ x ≤ 512) (hY : 0 ≤ y ∧ y ≤ 512) (hZ : 0 ≤ z ∧ z ≤ 512) :
    (0 ≤ (ledI k (x, y, z)).1 ∧ (ledI k (x, y, z)).1 ≤ 512) ∧ (0 ≤ (ledI k (x, y, z)).2.1 ∧ (ledI k (x, y, z)).2.1 ≤ 512) ∧ (0 ≤ (ledI k (x, y, z)).2.2 ∧ (ledI k (x, y, z)).2.2 ≤ 512) := by
  have e := ledI_max k x y z
  have q := mx3 (ledI k (x, y, z)).1 (ledI k (x, y, z)).2.1 (ledI k (x, y, z)).2.2
  have r := mx3_le hX hY hZ
  rw [e.1, e.2] at q
  obtain ⟨⟨q1, q2, q3⟩, q4, q5, q6⟩ := q
  exact ⟨⟨Int.le_trans r.2 q4, Int.le_trans q1 r.1⟩, ⟨Int.le_trans r.2 q5, Int.le_trans q2 r.1⟩, ⟨Int.le_trans r.2 q6, Int.le_trans q3 r.1⟩⟩
theorem ledI_neg (k : Nat) (x y z : Int) : ledI k (512 - x, 512 - y, 512 - z) = (512 - (ledI k (x, y, z)).1, 512 - (ledI k (x, y, z)).2.1, 512 - (ledI k (x, y, z)).2.2) := by
  unfold ledI
  simp only
  rw [show max (max (512 - x) (512 - y)) (512 - z) + min (min (512 - x) (512 - y)) (512 - z) = 1024 - (max (max x y) z + min (min x y) z) by rw [(mx3_sub 512 x y z).1, (mx3_sub 512 x y z).2]; lia]
  exact ledM_neg (x, y, z) k
theorem q_ex {X : Int} (h : 0 ≤ X ∧ X ≤ 512) : Ex (q512 X) X := q512_exact h.1 h.2
theorem u_zero {hu : UInt64} (h : Fin' hu ∧ 0 ≤ rv hu ∧ rv hu < 1) : (Float64.cmpInt hu 0 == some .gt || Float64.cmpInt hu 0 == some .eq) = true ∧ (Float64.cmpInt hu 1 == some .lt) = true :=
  ⟨(cmpInt_ge h.1 0).mpr h.2.1, (cmpInt_lt h.1 1).mpr h.2.2⟩
theorem small_k {k : Nat} (hk : k ≤ 5) : (k : Int).natAbs < 2 ^ 1024 - 2 ^ 970 := Nat.lt_of_le_of_lt (show (k : Int).natAbs ≤ 5 by omega) (by decide +kernel)
theorem neg_bd {c : Int} (h : 0 ≤ c ∧ c ≤ 512) : 0 ≤ 512 - c ∧ 512 - c ≤ 512 := by constructor <;> lia
section
variable {w : World} {mean : ExcName → Option Value} {mg mb : Str → Option Value} {dp un : Nat} {gd : Option (List Code)} {cn : Str} {cs : Scope} {a : Addr} {ccd : Value} {cl : List (Str × Addr)} {outer : List Env} {A₀ : Around} {base h₀ : Heap} {L : Addr} {m : Str → Option Value} {s : Shared} {E : Value → Shared → Prop} {Q : Value → Shared → Prop}
/-- a colour led: `_law_led`, all three ways -/
theorem led_any (B : Below A₀ base outer h₀) (F : Fr h₀ L s.heap m) (KX : (hd.heap_39 w.params).In h₀) (T : Top hd.view_39 (looseW hd.view_39 LS) mean mg mb h₀) (hk : cs.kind = .function)
    (hdp : dp + 3 < recursionLimit) (hun : un + 128 < cLine) {p : Addr} {x y z way : Int} {k : Nat} {t1 t2 t3 t4 t5 : Tok} (hw : way = 0 ∨ way = 1 ∨ way = 2) (hk5 : k ≤ 5)
    (hp : s.heap.IsList p #[.int x t1, .int y t2, .int z t3]) (hX : 0 ≤ x ∧ x ≤ 512) (hY : 0 ≤ y ∧ y ≤ 512) (hZ : 0 ≤ z ∧ z ≤ 512)
    (hret : ∀ D u1 u2 u3 h' tk', (∀ b o, s.heap.get? b = some o → h'.get? b = some o) → s.heap.get? D = none → h'.get? D = some (LCg.lst [.int (ledI k (x, y, z)).1 u1, .int (ledI k (x, y, z)).2.1 u2, .int (ledI k (x, y, z)).2.2 u3]) → Q (.ref D) { s with heap := h', toks := tk' }) :
    wpAny (model PR w) (ktrTop dp un gd cn cs L a ccd cl outer) (call (.ref 54) [.ref p, .int (k : Int) t4, .int way t5]) Q E s := by
  obtain ⟨r1, r2, r3⟩ := ledI_range k hX hY hZ
  obtain ⟨m1, m2⟩ := ledI_max k x y z
  rcases hw with rfl | rfl | rfl
  · obtain ⟨hu, sh, va, ro, go, bo, e1, e2, hh, g1, g2, g3, z1, z2⟩ := hsv_all (q_ex hX) (q_ex hY) (q_ex hZ) hX hY hZ (fun h => by rw [h]) k hk5
    obtain ⟨u0, u1⟩ := u_zero hh
    obtain ⟨v1, f1, q1⟩ := part_round r1.1 r1.2 g1
    obtain ⟨v2, f2, q2⟩ := part_round r2.1 r2.2 g2
    obtain ⟨v3, f3, q3⟩ := part_round r3.1 r3.2 g3
    exact led_call (way := 0) B F KX T hk hdp hun hp (fin_not (q_ex hX).1).2 (fin_not (q_ex hY).1).2 (fin_not (q_ex hZ).1).2 (fun _ => ⟨sh, va, e1, z1, e2, z2⟩) (fun h => absurd rfl h) (small_k hk5) v1 v2 v3 u0 u1 f1 f2 f3 q1 q2 q3 m1 m2 hret
  · obtain ⟨hu, li, sh, ro, go, bo, e1, e2, hh, g1, g2, g3, z1⟩ := hls_all (q_ex hX) (q_ex hY) (q_ex hZ) hX hY hZ (fun h => by rw [h]) k hk5
    obtain ⟨u0, u1⟩ := u_zero hh
    obtain ⟨v1, f1, q1⟩ := part_round r1.1 r1.2 g1
    obtain ⟨v2, f2, q2⟩ := part_round r2.1 r2.2 g2
    obtain ⟨v3, f3, q3⟩ := part_round r3.1 r3.2 g3
    exact led_call (way := 1) B F KX T hk hdp hun hp (fin_not (q_ex hX).1).2 (fin_not (q_ex hY).1).2 (fin_not (q_ex hZ).1).2 (fun h => absurd h (by decide)) (fun _ => ⟨li, sh, e1, z1, e2⟩) (small_k hk5) v1 v2 v3 u0 u1 f1 f2 f3 q1 q2 q3 m1 m2 hret
  · have hX' := neg_bd hX
    have hY' := neg_bd hY
    have hZ' := neg_bd hZ
    obtain ⟨hu, li, sh, ro, go, bo, e1, e2, hh, g1, g2, g3, z1⟩ := hls_all (q_ex hX') (q_ex hY') (q_ex hZ') hX' hY' hZ' (fun h => by rw [h]) k hk5
    rw [ledI_neg] at g1 g2 g3
    obtain ⟨u0, u1⟩ := u_zero hh
    obtain ⟨v1, f1, q1⟩ := part_round (neg_bd r1).1 (neg_bd r1).2 g1
    obtain ⟨v2, f2, q2⟩ := part_round (neg_bd r2).1 (neg_bd r2).2 g2
    obtain ⟨v3, f3, q3⟩ := part_round (neg_bd r3).1 (neg_bd r3).2 g3
    exact led_call (way := 2) B F KX T hk hdp hun hp (fin_not (q_ex hX').1).2 (fin_not (q_ex hY').1).2 (fin_not (q_ex hZ').1).2 (fun h => absurd h (by decide)) (fun _ => ⟨li, sh, e1, z1, e2⟩) (small_k hk5) v1 v2 v3 u0 u1 f1 f2 f3 ((wq_2 rfl).trans (by rw [q1]; exact Int.sub_sub_self _ _)) ((wq_2 rfl).trans (by rw [q2]; exact Int.sub_sub_self _ _)) ((wq_2 rfl).trans (by rw [q3]; exact Int.sub_sub_self _ _)) m1 m2 hret
end
end Mine
end

section
open PySem PySem.W PyProof.Rows PySem.Calls
namespace Mine
/-- the script's cells: the base's number and the script's own -/
noncomputable def baseN : List Int := [3, 14, 1, 5, 9, 2, 6, 5, 3, 5, 8, 9, 7, 9, 3, 2, 3, 8, 4, 1, 3, 0, 1]
noncomputable def cellN (ns : List Int) (i : Nat) : Int := baseN.getD i 0 + ns.getD i 0
noncomputable def cellL (ns : List Int) : List Int := [cellN ns 0, cellN ns 1, cellN ns 2, cellN ns 3, cellN ns 4, cellN ns 5, cellN ns 6, cellN ns 7, cellN ns 8, cellN ns 9, cellN ns 10, cellN ns 11, cellN ns 12, cellN ns 13, cellN ns 14, cellN ns 15, cellN ns 16, cellN ns 17, cellN ns 18, cellN ns 19, cellN ns 20, cellN ns 21, cellN ns 22]
theorem cellL_at (ns : List Int) {i : Nat} (h : i < 23) : (cellL ns)[i]? = some (cellN ns i) := by
  have : cellL ns = (List.range 23).map (cellN ns) := rfl
  rw [this, List.getElem?_map, List.getElem?_range h]; rfl
theorem ints_of : ∀ {ys : List Value} {ns : List Int}, ys.length = ns.length → (∀ i y, ys[i]? = some y → ∃ t, y = Value.int (ns.getD i 0) t) → IntsAre ys ns
  | [], [], _, _ => .nil
  | y :: ys, n :: ns, hl, h => by
    obtain ⟨t, rfl⟩ := h 0 y rfl
    exact .cons n t (ints_of (by simpa using hl) fun i z e => h (i + 1) z e)
theorem sum_take_one (ns : List Int) (i : Nat) : (List.take (min ((i : Int) + 1).toNat ns.length - (i : Int).toNat) (List.drop (i : Int).toNat ns)).sum = ns.getD i 0 := by
  have e1 : ((i : Int) + 1).toNat = i + 1 := by omega
  have e2 : ((i : Int)).toNat = i := by omega
  rw [e1, e2]
  by_cases h : i < ns.length
  · have e3 : min (i + 1) ns.length - i = 1 := by omega
    rw [e3, List.drop_eq_getElem_cons h, List.take_succ_cons, List.take_zero, List.sum_cons, List.sum_nil, List.getD_eq_getElem?_getD, List.getElem?_eq_getElem h]
    simp
  · rw [List.drop_of_length_le (by omega)]
    simp [List.getD_eq_getElem?_getD, List.getElem?_eq_none (Nat.not_lt.mp h)]
/-- the ring's colours -/
noncomputable def ringC (ns : List Int) (i : Nat) : Int × Int × Int := ((cellN ns (3 * i)).fmod 16, (cellN ns (3 * i + 1)).fmod 16, (cellN ns (3 * i + 2)).fmod 16)
theorem take3 (ns : List Int) {i : Nat} (h : i < 6) : (List.take (min (0 + (i : Int) * 3 + 3).toNat (cellL ns).length - (0 + (i : Int) * 3).toNat) (List.drop (0 + (i : Int) * 3).toNat (cellL ns))) = [cellN ns (3 * i), cellN ns (3 * i + 1), cellN ns (3 * i + 2)] := by
  match i, h with
  | 0, _ => rfl | 1, _ => rfl | 2, _ => rfl | 3, _ => rfl | 4, _ => rfl | 5, _ => rfl
theorem ints3_of {ws : List Value} {a b c : Int} (h : IntsAre ws [a, b, c]) : ∃ t u v, ws = [Value.int a t, Value.int b u, Value.int c v] := by
  cases h with
  | cons _ t h => cases h with
    | cons _ u h => cases h with
      | cons _ v h => cases h; exact ⟨t, u, v, rfl⟩
end Mine
end

section
open PySem PySem.W PyProof.Rows PySem.Calls PyProof.Rows.LCg
namespace Mine
theorem addNe (L : Nat) {i j : Nat} (h : i ≠ j) : L + i ≠ L + j := by omega
theorem addNeL (L : Nat) {i : Nat} (h : 0 < i) : L + i ≠ L := by omega
/-- all that stands at h but the frame is kept as long as the ledger sn stands -/
def KeepS (hb h : Heap) (L : Addr) (sn : List (Addr × Obj)) : Prop := ∀ h' m' nl, Fr hb L h' m' → News hb L h' nl → (∀ p ∈ sn, p ∈ nl) → ∀ b o, b ≠ L → h.get? b = some o → h'.get? b = some o
/-- the law's frame and its eight cells -/
structure LwS (hb h : Heap) (L : Addr) (m : Str → Option Value) (v1 v2 v3 v4 v5 v6 v7 v8 : Option Value) : Prop where
  F : Fr hb L h m
  c1 : h.IsCell (L + 1) v1
  c2 : h.IsCell (L + 2) v2
  c3 : h.IsCell (L + 3) v3
  c4 : h.IsCell (L + 4) v4
  c5 : h.IsCell (L + 5) v5
  c6 : h.IsCell (L + 6) v6
  c7 : h.IsCell (L + 7) v7
  c8 : h.IsCell (L + 8) v8
theorem cell_ne_list {h : Heap} {c a : Addr} {v : Option Value} {o : Obj} (hc : h.IsCell c v) (e : h.get? a = some o) (hd : ∀ x, o.data ≠ .cell x) : a ≠ c := by
  rintro rfl
  obtain ⟨o', e', d'⟩ := hc
  rw [e] at e'
  cases e'
  exact hd _ d'
theorem same_get {c : Addr} {h h' : Heap} (hs : Heap.SameBut c h h') {b : Addr} {o : Obj} (hb : b ≠ c) (e : h.get? b = some o) : h'.get? b = some o := (hs.2 b hb).trans e
theorem fr_store {hb h h' : Heap} {L c : Addr} {m : Str → Option Value} (F : Fr hb L h m) (hc : L < c) (hs : Heap.SameBut c h h') : Fr hb L h' m :=
  ⟨F.ns.sameBut hs (Nat.ne_of_lt hc), fun b o e => same_get hs (Nat.ne_of_lt (Nat.lt_trans (Nat.lt_of_lt_of_le (Heap.lt_size e) F.above) hc)) (F.keep b o e), F.above⟩
theorem cell_store {h h' : Heap} {c c' : Addr} {v : Option Value} (hc : h.IsCell c' v) (hs : Heap.SameBut c h h') (ne : c' ≠ c) : h'.IsCell c' v := cell_at hc fun o e => same_get hs ne e
theorem news_store {hb h h' : Heap} {L c : Addr} {nl : List (Addr × Obj)} {v : Option Value} (N : News hb L h nl) (hc : h.IsCell c v) (hs : Heap.SameBut c h h') (hd : ∀ p ∈ nl, ∀ x, p.2.data ≠ .cell x) : News hb L h' nl :=
  fun p hp => ⟨same_get hs (cell_ne_list hc (N p hp).1 (hd p hp)) (N p hp).1, (N p hp).2⟩
/-- a ledger that the walk's lines do not see -/
structure Held (hb : Heap) (L : Addr) (h : Heap) (nl : List (Addr × Obj)) : Prop where
  out : News hb L h nl
theorem news_keep {hb h h' : Heap} {L : Addr} {nl : List (Addr × Obj)} (N : News hb L h nl) (k : ∀ b o, b ≠ L → h.get? b = some o → h'.get? b = some o) : News hb L h' nl :=
  fun p hp => ⟨k _ _ (N p hp).2.1 (N p hp).1, (N p hp).2⟩
theorem Held.keep {hb h h' : Heap} {L : Addr} {nl : List (Addr × Obj)} (N : Held hb L h nl) (k : ∀ b o, b ≠ L → h.get? b = some o → h'.get? b = some o) : Held hb L h' nl := ⟨news_keep N.out k⟩
theorem Held.store {hb h h' : Heap} {L c : Addr} {nl : List (Addr × Obj)} {v : Option Value} (N : Held hb L h nl) (hc : h.IsCell c v) (hs : Heap.SameBut c h h') (hd : ∀ p ∈ nl, ∀ x, p.2.data ≠ .cell x) : Held hb L h' nl := ⟨news_store N.out hc hs hd⟩
theorem Held.store1 {hb h h' : Heap} {L c a : Addr} {xs : Array Value} {n : Nat} {v : Option Value} (N : Held hb L h [(a, W.listOf xs n)]) (hc : h.IsCell c v) (hs : Heap.SameBut c h h') : Held hb L h' [(a, W.listOf xs n)] := ⟨news_store N.out hc hs fun p hp => by rw [List.mem_singleton.mp hp]; nofun⟩
theorem Held.up {hb h h' : Heap} {L : Addr} {nl : List (Addr × Obj)} (N : Held hb L h nl) (k : Up h h') : Held hb L h' nl := ⟨news_up N.out k⟩
theorem Held.new {hb h h' : Heap} {L D : Addr} {o : Obj} {m : Str → Option Value} (F : Fr hb L h m) (e : h'.get? D = some o) (e0 : h.get? D = none) : Held hb L h' [(D, o)] := ⟨news_new F (fun p hp => by cases hp) e e0⟩
theorem Held.get {hb h : Heap} {L D : Addr} {o : Obj} (N : Held hb L h [(D, o)]) : h.get? D = some o := (N.out _ List.mem_cons_self).1
theorem Held.isList {hb h : Heap} {L D : Addr} {xs : Array Value} {n : Nat} (N : Held hb L h [(D, W.listOf xs n)]) : h.IsList D xs := ⟨_, N.get, rfl, _, rfl⟩
theorem LwS.store2 {hb h h' : Heap} {L : Addr} {m : Str → Option Value} {v1 v2 v3 v4 v5 v6 v7 v8 : Option Value} {v : Value} (S : LwS hb h L m v1 v2 v3 v4 v5 v6 v7 v8) (hs : Heap.SameBut (L + 2) h h') (hv : h'.IsCell (L + 2) (some v)) : LwS hb h' L m v1 (some v) v3 v4 v5 v6 v7 v8 := ⟨fr_store S.F (Nat.lt_add_of_pos_right (by decide)) hs, cell_store S.c1 hs (addNe L (by decide)), hv, cell_store S.c3 hs (addNe L (by decide)), cell_store S.c4 hs (addNe L (by decide)), cell_store S.c5 hs (addNe L (by decide)), cell_store S.c6 hs (addNe L (by decide)), cell_store S.c7 hs (addNe L (by decide)), cell_store S.c8 hs (addNe L (by decide))⟩
theorem LwS.store3 {hb h h' : Heap} {L : Addr} {m : Str → Option Value} {v1 v2 v3 v4 v5 v6 v7 v8 : Option Value} {v : Value} (S : LwS hb h L m v1 v2 v3 v4 v5 v6 v7 v8) (hs : Heap.SameBut (L + 3) h h') (hv : h'.IsCell (L + 3) (some v)) : LwS hb h' L m v1 v2 (some v) v4 v5 v6 v7 v8 := ⟨fr_store S.F (Nat.lt_add_of_pos_right (by decide)) hs, cell_store S.c1 hs (addNe L (by decide)), cell_store S.c2 hs (addNe L (by decide)), hv, cell_store S.c4 hs (addNe L (by decide)), cell_store S.c5 hs (addNe L (by decide)), cell_store S.c6 hs (addNe L (by decide)), cell_store S.c7 hs (addNe L (by decide)), cell_store S.c8 hs (addNe L (by decide))⟩
theorem LwS.store4 {hb h h' : Heap} {L : Addr} {m : Str → Option Value} {v1 v2 v3 v4 v5 v6 v7 v8 : Option Value} {v : Value} (S : LwS hb h L m v1 v2 v3 v4 v5 v6 v7 v8) (hs : Heap.SameBut (L + 4) h h') (hv : h'.IsCell (L + 4) (some v)) : LwS hb h' L m v1 v2 v3 (some v) v5 v6 v7 v8 := ⟨fr_store S.F (Nat.lt_add_of_pos_right (by decide)) hs, cell_store S.c1 hs (addNe L (by decide)), cell_store S.c2 hs (addNe L (by decide)), cell_store S.c3 hs (addNe L (by decide)), hv, cell_store S.c5 hs (addNe L (by decide)), cell_store S.c6 hs (addNe L (by decide)), cell_store S.c7 hs (addNe L (by decide)), cell_store S.c8 hs (addNe L (by decide))⟩
theorem LwS.store5 {hb h h' : Heap} {L : Addr} {m : Str → Option Value} {v1 v2 v3 v4 v5 v6 v7 v8 : Option Value} {v : Value} (S : LwS hb h L m v1 v2 v3 v4 v5 v6 v7 v8) (hs : Heap.SameBut (L + 5) h h') (hv : h'.IsCell (L + 5) (some v)) : LwS hb h' L m v1 v2 v3 v4 (some v) v6 v7 v8 := ⟨fr_store S.F (Nat.lt_add_of_pos_right (by decide)) hs, cell_store S.c1 hs (addNe L (by decide)), cell_store S.c2 hs (addNe L (by decide)), cell_store S.c3 hs (addNe L (by decide)), cell_store S.c4 hs (addNe L (by decide)), hv, cell_store S.c6 hs (addNe L (by decide)), cell_store S.c7 hs (addNe L (by decide)), cell_store S.c8 hs (addNe L (by decide))⟩
theorem LwS.store6 {hb h h' : Heap} {L : Addr} {m : Str → Option Value} {v1 v2 v3 v4 v5 v6 v7 v8 : Option Value} {v : Value} (S : LwS hb h L m v1 v2 v3 v4 v5 v6 v7 v8) (hs : Heap.SameBut (L + 6) h h') (hv : h'.IsCell (L + 6) (some v)) : LwS hb h' L m v1 v2 v3 v4 v5 (some v) v7 v8 := ⟨fr_store S.F (Nat.lt_add_of_pos_right (by decide)) hs, cell_store S.c1 hs (addNe L (by decide)), cell_store S.c2 hs (addNe L (by decide)), cell_store S.c3 hs (addNe L (by decide)), cell_store S.c4 hs (addNe L (by decide)), cell_store S.c5 hs (addNe L (by decide)), hv, cell_store S.c7 hs (addNe L (by decide)), cell_store S.c8 hs (addNe L (by decide))⟩
theorem LwS.store7 {hb h h' : Heap} {L : Addr} {m : Str → Option Value} {v1 v2 v3 v4 v5 v6 v7 v8 : Option Value} {v : Value} (S : LwS hb h L m v1 v2 v3 v4 v5 v6 v7 v8) (hs : Heap.SameBut (L + 7) h h') (hv : h'.IsCell (L + 7) (some v)) : LwS hb h' L m v1 v2 v3 v4 v5 v6 (some v) v8 := ⟨fr_store S.F (Nat.lt_add_of_pos_right (by decide)) hs, cell_store S.c1 hs (addNe L (by decide)), cell_store S.c2 hs (addNe L (by decide)), cell_store S.c3 hs (addNe L (by decide)), cell_store S.c4 hs (addNe L (by decide)), cell_store S.c5 hs (addNe L (by decide)), cell_store S.c6 hs (addNe L (by decide)), hv, cell_store S.c8 hs (addNe L (by decide))⟩
theorem LwS.store8 {hb h h' : Heap} {L : Addr} {m : Str → Option Value} {v1 v2 v3 v4 v5 v6 v7 v8 : Option Value} {v : Value} (S : LwS hb h L m v1 v2 v3 v4 v5 v6 v7 v8) (hs : Heap.SameBut (L + 8) h h') (hv : h'.IsCell (L + 8) (some v)) : LwS hb h' L m v1 v2 v3 v4 v5 v6 v7 (some v) := ⟨fr_store S.F (Nat.lt_add_of_pos_right (by decide)) hs, cell_store S.c1 hs (addNe L (by decide)), cell_store S.c2 hs (addNe L (by decide)), cell_store S.c3 hs (addNe L (by decide)), cell_store S.c4 hs (addNe L (by decide)), cell_store S.c5 hs (addNe L (by decide)), cell_store S.c6 hs (addNe L (by decide)), cell_store S.c7 hs (addNe L (by decide)), hv⟩
theorem LwS.keep {hb h h' : Heap} {L : Addr} {m m' : Str → Option Value} {v1 v2 v3 v4 v5 v6 v7 v8 : Option Value} (S : LwS hb h L m v1 v2 v3 v4 v5 v6 v7 v8) (F : Fr hb L h' m') (k : ∀ b o, b ≠ L → h.get? b = some o → h'.get? b = some o) : LwS hb h' L m' v1 v2 v3 v4 v5 v6 v7 v8 := ⟨F, cell_at S.c1 fun o e => k _ o (addNeL L (by decide)) e, cell_at S.c2 fun o e => k _ o (addNeL L (by decide)) e, cell_at S.c3 fun o e => k _ o (addNeL L (by decide)) e, cell_at S.c4 fun o e => k _ o (addNeL L (by decide)) e, cell_at S.c5 fun o e => k _ o (addNeL L (by decide)) e, cell_at S.c6 fun o e => k _ o (addNeL L (by decide)) e, cell_at S.c7 fun o e => k _ o (addNeL L (by decide)) e, cell_at S.c8 fun o e => k _ o (addNeL L (by decide)) e⟩
/-- a ledger to walk with -/
theorem LwS.ledger {hb h : Heap} {L : Addr} {m : Str → Option Value} {v1 v2 v3 v4 v5 v6 v7 v8 : Option Value} (S : LwS hb h L m v1 v2 v3 v4 v5 v6 v7 v8) : ∃ sn o1 o2 o3 o4 o5 o6 o7 o8, News hb L h ((L + 8, o8) :: (L + 7, o7) :: (L + 6, o6) :: (L + 5, o5) :: (L + 4, o4) :: (L + 3, o3) :: (L + 2, o2) :: (L + 1, o1) :: sn) ∧ KeepS hb h L sn ∧ Obj.data o1 = .cell v1 ∧ Obj.data o2 = .cell v2 ∧ Obj.data o3 = .cell v3 ∧ Obj.data o4 = .cell v4 ∧ Obj.data o5 = .cell v5 ∧ Obj.data o6 = .cell v6 ∧ Obj.data o7 = .cell v7 ∧ Obj.data o8 = .cell v8 := by
  obtain ⟨sn, N, mem, kk⟩ := snapshot S.F
  obtain ⟨F, c1, c2, c3, c4, c5, c6, c7, c8⟩ := S
  obtain ⟨o1, e1, d1⟩ := c1
  obtain ⟨o2, e2, d2⟩ := c2
  obtain ⟨o3, e3, d3⟩ := c3
  obtain ⟨o4, e4, d4⟩ := c4
  obtain ⟨o5, e5, d5⟩ := c5
  obtain ⟨o6, e6, d6⟩ := c6
  obtain ⟨o7, e7, d7⟩ := c7
  obtain ⟨o8, e8, d8⟩ := c8
  refine ⟨sn, o1, o2, o3, o4, o5, o6, o7, o8, ?_, fun h' m' nl F' N' sub b o hb e => kk h' F'.keep (fun p hp => N' p (sub p hp)) b o hb e, d1, d2, d3, d4, d5, d6, d7, d8⟩
  have nn : ∀ k, hb.get? (L + k) = none := fun k => Heap.get?_none_of_le (Nat.le_trans F.above (Nat.le_add_right _ _))
  intro p hp
  simp only [List.mem_cons] at hp
  rcases hp with rfl | rfl | rfl | rfl | rfl | rfl | rfl | rfl | hp
  · exact ⟨e8, addNeL L (by decide), nn _⟩
  · exact ⟨e7, addNeL L (by decide), nn _⟩
  · exact ⟨e6, addNeL L (by decide), nn _⟩
  · exact ⟨e5, addNeL L (by decide), nn _⟩
  · exact ⟨e4, addNeL L (by decide), nn _⟩
  · exact ⟨e3, addNeL L (by decide), nn _⟩
  · exact ⟨e2, addNeL L (by decide), nn _⟩
  · exact ⟨e1, addNeL L (by decide), nn _⟩
  · exact N p hp
/-- six rows of three ints -/
def Rows6 (hb : Heap) (L : Addr) (h : Heap) (ra : Nat → Addr) (cz : Nat → Int × Int × Int) : Prop := ∀ i, i < 6 → ∃ t u v, Held hb L h [(ra i, LCg.lst (ints3 (cz i) t u v))]
theorem Rows6.keep {hb h h' : Heap} {L : Addr} {ra : Nat → Addr} {cz : Nat → Int × Int × Int} (R : Rows6 hb L h ra cz) (k : ∀ b o, b ≠ L → h.get? b = some o → h'.get? b = some o) : Rows6 hb L h' ra cz := fun i hi => let ⟨t, u, v, N⟩ := R i hi; ⟨t, u, v, N.keep k⟩
theorem Rows6.store {hb h h' : Heap} {L c : Addr} {x : Option Value} {ra : Nat → Addr} {cz : Nat → Int × Int × Int} (R : Rows6 hb L h ra cz) (hc : h.IsCell c x) (hs : Heap.SameBut c h h') : Rows6 hb L h' ra cz := fun i hi => let ⟨t, u, v, N⟩ := R i hi; ⟨t, u, v, N.store1 hc hs⟩
theorem Rows6.isList {hb h : Heap} {L : Addr} {ra : Nat → Addr} {cz : Nat → Int × Int × Int} (R : Rows6 hb L h ra cz) {i : Nat} (hi : i < 6) : ∃ t u v, h.IsList (ra i) (ints3 (cz i) t u v).toArray := let ⟨t, u, v, N⟩ := R i hi; ⟨t, u, v, N.isList⟩
noncomputable def refs6 (ra : Nat → Addr) : List Value := [.ref (ra 0), .ref (ra 1), .ref (ra 2), .ref (ra 3), .ref (ra 4), .ref (ra 5)]
theorem refs6_at (ra : Nat → Addr) {i : Nat} (h : i < 6) : (refs6 ra)[i]? = some (.ref (ra i)) := six_at (fun j => Value.ref (ra j)) h
theorem rows6 {hb h₁ h : Heap} {L : Addr} {m : Str → Option Value} {cz : Nat → Int × Int × Int} {yr : List Value} (F : Fr hb L h₁ m) (hl : yr.length = 6)
    (hR : ∀ i y, yr[i]? = some y → ∃ own, (∃ D2 t u v, y = Value.ref D2 ∧ own = [(D2, LCg.lst (ints3 (cz i) t u v))]) ∧ Fresh h₁ h own) : ∃ ra, yr = refs6 ra ∧ Rows6 hb L h ra cz := by
  obtain ⟨ra, hra⟩ := Classical.skolem.mp (fun i => show ∃ D2 : Addr, i < 6 → ∃ t u v, yr[i]? = some (Value.ref D2) ∧ Fresh h₁ h [(D2, LCg.lst (ints3 (cz i) t u v))] from by
    by_cases hi : i < 6
    · have hi' : i < yr.length := hl ▸ hi
      obtain ⟨_, ⟨D2, t, u, v, e, rfl⟩, f⟩ := hR i yr[i] (List.getElem?_eq_getElem hi')
      exact ⟨D2, fun _ => ⟨t, u, v, (List.getElem?_eq_getElem hi').trans (congrArg some e), f⟩⟩
    · exact ⟨0, fun h => absurd h hi⟩)
  refine ⟨ra, List.ext_getElem? fun i => ?_, fun i hi => ?_⟩
  · by_cases hi : i < 6
    · obtain ⟨_, _, _, e, _⟩ := hra i hi
      rw [refs6_at ra hi, e]
    · rw [List.getElem?_eq_none (hl ▸ Nat.not_lt.mp hi), List.getElem?_eq_none (show 6 ≤ i from Nat.not_lt.mp hi)]
  · obtain ⟨t, u, v, _, f⟩ := hra i hi
    exact ⟨t, u, v, Held.new F (f _ List.mem_cons_self).1 (f _ List.mem_cons_self).2⟩
theorem nl_nil {hb h : Heap} {L : Addr} : News hb L h [] := fun p hp => by cases hp
end Mine
end

section
open PySem PySem.W PyProof.Rows PySem.Calls PyProof.Rows.LCg
namespace Mine
/-- an iterator: no cell, no list -/
def IterAt (h : Heap) (I : Addr) : Prop := ∃ o, h.get? I = some o ∧ (∀ x, o.data ≠ .cell x) ∧ ∀ a n, o.data ≠ .seq a n
theorem LwS.iter {hb h h' : Heap} {L I : Addr} {m : Str → Option Value} {v1 v2 v3 v4 v5 v6 v7 v8 : Option Value} (S : LwS hb h L m v1 v2 v3 v4 v5 v6 v7 v8) (hI : IterAt h I) (hIL : I ≠ L) (hI0 : hb.get? I = none) (k : ∀ b o, b ≠ I → h.get? b = some o → h'.get? b = some o) : LwS hb h' L m v1 v2 v3 v4 v5 v6 v7 v8 := by
  obtain ⟨o, e, d, -⟩ := hI
  have ne : ∀ {c v}, h.IsCell c v → c ≠ I := fun hc q => cell_ne_list hc e d q.symm
  obtain ⟨F, c1, c2, c3, c4, c5, c6, c7, c8⟩ := S
  refine ⟨⟨F.ns.at' fun o e => k _ _ (Ne.symm hIL) e, fun b o' e' => k _ _ (fun q => by rw [q, hI0] at e'; cases e') (F.keep b o' e'), F.above⟩, ?_, ?_, ?_, ?_, ?_, ?_, ?_, ?_⟩
  all_goals (refine cell_at (by assumption) fun o e => k _ _ (ne (by assumption)) e)
theorem news_iter {hb h h' : Heap} {L I : Addr} {nl : List (Addr × Obj)} (N : News hb L h nl) (hI : IterAt h I) (k : ∀ b o, b ≠ I → h.get? b = some o → h'.get? b = some o) (hd : ∀ p ∈ nl, ∃ a n, p.2.data = .seq a n) : News hb L h' nl := fun p hp => ⟨k _ _ (fun q => by
  obtain ⟨o, e, -, d⟩ := hI
  obtain ⟨a, n, x⟩ := hd p hp
  have := (N p hp).1
  rw [q, e] at this
  cases this
  exact d _ _ x) (N p hp).1, (N p hp).2⟩
theorem Held.iter1 {hb h h' : Heap} {L I a : Addr} {xs : Array Value} {n : Nat} (N : Held hb L h [(a, W.listOf xs n)]) (hI : IterAt h I) (k : ∀ b o, b ≠ I → h.get? b = some o → h'.get? b = some o) : Held hb L h' [(a, W.listOf xs n)] := ⟨news_iter N.out hI k fun p hp => by rw [List.mem_singleton.mp hp]; exact ⟨_, _, rfl⟩⟩
theorem Rows6.iter {hb h h' : Heap} {L I : Addr} {ra : Nat → Addr} {cz : Nat → Int × Int × Int} (R : Rows6 hb L h ra cz) (hI : IterAt h I) (k : ∀ b o, b ≠ I → h.get? b = some o → h'.get? b = some o) : Rows6 hb L h' ra cz :=
  fun i hi => let ⟨t, u, v, N⟩ := R i hi; ⟨t, u, v, N.iter1 hI k⟩
/-- a list that stands -/
structure LstAt (hb : Heap) (L : Addr) (h : Heap) (a : Addr) (xs : Array Value) : Prop where
  isList : h.IsList a xs
  ne : a ≠ L
  nn : hb.get? a = none
theorem LstAt.keep {hb h h' : Heap} {L a : Addr} {xs : Array Value} (N : LstAt hb L h a xs) (k : ∀ b o, b ≠ L → h.get? b = some o → h'.get? b = some o) : LstAt hb L h' a xs := ⟨N.isList.at fun o e => k _ _ N.ne e, N.ne, N.nn⟩
theorem LstAt.up {hb h h' : Heap} {L a : Addr} {xs : Array Value} (N : LstAt hb L h a xs) (k : Up h h') : LstAt hb L h' a xs := N.keep fun b o _ e => k b o e
theorem LstAt.store {hb h h' : Heap} {L a c : Addr} {v : Option Value} {xs : Array Value} (N : LstAt hb L h a xs) (hc : h.IsCell c v) (hs : Heap.SameBut c h h') : LstAt hb L h' a xs := ⟨N.isList.at fun o e => same_get hs (by
  obtain ⟨o', e', _, n, d⟩ := N.isList
  exact cell_ne_list hc e' fun x => by rw [d]; nofun) e, N.ne, N.nn⟩
theorem LstAt.iter {hb h h' : Heap} {L a I : Addr} {xs : Array Value} (N : LstAt hb L h a xs) (hI : IterAt h I) (k : ∀ b o, b ≠ I → h.get? b = some o → h'.get? b = some o) : LstAt hb L h' a xs := ⟨N.isList.at fun o e => k _ _ (fun q => by
  obtain ⟨o', e', _, n, d⟩ := N.isList
  obtain ⟨oI, eI, _, dI⟩ := hI
  rw [q, eI] at e'
  cases e'
  exact dI _ _ d) e, N.ne, N.nn⟩
theorem LstAt.ofHeld {hb h : Heap} {L a : Addr} {xs : Array Value} {n : Nat} (N : Held hb L h [(a, W.listOf xs n)]) : LstAt hb L h a xs := ⟨N.isList, (N.out _ List.mem_cons_self).2.1, (N.out _ List.mem_cons_self).2.2⟩
theorem LstAt.new {hb h h' : Heap} {L a : Addr} {m : Str → Option Value} {xs : Array Value} (F : Fr hb L h m) (hl : h'.IsList a xs) (e0 : h.get? a = none) : LstAt hb L h' a xs := by
  obtain ⟨o, e, _⟩ := id hl
  have q := ((Held.new F e e0).out _ List.mem_cons_self).2
  exact ⟨hl, q.1, q.2⟩
section
variable {prog : Program} {w : World} {A : Around} {E : Value → Shared → Prop} {s : Shared} {env : Env} {target : Expr} {body : List Stmt} {Q : Flow → Shared → Prop}
def ForPost (fp : List Addr) (h : Heap) (J' : Heap → Prop) (Q : Flow → Shared → Prop) (s₂ : Shared) (f : Flow) (s' : Shared) : Prop :=
  match f with
  | .ret v => Q (.ret v) s'
  | .brk => Q .next s'
  | _ => ∃ h' tk', s' = { s₂ with heap := h', toks := tk' } ∧ (∀ b ∈ fp, ∀ o, h.get? b = some o → h'.get? b = some o) ∧ J' h'
def ForSrc (prog : Program) (w : World) (A : Around) (env : Env) (target : Expr) (body : List Stmt) (Q : Flow → Shared → Prop) (E : Value → Shared → Prop) (it : Value) (s₂ : Shared) : Prop :=
  ∃ (I : Addr) (fp wr : List Addr) (n : Nat) (P Md : Nat → Value → Heap → Prop) (St : Nat → Heap → Prop) (J : Nat → Heap → Prop),
    it = .ref I ∧ KTurns prog w A target I fp wr n P Md St ∧ St 0 s₂.heap ∧ J 0 s₂.heap ∧
    (∀ i h h', St i h → J i h → (∀ b o, b ∉ wr → h.get? b = some o → h'.get? b = some o) → J i h') ∧
    (∀ i v h tk, i < n → P i v h → St (i + 1) h → J i h →
      wpAny (model prog w) A (assign target env v) (fun _ s₃ => wpAny (model prog w) A (execs body env) (ForPost fp h (J (i + 1)) Q s₂) E s₃) E { s₂ with heap := h, toks := tk }) ∧
    ∀ h tk, J n h → Q .next { s₂ with heap := h, toks := tk }
theorem for_J {iter : Expr} {pos : Pos}
    (h : wpAny (model prog w) A (eval iter env) (fun xv s₁ => wpAny (model prog w) A (pyIter xv) (ForSrc prog w A env target body Q E) E s₁) E s)
    (hs : ∀ x, foldedSetIterable iter env x = pure x)
    (hE : PassesOwn (model prog w) A env E) :
    wpAny (model prog w) A (exec (.For target iter body [] pos) env) Q E s := by
  refine wpAny_For (wpAny_mono h (fun xv s₁ h₁ => wpAny_mono h₁ (fun it s₂ h₂ => ?_) fun _ _ e => e) fun _ _ e => e) hs
  obtain ⟨I, fp, wr, n, P, Md, St, J, rfl, W, hst, hj, hfr, turn, done⟩ := h₂
  refine codeAny_forLoop_any (R := fun r s' => match r with | .ok f => Q f s' | .error e => cameBackBy (model prog w) A env E e s')
    (fun k s' => ∃ h' tk i, s' = { s₂ with heap := h', toks := tk } ∧ St i h' ∧ J i h' ∧ i ≤ n ∧ k = n + 1 - i) ?_ (n + 1)
    ⟨s₂.heap, s₂.toks, 0, rfl, hst, hj, Nat.zero_le _, rfl⟩
  rintro k s' ⟨h', tk, i, rfl, hst', hJ, hi, rfl⟩
  by_cases hlt : i < n
  · refine W.item i _ _ _ hlt hst' fun v h₁ tk₁ hMd hk₁ => ?_
    refine W.go i v _ _ _ hMd fun h₂ hP hst₂ hk₂ => ?_
    have hJ₂ := hfr i h' h₂ hst' hJ fun b o hb x => hk₂ b o hb (hk₁ b o hb x)
    refine wpAny_mono (wpAny_mono (turn i v h₂ tk₁ hlt hP hst₂ hJ₂) (fun _ _ x => wpAny_passesOwn hE x) hE) (fun _ s₃ h₂' => wpAny_mono h₂' (fun f s₄ h₃ => ?_) fun _ _ e => e) fun _ _ e => e
    cases f with
    | ret v => exact h₃
    | brk => exact h₃
    | cont =>
      obtain ⟨h₃', tk₃, rfl, kp, hJ₃⟩ := h₃
      exact ⟨n + 1 - (i + 1), Nat.sub_lt_sub_left (Nat.lt_succ_of_lt hlt) (Nat.lt_succ_self i), h₃', tk₃, i + 1, rfl, W.frame _ _ _ hst₂ kp, hJ₃, hlt, rfl⟩
    | next =>
      obtain ⟨h₃', tk₃, rfl, kp, hJ₃⟩ := h₃
      exact ⟨n + 1 - (i + 1), Nat.sub_lt_sub_left (Nat.lt_succ_of_lt hlt) (Nat.lt_succ_self i), h₃', tk₃, i + 1, rfl, W.frame _ _ _ hst₂ kp, hJ₃, hlt, rfl⟩
  · have hin : i = n := Nat.le_antisymm hi (Nat.not_lt.mp hlt)
    subst hin
    exact W.done _ _ _ hst' fun h₁ tk₁ hk₁ => wpAny_execs_nil (done h₁ tk₁ (hfr _ h' h₁ hst' hJ hk₁))
theorem fresh_at {hb : Heap} {L : Addr} {m₀ : Str → Option Value} (F : Fr hb L s.heap m₀) : s.heap.objs.size ≠ L ∧ hb.get? s.heap.objs.size = none := by
  have z : s.heap.get? s.heap.objs.size = none := Heap.get?_none_of_le (Nat.le_refl _)
  refine ⟨fun q => ?_, ?_⟩
  · obtain ⟨o, _, _, e, _⟩ := F.ns
    rw [← q, z] at e; cases e
  · cases e : hb.get? s.heap.objs.size with
    | none => rfl
    | some o => have := F.keep _ _ e; rw [z] at this; cases this
/-- for x in LIST -/
theorem for_list {hb : Heap} {L : Addr} {l : Addr} {ol : Obj} {its : Array Value} {m₀ : Str → Option Value} {x : Str} {px : Pos} (J : Nat → Heap → Prop)
    (hh : A.handled = none) (F : Fr hb L s.heap m₀) (Nl : Held hb L s.heap [(l, ol)]) (hc : ol.cls = .type "list") {cap : Nat} (hd : ol.data = .seq its cap) (hj : ∀ h', Up s.heap h' → J 0 h')
    (hfr : ∀ i h h' I, hb.get? I = none → I ≠ L → IterAt h I → J i h → (∀ b o, b ≠ I → h.get? b = some o → h'.get? b = some o) → J i h')
    (turn : ∀ i v h tk xs (Q' : Flow → Shared → Prop), its[i]? = some v → J i h → Held hb L h xs → (∀ p ∈ xs, ∀ x, p.2.data ≠ .cell x) → (∀ h' tk', Held hb L h' xs → J (i + 1) h' → Q' .next { s with heap := h', toks := tk' }) →
      wpAny (model prog w) A (assign (.Name x px) env v) (fun _ s₃ => wpAny (model prog w) A (execs body env) Q' E s₃) E { s with heap := h, toks := tk })
    (done : ∀ h tk, J its.size h → Q .next { s with heap := h, toks := tk }) :
    wpAny (model prog w) A (pyIter (.ref l)) (ForSrc prog w A env (.Name x px) body Q E) E s := by
  have hlg := Nl.get
  have hl : s.heap.IsList l its := ⟨_, hlg, hc, _, hd⟩
  have hlt : l < s.heap.objs.size := Heap.lt_size hlg
  obtain ⟨fL, f0⟩ := fresh_at (s := s) F
  have W := Walks.list (prog := prog) (w := w) hh s.heap.objs.size l (Nat.ne_of_lt hlt) its
  refine wpAny_pyIter_list hl ?_
  refine ⟨s.heap.objs.size, _, _, its.size, _, _, _, fun i h => J i h ∧ h.get? l = some ol, rfl, KTurns.ofWalks (target := .Name x px) W (fun i v s Q E _ hQ => wpAny_of_eq rfl hQ), ⟨⟨_, Heap.get?_push_size _ rfl, rfl, rfl⟩, hl.push _⟩, ?_, ?_, ?_, ?_⟩
  · exact ⟨hj _ fun b o e => Heap.get?_push_of_some _ e, Heap.get?_push_of_some _ hlg⟩
  · rintro i h h' ⟨⟨oI, eI, cI, dI⟩, _⟩ ⟨hJ, el⟩ k
    have k' : ∀ b o, b ≠ s.heap.objs.size → h.get? b = some o → h'.get? b = some o := fun b o hb e => k b o (fun q => hb (List.mem_singleton.mp q)) e
    exact ⟨hfr i h h' _ f0 fL ⟨oI, eI, fun x => by rw [dI]; nofun, fun a n => by rw [dI]; nofun⟩ hJ k', k' _ _ (Nat.ne_of_lt hlt) el⟩
  · rintro i v h tk hi hP ⟨⟨oI, eI, cI, dI⟩, _⟩ ⟨hJ, el⟩
    refine turn i v h tk [(s.heap.objs.size, oI), (l, ol)] _ hP hJ ⟨?_⟩ ?_ ?_
    · intro p hp
      rcases List.mem_cons.mp hp with rfl | hp
      · exact ⟨eI, fL, f0⟩
      · rw [List.mem_singleton.mp hp]
        exact ⟨el, (Nl.out _ List.mem_cons_self).2⟩
    · intro p hp
      rcases List.mem_cons.mp hp with rfl | hp
      · intro x; rw [dI]; nofun
      · rw [List.mem_singleton.mp hp]; intro x; rw [hd]; nofun
    · intro h' tk' X hJ'
      refine ⟨h', tk', rfl, ?_, hJ', (X.out _ (List.mem_cons_of_mem _ List.mem_cons_self)).1⟩
      intro b hb o e
      rcases List.mem_cons.mp hb with rfl | hb
      · have := eI.symm.trans e; cases this; exact (X.out _ List.mem_cons_self).1
      · rw [List.mem_singleton.mp hb] at e ⊢
        have := el.symm.trans e; cases this; exact (X.out _ (List.mem_cons_of_mem _ List.mem_cons_self)).1
  · rintro h tk ⟨hJ, _⟩
    exact done h tk hJ
/-- for x in RANGE -/
theorem for_range {hb : Heap} {L : Addr} {r : Addr} {n : Nat} {a₀ b₀ : Int} {t₀ u₀ w₀ : Tok} {m₀ : Str → Option Value} {x : Str} {px : Pos} (J : Nat → Heap → Prop)
    (hh : A.handled = none) (F : Fr hb L s.heap m₀) (hr : IsRange s.heap r a₀ b₀ 1 t₀ u₀ w₀) (hsmall : Builtin.Range.small a₀ b₀ 1 = true) (hn : Builtin.Range.rangeSize a₀ b₀ 1 = (n : Int)) (hj : ∀ h', Up s.heap h' → J 0 h')
    (hfr : ∀ i h h' I, hb.get? I = none → I ≠ L → IterAt h I → J i h → (∀ b o, b ≠ I → h.get? b = some o → h'.get? b = some o) → J i h')
    (turn : ∀ i t h tk xs (Q' : Flow → Shared → Prop), i < n → J i h → Held hb L h xs → (∀ p ∈ xs, ∀ x, p.2.data ≠ .cell x) → (∀ h' tk', Held hb L h' xs → J (i + 1) h' → Q' .next { s with heap := h', toks := tk' }) →
      wpAny (model prog w) A (assign (.Name x px) env (.int (a₀ + (i : Int)) t)) (fun _ s₃ => wpAny (model prog w) A (execs body env) Q' E s₃) E { s with heap := h, toks := tk })
    (done : ∀ h tk, J n h → Q .next { s with heap := h, toks := tk }) :
    wpAny (model prog w) A (pyIter (.ref r)) (ForSrc prog w A env (.Name x px) body Q E) E s := by
  obtain ⟨fL, f0⟩ := fresh_at (s := s) F
  refine wpAny_pyIter_range hr hsmall ?_
  have W := Walks.range (prog := prog) (w := w) hh s.heap.objs.size a₀ 1 n
  refine ⟨s.heap.objs.size, _, _, n, _, _, _, J, rfl, KTurns.ofWalks (target := .Name x px) W (fun i v s Q E _ hQ => wpAny_of_eq rfl hQ), (by show IsRangeIter _ _ _ _ _; rw [hn]; simpa using Heap.get?_push_size _ rfl), ?_, ?_, ?_, ?_⟩
  · exact hj _ fun b o e => Heap.get?_push_of_some _ e
  · rintro i h h' eI hJ k
    have k' : ∀ b o, b ≠ s.heap.objs.size → h.get? b = some o → h'.get? b = some o := fun b o hb e => k b o (fun q => hb (List.mem_singleton.mp q)) e
    exact hfr i h h' _ f0 fL ⟨_, eI, fun x => nofun, fun a n => nofun⟩ hJ k'
  · rintro i v h tk hi ⟨t, rfl⟩ eI hJ
    have e1 : a₀ + (i : Int) * 1 = a₀ + (i : Int) := by omega
    rw [e1]
    obtain ⟨oI, eJ, dJ⟩ : ∃ o, h.get? s.heap.objs.size = some o ∧ ∀ x, o.data ≠ .cell x := ⟨_, eI, fun x => nofun⟩
    refine turn i t h tk [(s.heap.objs.size, oI)] _ hi hJ ⟨?_⟩ ?_ ?_
    · intro p hp
      rw [List.mem_singleton.mp hp]
      exact ⟨eJ, fL, f0⟩
    · intro p hp
      rw [List.mem_singleton.mp hp]; exact dJ
    · intro h' tk' X hJ'
      refine ⟨h', tk', rfl, ?_, hJ'⟩
      intro b hb o e
      rw [List.mem_singleton.mp hb] at e ⊢
      have := eJ.symm.trans e; cases this; exact (X.out _ List.mem_cons_self).1
  · rintro h tk hJ
    exact done h tk hJ
end
end Mine
end

section
open PySem
namespace Mine
/-- a colour but for its grey -/
noncomputable def dif (p : Int × Int × Int) : Int × Int := (p.1 - p.2.2, p.2.1 - p.2.2)
noncomputable def rotV : Nat → Int × Int → Int × Int
  | 0, v => v
  | n + 1, v => ((rotV n v).1 - (rotV n v).2, (rotV n v).1)
theorem dif_ledM (M : Int) (p : Int × Int × Int) : ∀ k, dif (ledM M k p) = rotV k (dif p)
  | 0 => rfl
  | k + 1 => by
    have ih := dif_ledM M p k
    simp only [dif, ledM, rotV, Prod.mk.injEq] at ih ⊢
    rw [← ih]; constructor <;> (simp only; (first | lia | omega))
theorem dif_ledI (k : Nat) (p : Int × Int × Int) : dif (ledI k p) = rotV k (dif p) := dif_ledM _ p k
theorem dif_rotP (p : Int × Int × Int) : ∀ k, dif (rotP k p) = rotV k (dif p)
  | 0 => rfl
  | k + 1 => by
    have ih := dif_rotP p k
    simp only [dif, rotP, rotV, Prod.mk.injEq] at ih ⊢
    rw [← ih]; constructor <;> (simp only; (first | lia | omega))
theorem dif_add3 (p q : Int × Int × Int) : dif (add3 p q) = ((dif p).1 + (dif q).1, (dif p).2 + (dif q).2) := by
  simp only [dif, add3, Prod.mk.injEq]; (first | lia | omega)
theorem rotV_add (a : Nat) (v : Int × Int) : ∀ b, rotV (a + b) v = rotV b (rotV a v)
  | 0 => rfl
  | b + 1 => by show rotV ((a + b) + 1) v = _; simp only [rotV]; rw [rotV_add a v b]
theorem rotV_comm (a b : Nat) (v : Int × Int) : rotV a (rotV b v) = rotV b (rotV a v) := by rw [← rotV_add, ← rotV_add, Nat.add_comm]
theorem rotV_sub (v u : Int × Int) : ∀ k, rotV k (v.1 - u.1, v.2 - u.2) = ((rotV k v).1 - (rotV k u).1, (rotV k v).2 - (rotV k u).2)
  | 0 => rfl
  | k + 1 => by
    have ih := rotV_sub v u k
    simp only [rotV]
    rw [ih]
    refine Prod.ext ?_ ?_ <;> (dsimp only; try (first | lia | omega))
theorem rotV_3 (v : Int × Int) : rotV 3 v = (-v.1, -v.2) := by
  obtain ⟨a, b⟩ := v
  simp only [rotV, Prod.mk.injEq]
  (first | lia | omega)
theorem rotV_6 (v : Int × Int) : rotV 6 v = v := by
  have : rotV 6 v = rotV 3 (rotV 3 v) := rotV_add 3 v 3
  rw [this, rotV_3, rotV_3]; refine Prod.ext ?_ ?_ <;> (dsimp only; (first | lia | omega))
/-- the led of a turn is the turn taken away -/
theorem rotV_turn {t : Nat} (h : t < 6) (v : Int × Int) : rotV ((t + 3) % 6) v = (-(rotV t v).1, -(rotV t v).2) := by
  have h3 : rotV (t + 3) v = (-(rotV t v).1, -(rotV t v).2) := by rw [rotV_add, rotV_3]
  by_cases q : t < 3
  · rw [Nat.mod_eq_of_lt (by (first | lia | omega))]; exact h3
  · rw [← h3]
    have e : t + 3 = (t + 3) % 6 + 6 := by (first | lia | omega)
    rw [show rotV (t + 3) v = rotV ((t + 3) % 6 + 6) v by rw [← e], rotV_add, rotV_6]
/-- one turn, but for the greys -/
noncomputable def fT (N : Nat → Int × Int) (t : Nat) : Nat → Int × Int := fun i => ((N (i + 1)).1 - (rotV t (N i)).1, (N (i + 1)).2 - (rotV t (N i)).2)
theorem fT_comm (N : Nat → Int × Int) (t u : Nat) : fT (fT N t) u = fT (fT N u) t := by
  funext i
  simp only [fT, rotV_sub, Prod.mk.injEq]
  rw [rotV_comm t u]
  (first | lia | omega)
theorem fT_perm {l₁ l₂ : List Nat} (h : l₁.Perm l₂) (N : Nat → Int × Int) : l₁.foldl fT N = l₂.foldl fT N :=
  h.foldl_eq' (fun x _ y _ z => fT_comm z x y) N
theorem rotV_p3 (t : Nat) (v : Int × Int) : rotV (t + 3) v = (-(rotV t v).1, -(rotV t v).2) := by rw [rotV_add, rotV_3]
theorem rotV_6q (v : Int × Int) : ∀ q, rotV (6 * q) v = v
  | 0 => rfl
  | q + 1 => by rw [Nat.mul_succ, rotV_add, rotV_6q v q, rotV_6]
theorem rotV_mod (a : Nat) (v : Int × Int) : rotV (a % 6) v = rotV a v := by
  have e := rotV_add (6 * (a / 6)) v (a % 6)
  rw [rotV_6q, Nat.div_add_mod] at e
  exact e.symm
theorem fT_mod (N : Nat → Int × Int) (t : Nat) : fT N (t % 6) = fT N t := by
  funext i; simp only [fT, rotV_mod]
theorem rot24 (w : Int × Int) : (rotV 2 w).1 + (rotV 4 w).1 = -w.1 ∧ (rotV 2 w).2 + (rotV 4 w).2 = -w.2 := by
  simp only [rotV]; constructor <;> lia
/-- two turns, half the wheel apart -/
noncomputable def gT (N : Nat → Int × Int) (u : Nat) : Nat → Int × Int := fun i => ((N (i + 2)).1 - (rotV u (N i)).1, (N (i + 2)).2 - (rotV u (N i)).2)
theorem fT_two (N : Nat → Int × Int) (t : Nat) : fT (fT N t) (t + 3) = gT N (t + t) := by
  funext i
  simp only [fT, gT, rotV_p3, rotV_sub, rotV_add t _ t]
  refine Prod.ext ?_ ?_ <;> (dsimp only; lia)
theorem gT_two (N : Nat → Int × Int) (u i : Nat) : gT (gT N (u + 2)) (u + 4) i = ((N (i + 4)).1 + (rotV u (N (i + 2))).1 + (rotV (u + u) (N i)).1, (N (i + 4)).2 + (rotV u (N (i + 2))).2 + (rotV (u + u) (N i)).2) := by
  have e : rotV (u + 4) (rotV (u + 2) (N i)) = rotV (u + u) (N i) := by rw [← rotV_add, show u + 2 + (u + 4) = u + u + 6 by omega, rotV_add, rotV_6]
  obtain ⟨r1, r2⟩ := rot24 (rotV u (N (i + 2)))
  rw [← rotV_add, ← rotV_add] at r1 r2
  simp only [gT, rotV_sub, e]
  refine Prod.ext ?_ ?_ <;> (dsimp only; lia)
theorem fold_five (N : Nat → Int × Int) (l i : Nat) : [l + 1, l + 4, l + 2, l + 5, l + 3].foldl fT N i =
    ((N (i + 5)).1 + (rotV (2 * l) (N (i + 3))).1 + (rotV (4 * l) (N (i + 1))).1 + ((rotV l (N (i + 4))).1 + (rotV (3 * l) (N (i + 2))).1 + (rotV (5 * l) (N i)).1),
     (N (i + 5)).2 + (rotV (2 * l) (N (i + 3))).2 + (rotV (4 * l) (N (i + 1))).2 + ((rotV l (N (i + 4))).2 + (rotV (3 * l) (N (i + 2))).2 + (rotV (5 * l) (N i)).2)) := by
  have lin : ∀ (k : Nat) (a b c : Int × Int), rotV k (a.1 + b.1 + c.1, a.2 + b.2 + c.2) = ((rotV k a).1 + (rotV k b).1 + (rotV k c).1, (rotV k a).2 + (rotV k b).2 + (rotV k c).2) := by
    intro k a b c
    induction k with
    | zero => rfl
    | succ k ih => simp only [rotV, ih]; refine Prod.ext ?_ ?_ <;> (dsimp only; try lia)
  rw [List.foldl_cons, List.foldl_cons, fT_two N (l + 1), List.foldl_cons, List.foldl_cons, fT_two _ (l + 2), List.foldl_cons, List.foldl_nil,
    show l + 1 + (l + 1) = l + l + 2 by omega, show l + 2 + (l + 2) = l + l + 4 by omega]
  simp only [fT, rotV_p3, gT_two, lin]
  rw [← rotV_add, ← rotV_add, show l + l + l = 3 * l by omega, show l + l + (l + l) + l = 5 * l by omega, show l + l + (l + l) = 4 * l by omega, show l + l = 2 * l by omega]
  refine Prod.ext ?_ ?_ <;> (dsimp only; lia)
theorem five_perm : ∀ l : Nat, l < 6 → ([(l + 1) % 6, (l + 4) % 6, (l + 2) % 6, (l + 5) % 6, (l + 3) % 6] : List Nat).Perm ([0, 1, 2, 3, 4, 5].erase l)
  | 0, _ => by decide | 1, _ => by decide | 2, _ => by decide | 3, _ => by decide | 4, _ => by decide | 5, _ => by decide
theorem fold_l (N : Nat → Int × Int) (i : Nat) {l : Nat} (hl : l < 6) : (List.range 6).foldl (fun (v : Int × Int) (k : Nat) => (v.1 + (rotV (((l : Int) * (5 - (0 + (k : Int)))).fmod 6).toNat (N (i + k))).1, v.2 + (rotV (((l : Int) * (5 - (0 + (k : Int)))).fmod 6).toNat (N (i + k))).2)) (0, 0) = ([0, 1, 2, 3, 4, 5].erase l).foldl fT N i := by
  have ex : ∀ k : Nat, k ≤ 5 → ∀ v, rotV (((l : Int) * (5 - (0 + (k : Int)))).fmod 6).toNat v = rotV ((5 - k) * l) v := fun k hk v => by
    have e : ((l : Int) * (5 - (0 + (k : Int)))) = (((5 - k) * l : Nat) : Int) := by
      rw [Int.natCast_mul, Int.mul_comm]; congr 1; omega
    rw [e, Int.fmod_eq_emod_of_nonneg _ (by decide), show (((((5 - k) * l : Nat) : Int)) % 6).toNat = ((5 - k) * l) % 6 by omega, rotV_mod]
  rw [← fT_perm (five_perm l hl) N]
  simp only [List.foldl_cons, List.foldl_nil, fT_mod]
  refine Eq.trans ?_ (fold_five N l i).symm
  simp only [List.range, List.range.loop, List.foldl_cons, List.foldl_nil]
  rw [ex 0 (by decide), ex 1 (by decide), ex 2 (by decide), ex 3 (by decide), ex 4 (by decide), ex 5 (by decide), show (5 - 5) * l = 0 by omega, show (5 - 4) * l = l by omega]
  refine Prod.ext ?_ ?_ <;> (simp only [rotV, Nat.add_zero]; lia)
theorem fold_all (N : Nat → Int × Int) (i : Nat) : ([0, 1, 2, 3, 4, 5] : List Nat).foldl fT N i = ((N (i + 6)).1 - (N i).1, (N (i + 6)).2 - (N i).2) := by
  rw [← fT_perm (show ([1, 4, 2, 5, 0, 3] : List Nat).Perm [0, 1, 2, 3, 4, 5] by decide) N, List.foldl_cons, List.foldl_cons, fT_two N 1, List.foldl_cons, List.foldl_cons, fT_two _ 2, List.foldl_cons, List.foldl_cons, fT_two _ 0]
  have e : ∀ i, gT (gT N 2) 4 i = ((N (i + 4)).1 + (N (i + 2)).1 + (N i).1, (N (i + 4)).2 + (N (i + 2)).2 + (N i).2) := fun i => gT_two N 0 i
  show ((gT (gT N 2) 4 (i + 2)).1 - (gT (gT N 2) 4 i).1, (gT (gT N 2) 4 (i + 2)).2 - (gT (gT N 2) 4 i).2) = _
  rw [e, e, show i + 2 + 4 = i + 6 from rfl, show i + 2 + 2 = i + 4 from rfl]
  refine Prod.ext ?_ ?_ <;> (dsimp only; lia)
noncomputable def stepC (cz : Nat → Int × Int × Int) (t : Nat) : Nat → Int × Int × Int := fun i => add3 (cz ((i + 1) % 6)) (ledI ((t + 3) % 6) (cz i))
noncomputable def dN (cz : Nat → Int × Int × Int) : Nat → Int × Int := fun i => dif (cz (i % 6))
theorem dN_step (cz : Nat → Int × Int × Int) {t : Nat} (h : t < 6) : dN (stepC cz t) = fT (dN cz) t := by
  funext i
  have e : (i % 6 + 1) % 6 = (i + 1) % 6 := by (first | lia | omega)
  simp only [dN, stepC, fT, dif_add3, dif_ledI, e, rotV_turn h]
  simp only [Prod.mk.injEq]
  (first | lia | omega)
theorem dN_fold (ts : List Nat) : ∀ (cz : Nat → Int × Int × Int), (∀ t ∈ ts, t < 6) → dN (ts.foldl stepC cz) = ts.foldl fT (dN cz) := by
  induction ts with
  | nil => intro cz _; rfl
  | cons t ts ih =>
    intro cz h
    rw [List.foldl_cons, ih _ (fun x hx => h x (List.mem_cons_of_mem _ hx)), dN_step _ (h t List.mem_cons_self)]; rfl
/-- the law's state after some turns -/
def LSt (cz₀ : Nat → Int × Int × Int) (j : Nat) (lf : List Nat) (cz : Nat → Int × Int × Int) : Prop :=
  ∃ ts : List Nat, ts.length = j ∧ (ts ++ lf).Perm [0, 1, 2, 3, 4, 5] ∧ cz = ts.foldl stepC cz₀
theorem LSt.start (cz₀ : Nat → Int × Int × Int) : LSt cz₀ 0 [0, 1, 2, 3, 4, 5] cz₀ := ⟨[], rfl, List.Perm.refl _, rfl⟩
section
variable {cz₀ cz : Nat → Int × Int × Int} {j : Nat} {lf : List Nat}
theorem LSt.len (S : LSt cz₀ j lf cz) : lf.length = 6 - j := by
  obtain ⟨ts, h1, h2, _⟩ := S
  have := h2.length_eq
  rw [List.length_append] at this
  simp only [List.length_cons, List.length_nil] at this
  (first | lia | omega)
theorem LSt.lt (S : LSt cz₀ j lf cz) {t : Nat} (h : t ∈ lf) : t < 6 := by
  obtain ⟨ts, h1, h2, _⟩ := S
  have := h2.mem_iff.mp (List.mem_append_right ts h)
  simp only [List.mem_cons, List.not_mem_nil, or_false] at this
  (first | lia | omega)
theorem LSt.step (S : LSt cz₀ j lf cz) {t : Nat} (h : t ∈ lf) : LSt cz₀ (j + 1) (lf.filter (· != t)) (stepC cz t) := by
  obtain ⟨ts, h1, h2, rfl⟩ := S
  have nd : (ts ++ lf).Nodup := h2.nodup_iff.mpr (by decide)
  have nl : lf.Nodup := (List.nodup_append.mp nd).2.1
  refine ⟨ts ++ [t], by simp [h1], ?_, by rw [List.foldl_append]; rfl⟩
  refine List.Perm.trans ?_ h2
  rw [List.append_assoc, ← nl.erase_eq_filter]
  exact List.Perm.append_left ts (List.perm_cons_erase h).symm
def Bd (B : Int) (p : Int × Int × Int) : Prop := (0 ≤ p.1 ∧ p.1 ≤ B) ∧ (0 ≤ p.2.1 ∧ p.2.1 ≤ B) ∧ (0 ≤ p.2.2 ∧ p.2.2 ≤ B)
theorem Bd.led {B : Int} {p : Int × Int × Int} (h : Bd B p) (k : Nat) : Bd B (ledI k p) := by
  obtain ⟨x, y, z⟩ := p
  have e := ledI_max k x y z
  have q := mx3 (ledI k (x, y, z)).1 (ledI k (x, y, z)).2.1 (ledI k (x, y, z)).2.2
  have r := mx3_le h.1 h.2.1 h.2.2
  rw [e.1, e.2] at q
  obtain ⟨⟨q1, q2, q3⟩, q4, q5, q6⟩ := q
  exact ⟨⟨Int.le_trans r.2 q4, Int.le_trans q1 r.1⟩, ⟨Int.le_trans r.2 q5, Int.le_trans q2 r.1⟩, ⟨Int.le_trans r.2 q6, Int.le_trans q3 r.1⟩⟩
theorem Bd.step {B : Int} (h : ∀ i, Bd B (cz i)) (t i : Nat) : Bd (2 * B) (stepC cz t i) := by
  have a := h ((i + 1) % 6)
  have b := (h i).led ((t + 3) % 6)
  simp only [Bd, stepC, add3] at a b ⊢
  (first | lia | omega)
theorem Bd.fold : ∀ (ts : List Nat) (cz : Nat → Int × Int × Int) (B : Int), (∀ i, Bd B (cz i)) → ∀ i, Bd (2 ^ ts.length * B) (ts.foldl stepC cz i)
  | [], cz, B, h => fun i => by simpa using h i
  | t :: ts, cz, B, h => fun i => by
    have := Bd.fold ts (stepC cz t) (2 * B) (Bd.step h t) i
    rw [List.foldl_cons, List.length_cons, Int.pow_succ, Int.mul_assoc]
    exact this
theorem LSt.bound (S : LSt cz₀ j lf cz) (hj : j ≤ 5) (h : ∀ i, Bd 15 (cz₀ i)) (i : Nat) : Bd 512 (cz i) := by
  obtain ⟨ts, h1, h2, rfl⟩ := S
  have := Bd.fold ts cz₀ 15 h i
  rw [h1] at this
  have e : (2 : Int) ^ j ≤ 32 := by
    match j, hj with
    | 0, _ => decide | 1, _ => decide | 2, _ => decide | 3, _ => decide | 4, _ => decide | 5, _ => decide
  have e2 : (2 : Int) ^ j * 15 ≤ 32 * 15 := Int.mul_le_mul_of_nonneg_right e (by decide)
  generalize (2 : Int) ^ j * 15 = B at *
  simp only [Bd] at this ⊢
  (first | lia | omega)
theorem dueS_dif (cz : Nat → Int × Int × Int) (place l : Nat) : ∀ k, dif (dueS cz place l k) = (List.range k).foldl (fun (v : Int × Int) (i : Nat) => (v.1 + (rotV (((l : Int) * (5 - (0 + (i : Int)))).fmod 6).toNat (dN cz (place + i))).1, v.2 + (rotV (((l : Int) * (5 - (0 + (i : Int)))).fmod 6).toNat (dN cz (place + i))).2)) (0, 0)
  | 0 => rfl
  | k + 1 => by
    have e : (((place : Int) + (0 + (k : Int))).fmod 6).toNat = (place + k) % 6 := by
      rw [show ((place : Int) + (0 + (k : Int))) = (((place + k : Nat)) : Int) by (first | lia | omega), Int.fmod_eq_emod_of_nonneg _ (by decide)]
      (first | lia | omega)
    rw [List.range_succ, List.foldl_append, ← dueS_dif cz place l k]
    simp only [dueS, dif_add3, dif_rotP, e, dN, List.foldl_cons, List.foldl_nil]
theorem perm_six {ts : List Nat} {l : Nat} (h : (ts ++ [l]).Perm [0, 1, 2, 3, 4, 5]) : ts.Perm ([0, 1, 2, 3, 4, 5].erase l) := by
  have h2 : (l :: ts).Perm [0, 1, 2, 3, 4, 5] := (List.perm_append_singleton l ts).symm.trans h
  have := h2.erase l
  rwa [List.erase_cons_head] at this
theorem LSt.done (S : LSt cz₀ 5 lf cz) : ∃ l : Nat, lf = [l] ∧ l < 6 ∧ ∀ i : Nat, i < 6 → dif (dueS cz₀ i l 6) = dif (cz i) ∧ dif (ledI l (cz i)) = dif (cz ((i + 1) % 6)) := by
  have hl := S.len
  match lf, hl with
  | [l], _ =>
    have hl6 : l < 6 := S.lt List.mem_cons_self
    refine ⟨l, rfl, hl6, fun i hi => ?_⟩
    obtain ⟨ts, h1, h2, rfl⟩ := S
    have hts : ∀ t ∈ ts, t < 6 := fun t ht => by
      have := h2.mem_iff.mp (List.mem_append_left [l] ht)
      simp only [List.mem_cons, List.not_mem_nil, or_false] at this
      (first | lia | omega)
    have hf := dN_fold ts cz₀ hts
    have hp := fT_perm (perm_six h2) (dN cz₀)
    have hq := fT_perm h2 (dN cz₀)
    rw [List.foldl_append, ← hf] at hq
    rw [hp] at hf
    have per : ∀ i, dN cz₀ (i + 6) = dN cz₀ i := fun i => by simp only [dN]; rw [Nat.add_mod_right]
    have ei : ∀ (c : Nat → Int × Int × Int), dN c i = dif (c i) := fun c => by simp only [dN]; rw [Nat.mod_eq_of_lt hi]
    have e1 : ∀ (c : Nat → Int × Int × Int), dN c (i + 1) = dif (c ((i + 1) % 6)) := fun c => rfl
    constructor
    · rw [← ei, hf, dueS_dif]
      generalize dN cz₀ = N
      clear hf hp hq per ei e1 h1 h2 hts
      exact fold_l N i hl6
    · rw [dif_ledI, ← ei, ← e1]
      have q := congrFun hq i
      have p := per i
      generalize dN cz₀ = N at q p
      generalize dN (List.foldl stepC cz₀ ts) = M at q ⊢
      rw [fold_all, p] at q
      simp only [List.foldl_cons, List.foldl_nil, fT, Prod.mk.injEq] at q
      refine Prod.ext ?_ ?_
      · have := q.1; (first | lia | omega)
      · have := q.2; (first | lia | omega)
end
/-- the law's state at the head of the turns' loop -/
def J1 (hb : Heap) (L : Addr) (vsc vD : Value) (DR : Addr) (ra : Nat → Addr) (cz₀ : Nat → Int × Int × Int) (j : Nat) (h : Heap) : Prop :=
  ∃ m nD lD x4 x5 x6 lf cz rn vs, LwS hb h L m (some vsc) (some vD) (some (.ref nD)) x4 x5 x6 none none ∧ m (Str.ofString "ring") = some (.ref DR) ∧ m (Str.ofString "left") = some (.ref lD) ∧
    Held hb L h [(DR, PyProof.Rows.LCg.lst (refs6 ra))] ∧ Rows6 hb L h ra cz₀ ∧ Held hb L h [(nD, PyProof.Rows.LCg.lst (refs6 rn))] ∧ Rows6 hb L h rn cz ∧
    LstAt hb L h lD vs.toArray ∧ PyProof.Rows.IntsAre vs (lf.map fun n => ((n : Nat) : Int)) ∧ LSt cz₀ j lf cz
theorem J1.iter {hb h h' : Heap} {L I : Addr} {vsc vD : Value} {DR : Addr} {ra : Nat → Addr} {cz₀ : Nat → Int × Int × Int} {j : Nat} (J : J1 hb L vsc vD DR ra cz₀ j h) (hI : IterAt h I) (hIL : I ≠ L) (hI0 : hb.get? I = none) (k : ∀ b o, b ≠ I → h.get? b = some o → h'.get? b = some o) : J1 hb L vsc vD DR ra cz₀ j h' := by
  obtain ⟨m, nD, lD, x4, x5, x6, lf, cz, rn, vs, S, g1, g2, W1, R1, W2, R2, W3, i3, st⟩ := J
  exact ⟨m, nD, lD, x4, x5, x6, lf, cz, rn, vs, S.iter hI hIL hI0 k, g1, g2, W1.iter1 hI k, R1.iter hI k, W2.iter1 hI k, R2.iter hI k, W3.iter hI k, i3, st⟩
theorem Bd.ring (ns : List Int) (i : Nat) : Bd 15 (ringC ns i) := by
  have h : ∀ x : Int, 0 ≤ x.fmod 16 ∧ x.fmod 16 ≤ 15 := fun x => ⟨Int.fmod_nonneg_of_pos _ (by decide), by have := Int.fmod_lt_of_pos x (b := 16) (by decide); (first | lia | omega)⟩
  exact ⟨h _, h _, h _⟩
theorem ints_pick {vs : List Value} {lf : List Nat} (h : PyProof.Rows.IntsAre vs (lf.map fun n => ((n : Nat) : Int))) {k : Nat} (hk : k < lf.length) : ∃ t, ∃ tn ∈ lf, vs[k]? = some (Value.int ((tn : Nat) : Int) t) := by
  have hk' : k < vs.length := by rw [h.length, List.length_map]; exact hk
  obtain ⟨t, e⟩ := PyProof.Rows.IntsAre.int_at h k _ (List.getElem?_eq_getElem hk')
  refine ⟨t, lf[k], List.getElem_mem hk, ?_⟩
  rw [List.getElem?_eq_getElem hk', e, List.getD_eq_getElem?_getD, List.getElem?_map, List.getElem?_eq_getElem hk]
  rfl
/-- what a turn carries -/
structure Car (hb : Heap) (L : Addr) (h : Heap) (DR : Addr) (ra : Nat → Addr) (cz₀ : Nat → Int × Int × Int) (nD : Addr) (rn : Nat → Addr) (cz : Nat → Int × Int × Int) (xs : List (Addr × Obj)) : Prop where
  V1 : Held hb L h [(DR, PyProof.Rows.LCg.lst (refs6 ra))]
  R1 : Rows6 hb L h ra cz₀
  V2 : Held hb L h [(nD, PyProof.Rows.LCg.lst (refs6 rn))]
  R2 : Rows6 hb L h rn cz
  X : Held hb L h xs
  hx : ∀ p ∈ xs, ∀ x, p.2.data ≠ .cell x
section
variable {hb h h' : Heap} {L DR nD c : Addr} {ra rn : Nat → Addr} {cz₀ cz : Nat → Int × Int × Int} {xs : List (Addr × Obj)} {v : Option Value}
theorem Car.keep (C : Car hb L h DR ra cz₀ nD rn cz xs) (k : ∀ b o, b ≠ L → h.get? b = some o → h'.get? b = some o) : Car hb L h' DR ra cz₀ nD rn cz xs := ⟨C.V1.keep k, C.R1.keep k, C.V2.keep k, C.R2.keep k, C.X.keep k, C.hx⟩
theorem Car.store (C : Car hb L h DR ra cz₀ nD rn cz xs) (hc : h.IsCell c v) (hs : Heap.SameBut c h h') : Car hb L h' DR ra cz₀ nD rn cz xs := ⟨C.V1.store1 hc hs, C.R1.store hc hs, C.V2.store1 hc hs, C.R2.store hc hs, C.X.store hc hs C.hx, C.hx⟩
end
theorem ints_filter : ∀ {vs : List Value} {lf : List Nat} (tn : Nat), PyProof.Rows.IntsAre vs (lf.map fun n => ((n : Nat) : Int)) →
    PyProof.Rows.IntsAre (vs.filter fun v => match v with | .int a _ => a != (tn : Int) | _ => true) ((lf.filter (· != tn)).map fun n => ((n : Nat) : Int))
  | [], [], _, _ => .nil
  | v :: vs, n :: lf, tn, h => by
    cases h with
    | cons _ t h =>
      have ih := ints_filter tn h
      have e : (((n : Nat) : Int) != (tn : Int)) = (n != tn) := by
        by_cases q : n = tn
        · subst q; simp
        · have q' : ((n : Nat) : Int) ≠ (tn : Int) := by (first | lia | omega)
          rw [bne_iff_ne.mpr q, bne_iff_ne.mpr q']
      rw [List.filter_cons, List.filter_cons]
      simp only [e]
      cases q : (n != tn) with
      | true => exact .cons _ t ih
      | false => exact ih
end Mine
end

section
open PySem PySem.W PyProof.Rows PySem.Calls PyProof.Rows.LCg
namespace Mine
section
variable {prog : Program} {w : World} {A : Around} {E : Value → Shared → Prop} {s : Shared} {env : Env}
theorem paired_eq {l₁ l₂ : List Value} (h : PySem.Paired (fun v y => y = v) l₁ l₂) : l₂ = l₁ := by
  induction h with
  | nil => rfl
  | cons e _ ih => rw [e, ih]
/-- what the tested comprehension asks -/
def FiltSrc (prog : Program) (w : World) (A : Around) (E : Value → Shared → Prop) (env : Env) (x y : Str) (cond : Expr) (scope : Scope) (cl : List (Str × Addr)) (Q : Flow → Shared → Prop) (xv : Value) (s₁ : Shared) : Prop :=
  ∃ (ax : Addr) (items : Array Value) (m : Str → Option Value) (p : Value → Bool), xv = .ref ax ∧ s₁.heap.IsList ax items ∧ items.size ≤ sizeLine ∧ s₁.heap.Ns env.locals m ∧
    (∀ v C (s₂ : Shared) m₂ (E' : Value → Shared → Prop), v ∈ items → s₂.heap.Ns C m₂ → m₂ x = some v → s₁.heap.objs.size ≤ C → Up s₁.heap s₂.heap →
      wpAny (model prog w) A (isTrue cond (compEnvC scope cl C env) (eval cond (compEnvC scope cl C env))) (fun ok s₃ => ok = p v ∧ Keeps s₂ s₃) E' s₂) ∧
    (∀ D h tk, (∀ b o, b ≠ env.locals → s₁.heap.get? b = some o → h.get? b = some o) → h.Ns env.locals (fun z => if z = y then some (.ref D) else m z) → h.IsList D (items.toList.filter p).toArray → s₁.heap.get? D = none → Q .next { s₁ with heap := h, toks := tk })
theorem filt_Assign {cond iter : Expr} {scope : Scope} {cl : List (Str × Addr)} {x y : Str} {px ex py pos spos : Pos} {Q : Flow → Shared → Prop}
    (hsw : swapsWith (.ListComp (.Name x ex) [⟨.Name x px, iter, [cond], 0⟩] scope pos) (some (.Name y py)) spos.line env = pure true)
    (hh : A.handled = none) (hclos : closureFor scope env = pure cl) (hcell : ∀ y ∈ scope.names, y.2 ≠ .cell) (hkind : scope.kind = .function) (hnames : ∀ y ∈ scope.names, y.2 = .local → scope.names.lookup y.1 = some .local)
    (hx : scope.names.lookup x = some .local) (hd : (x == ("__debug__" : Str)) = false)
    (hy : env.kindOf y = some .local) (hp : (env.scope.kind == .class || (env.scope.kind == .module && env.locals != env.globals)) = false)
    (h : wpAny (model prog w) A (eval iter env) (FiltSrc prog w A E env x y cond scope cl Q) E s)
    (hs : ∀ x, foldedSetIterable iter env x = pure x) :
    wpAny (model prog w) A (exec (.Assign [.Name y py] (.ListComp (.Name x ex) [⟨.Name x px, iter, [cond], 0⟩] scope pos) spos) env) Q E s := by
  rw [exec_Assign_Name_used _ _ _ _ hsw]
  refine wpAny_bind (wpAny_standAt (wpAny_bind ?_))
  show wpAny _ A (do let _ ← comprehension (.ListComp (.Name x ex) [⟨.Name x px, iter, [cond], 0⟩] scope pos) scope env _ (newList []) false (eval iter env) (some (assign (.Name y py) env))) _ _ s
  refine wpAny_bind (wpAny_mono (wpAny_comprehension_free (use := some (assign (.Name y py) env)) (Q := fun _ s' => Q .next s') rfl hs hclos hkind hnames
    (wpAny_mono h (fun xv s₁ h₁ => ?_) fun _ _ e => e)) (fun _ s' hq => wpAny_pure (wpAny_pure hq)) fun _ _ e => e)
  obtain ⟨ax, items, m, p, rfl, hl, hsz, hn, test, done⟩ := h₁
  have hlt : ax < s₁.heap.objs.size := by obtain ⟨_, e, _⟩ := hl; exact Heap.lt_size e
  have hLlt : env.locals < s₁.heap.objs.size := hn.lt
  refine wpAny_pyIter_list hl ?_
  generalize hH1 : s₁.heap.push { cls := .type "list_iterator", data := .fields #[.ref ax, .int 0 0] } = H1
  have z1 : H1.objs.size = s₁.heap.objs.size + 1 := by rw [← hH1, Heap.size_push]
  have up1 : Up s₁.heap H1 := fun b o e => hH1 ▸ Heap.get?_push_of_some _ e
  have it1 : H1.IsListIter s₁.heap.objs.size ax 0 := ⟨_, hH1 ▸ Heap.get?_push_size _ rfl, rfl, rfl⟩
  refine wpAny_newObj_type (wpAny_newFunctionEnv hcell (by intro y hy; simp at hy) (fun h₁ hns₁ hsb₁ => ?_) hkind)
  dsimp only at hns₁ hsb₁ ⊢
  generalize hH2 : H1.push { cls := .type "list", dict := none, data := .seq ([] : List Value).toArray } = H2 at hns₁ hsb₁ ⊢
  have z2 : H2.objs.size = H1.objs.size + 1 := by rw [← hH2, Heap.size_push]
  have up2 : Up H1 H2 := fun b o e => hH2 ▸ Heap.get?_push_of_some _ e
  have hD2 : H2.get? H1.objs.size = some (lst []) := hH2 ▸ Heap.get?_push_size _ rfl
  have upC : ∀ b o, b ≠ H2.objs.size → H2.get? b = some o → h₁.get? b = some o := fun b o hb e => hsb₁.extBut b o hb (Heap.get?_push_of_some _ e)
  have ltC : ∀ b o, H2.get? b = some o → b ≠ H2.objs.size := fun b o e => Nat.ne_of_lt (Heap.lt_size e)
  have up3 : Up s₁.heap h₁ := fun b o e => upC b o (ltC _ _ (up2 _ _ (up1 _ _ e))) (up2 _ _ (up1 _ _ e))
  have it3 : h₁.IsListIter s₁.heap.objs.size ax 0 := it1.at fun o e => upC _ o (ltC _ _ (up2 _ _ e)) (up2 _ _ e)
  have hD3 : h₁.IsList H1.objs.size #[] := ⟨_, upC _ _ (ltC _ _ hD2) hD2, rfl, _, rfl⟩
  have hC1 : s₁.heap.objs.size ≤ H2.objs.size := by rw [z2, z1]; exact Nat.le_trans (Nat.le_succ _) (Nat.le_succ _)
  have none₁ : ∀ a, s₁.heap.objs.size ≤ a → s₁.heap.get? a = none := fun a ha => Heap.get?_none_of_le ha
  generalize hIg : s₁.heap.objs.size = I at *
  generalize hDg : H1.objs.size = D at *
  generalize hCg : H2.objs.size = C at *
  have nDI : D ≠ I := by rw [z1]; exact Nat.succ_ne_self _
  have nCD : D ≠ C := by rw [z2]; exact (Nat.succ_ne_self _).symm
  have nIC : I ≠ C := by rw [z2, z1]; exact Nat.ne_of_lt (Nat.lt_succ_of_lt (Nat.lt_succ_self _))
  have naI : ax ≠ I := Nat.ne_of_lt hlt
  have naC : ax ≠ C := Nat.ne_of_lt (Nat.lt_of_lt_of_le hlt hC1)
  have naD : ax ≠ D := Nat.ne_of_lt (Nat.lt_of_lt_of_le hlt (by rw [z1]; exact Nat.le_succ _))
  have nLI : env.locals ≠ I := Nat.ne_of_lt hLlt
  have nLC : env.locals ≠ C := Nat.ne_of_lt (Nat.lt_of_lt_of_le hLlt hC1)
  have nLD : env.locals ≠ D := Nat.ne_of_lt (Nat.lt_of_lt_of_le hLlt (by rw [z1]; exact Nat.le_succ _))
  have low : ∀ b o, s₁.heap.get? b = some o → b ≠ C ∧ b ≠ I ∧ b ≠ D := fun b o e => by
    have z := Heap.lt_size e
    rw [hIg] at z
    exact ⟨Nat.ne_of_lt (Nat.lt_of_lt_of_le z hC1), Nat.ne_of_lt z, Nat.ne_of_lt (Nat.lt_of_lt_of_le z (by rw [z1]; exact Nat.le_succ _))⟩
  have loop : codeAny (model prog w) A (.compLoop (.ListComp (.Name x ex) [⟨.Name x px, iter, [cond], 0⟩] scope pos) 0 (.ref I) (.ref D) (compEnvC scope cl C env)) (compPost (model prog w) A E (some (assign (.Name y py) env)) (fun _ s' => Q .next s') (.ref D) C) { s₁ with heap := h₁, toks := s₁.toks + ([] : List (Str × Value)).length } := by
    refine codeAny_compLoop_map p (fun v y => y = v) hh (lookup_relabel_local hx) (by simp [compEnvC, relabel, hkind]) nDI nCD nIC naI naC naD it3 (hl.at fun o e => up3 _ _ e) hD3 hns₁ ?_ ?_ ?_ hsz
    · intro v s₂ m₂ hv hn₂ hm₂ k₂
      exact wpAny_tests_one (test v C s₂ m₂ _ hv hn₂ hm₂ hC1 fun b o e => k₂ b o (low _ _ e).1 (low _ _ e).2.1 (low _ _ e).2.2 (up3 _ _ e))
    · intro v s₂ m₂ hv _ hn₂ hm₂ k₂
      exact ldVarK hn₂ hm₂ ⟨rfl, s₂.heap, s₂.toks, rfl, fun _ _ e => e⟩ hkind (lookup_relabel_local hx) hd
    · intro h' tk m' ys hn' hys hF k'
      have eys := paired_eq hF
      have up4 : Up s₁.heap h' := fun b o e => k' b o (low _ _ e).1 (low _ _ e).2.1 (low _ _ e).2.2 (up3 _ _ e)
      have hnL : h'.Ns env.locals m := hn.at' fun o e => up4 _ _ e
      show wpAny _ A (assign (.Name y py) env (.ref D)) _ _ _
      refine wpAny_assign_Name (wpAny_storeName_local hy hnL (fun h₂ hn₂ hs₂ => ?_) hp)
      refine ⟨m', hn'.sameBut hs₂ (Ne.symm nLC), fun h3 hs' => done D h3 _ (fun b o hb e => hs'.extBut _ _ (low _ _ e).1 (hs₂.extBut _ _ hb (up4 _ _ e))) (hn₂.sameBut hs' nLC) ?_ (none₁ _ (by rw [z1]; exact Nat.le_succ _))⟩
      have hD' := (hys.extBut hs₂.extBut (Ne.symm nLD)).extBut hs'.extBut nCD
      rw [← eys]
      exact hD'
  exact codeAny_compStart_list loop (wpAny_pyIter_listiter it3 loop)
end
end Mine
end

section
open PySem PySem.W PyProof.Rows PySem.Calls
namespace Mine
section
variable {w : World} {mean : ExcName → Option Value} {mg mb : Str → Option Value} {dp un : Nat} {gd : Option (List Code)} {cn : Str} {cs : Scope} {a : Addr} {ccd : Value} {cl : List (Str × Addr)} {outer : List Env} {A₀ : Around} {base h₀ : Heap} {L : Addr} {m : Str → Option Value} {s : Shared} {Q E : Value → Shared → Prop}
theorem led_c (B : Below A₀ base outer h₀) (F : Fr h₀ L s.heap m) (KX : (hd.heap_39 w.params).In h₀) (T : Top hd.view_39 (looseW hd.view_39 LS) mean mg mb h₀) (hk : cs.kind = .function)
    (hdp : dp + 3 < recursionLimit) (hun : un + 128 < cLine) {p : Addr} {c : Int × Int × Int} {way kk : Int} {k : Nat} {t1 t2 t3 t4 t5 : Tok} (hkk : kk = (k : Int)) (hw : way = 0 ∨ way = 1 ∨ way = 2) (hk5 : k ≤ 5)
    (hp : s.heap.IsList p (ints3 c t1 t2 t3).toArray) (hB : Bd 512 c)
    (hret : ∀ D u1 u2 u3 h' tk', Up s.heap h' → s.heap.get? D = none → h'.get? D = some (LCg.lst (ints3 (ledI k c) u1 u2 u3)) → Q (.ref D) { s with heap := h', toks := tk' }) :
    wpAny (model PR w) (ktrTop dp un gd cn cs L a ccd cl outer) (call (.ref 54) [.ref p, .int kk t4, .int way t5]) Q E s := by
  subst hkk
  obtain ⟨x, y, z⟩ := c
  exact led_any B F KX T hk hdp hun hw hk5 hp hB.1 hB.2.1 hB.2.2 hret
theorem fr_but {hb h h' : Heap} {m' : Str → Option Value} (F : Fr hb L h m) (hn : h'.Ns L m') (kp : ∀ b o, b ≠ L → h.get? b = some o → h'.get? b = some o) : Fr hb L h' m' :=
  ⟨hn, fun b o e => kp b o (Nat.ne_of_lt (Nat.lt_of_lt_of_le (Heap.lt_size e) F.above)) (F.keep b o e), F.above⟩
theorem mod3_way (i : Nat) : ((0 : Int) + (i : Int)).fmod 3 = 0 ∨ ((0 : Int) + (i : Int)).fmod 3 = 1 ∨ ((0 : Int) + (i : Int)).fmod 3 = 2 := by
  have h0 := Int.fmod_nonneg_of_pos ((0 : Int) + (i : Int)) (b := 3) (by decide)
  have h1 := Int.fmod_lt_of_pos ((0 : Int) + (i : Int)) (b := 3) (by decide)
  omega
theorem mod3_any (x : Int) : x.fmod 3 = 0 ∨ x.fmod 3 = 1 ∨ x.fmod 3 = 2 := by
  have h0 := Int.fmod_nonneg_of_pos x (b := 3) (by decide)
  have h1 := Int.fmod_lt_of_pos x (b := 3) (by decide)
  omega
theorem turn_mod (t : Nat) : ((t : Int) + 3).fmod 6 = (((t + 3) % 6 : Nat) : Int) := by
  rw [Int.fmod_eq_emod_of_nonneg _ (by decide)]; omega
end
end Mine
end

section
open PySem PySem.W PyProof.Rows PySem.Calls
namespace Mine
section
variable {prog : Program} {w : World} {A : Around} {E : Value → Shared → Prop} {s : Shared} {Q : Value → Shared → Prop}
/-- [] in a list of rows -/
theorem empty_in {le l : Addr} {ra : Nat → Addr} {cz : Nat → Int × Int × Int} {hb : Heap} {L : Addr} (hl : s.heap.IsList l (refs6 ra).toArray) (R : Rows6 hb L s.heap ra cz) (he : s.heap.IsList le #[]) (hu : A.in1.units < cLine) (h : Q (.bool false) s) :
    wpAny (model prog w) A (compareOp .In (.ref le) (.ref l)) Q E s := by
  refine SeqAt.in_listAt (fun _ => false) hl (fun y hy => ?_) (by rw [show (refs6 ra).toArray.any (fun _ => false) = false from by simp [refs6]]; exact h)
  have key : ∃ i, i < 6 ∧ y = .ref (ra i) := by
    simp only [refs6, List.mem_toArray, List.mem_cons, List.not_mem_nil, or_false] at hy
    rcases hy with e | e | e | e | e | e
    · exact ⟨0, by decide, e⟩
    · exact ⟨1, by decide, e⟩
    · exact ⟨2, by decide, e⟩
    · exact ⟨3, by decide, e⟩
    · exact ⟨4, by decide, e⟩
    · exact ⟨5, by decide, e⟩
  obtain ⟨i, hi, rfl⟩ := key
  obtain ⟨t, u, v, hr⟩ := R.isList hi
  refine SeqAt.EqAt.of_refs (fun q => ?_) (SeqAt.RcAt.lists_lengths hr he rfl hu)
  rw [q] at hr
  obtain ⟨o1, e1, _, n1, d1⟩ := hr
  obtain ⟨o2, e2, _, n2, d2⟩ := he
  rw [e1] at e2
  cases e2
  rw [d1] at d2
  cases d2
/-- an item by place - 5 -/
theorem item_prev {value slice : Expr} {l : Addr} {ra : Nat → Addr} {j : Nat} {k : Int} {u : Tok} (hj : j < 6) (hk : k = (j : Int) - 5) (hl : s.heap.IsList l (refs6 ra).toArray) (h : Q (.ref (ra ((j + 1) % 6))) s)
    (hs : subscripted slice false (.ref l) (.int k u) = operate [.ref l, .int k u] (getItem (.ref l) (.int k u))) (hg : ∀ r, letTemporaryGo value (.ref l) r = pure ()) :
    wpAny (model prog w) A (subscriptTail value slice (.ref l) (.int k u)) Q E s := by
  have sz : ((refs6 ra).toArray.size : Int) = 6 := rfl
  by_cases q : j < 5
  · refine subscriptTail_builtin hl.typeIs slot_list_getitem.lookup (wpAny_getItem_list_neg hl (by omega) (by rw [sz]; omega) (by omega) ?_ h) hs hg
    rw [sz, show (k + 6).toNat = j + 1 by omega, Nat.mod_eq_of_lt (show j + 1 < 6 by omega)]
    simpa using refs6_at ra (show j + 1 < 6 by omega)
  · have e : j = 5 := by omega
    subst e
    refine item_listL hl (by omega) (by rw [hk]; decide) ?_ h hs hg
    rw [hk]; rfl
end
/-- the last loop's state -/
def J2 (hb : Heap) (L : Addr) (m1 : Str → Option Value) (vsc vD : Value) (nD : Addr) (x4 x6 : Option Value) (DR : Addr) (ra : Nat → Addr) (cz₀ : Nat → Int × Int × Int) (rn : Nat → Addr) (cz : Nat → Int × Int × Int) (lD : Addr) (lvs : List Value) (h : Heap) : Prop :=
  ∃ x5 x7 x8, LwS hb h L m1 (some vsc) (some vD) (some (.ref nD)) x4 x5 x6 x7 x8 ∧ Held hb L h [(DR, LCg.lst (refs6 ra))] ∧ Rows6 hb L h ra cz₀ ∧ Held hb L h [(nD, LCg.lst (refs6 rn))] ∧ Rows6 hb L h rn cz ∧ LstAt hb L h lD lvs.toArray
theorem J2.iter {hb h h' : Heap} {L I : Addr} {m1 : Str → Option Value} {vsc vD : Value} {nD : Addr} {x4 x6 : Option Value} {DR : Addr} {ra : Nat → Addr} {cz₀ : Nat → Int × Int × Int} {rn : Nat → Addr} {cz : Nat → Int × Int × Int} {lD : Addr} {lvs : List Value} (J : J2 hb L m1 vsc vD nD x4 x6 DR ra cz₀ rn cz lD lvs h) (hI : IterAt h I) (hIL : I ≠ L) (hI0 : hb.get? I = none) (k : ∀ b o, b ≠ I → h.get? b = some o → h'.get? b = some o) : J2 hb L m1 vsc vD nD x4 x6 DR ra cz₀ rn cz lD lvs h' := by
  obtain ⟨x5, x7, x8, S, W1, R1, W2, R2, U⟩ := J
  exact ⟨x5, x7, x8, S.iter hI hIL hI0 k, W1.iter1 hI k, R1.iter hI k, W2.iter1 hI k, R2.iter hI k, U.iter hI k⟩
theorem ints_one {vs : List Value} {l : Nat} (h : IntsAre vs ([l].map fun n => ((n : Nat) : Int))) : ∃ t, vs = [Value.int ((l : Nat) : Int) t] := by
  cases h with
  | cons _ t h => cases h; exact ⟨t, rfl⟩
/-- the least part of a colour -/
noncomputable def mn3 (p : Int × Int × Int) : Int := min (min p.1 p.2.1) p.2.2
/-- a colour less its least part -/
noncomputable def flat (p : Int × Int × Int) : Int × Int × Int := (p.1 - mn3 p, p.2.1 - mn3 p, p.2.2 - mn3 p)
theorem flat_dif (p : Int × Int × Int) : flat p = ((dif p).1 - min (min (dif p).1 (dif p).2) 0, (dif p).2 - min (min (dif p).1 (dif p).2) 0, 0 - min (min (dif p).1 (dif p).2) 0) := by
  obtain ⟨a, b, c⟩ := p
  have sh : ∀ u v w : Int, min (u - w) (v - w) = min u v - w := fun u v w => by
    rcases Int.le_total u v with h | h
    · rw [Int.min_eq_left h, Int.min_eq_left (Int.sub_le_sub_right h w)]
    · rw [Int.min_eq_right h, Int.min_eq_right (Int.sub_le_sub_right h w)]
  have e := sh (min a b) c c
  rw [← sh a b c, Int.sub_self] at e
  simp only [flat, mn3, dif]
  rw [e]
  generalize min (min a b) c = m
  refine Prod.ext ?_ (Prod.ext ?_ ?_) <;> (dsimp only; lia)
theorem flat_eq {p q : Int × Int × Int} (h : dif p = dif q) : flat p = flat q := by rw [flat_dif, flat_dif, h]
theorem mn3_of {p : Int × Int × Int} {M : Int} (h : M ∈ [p.1, p.2.1, p.2.2]) (ha : ∀ a, a ∈ [p.1, p.2.1, p.2.2] → M ≤ a) : M = mn3 p := by
  refine Int.le_antisymm (Int.le_min.mpr ⟨Int.le_min.mpr ⟨ha _ List.mem_cons_self, ha _ (List.mem_cons_of_mem _ List.mem_cons_self)⟩, ha _ (List.mem_cons_of_mem _ (List.mem_cons_of_mem _ List.mem_cons_self))⟩) ?_
  have q := (mx3 p.1 p.2.1 p.2.2).2
  rcases List.mem_cons.mp h with rfl | h
  · exact q.1
  · rcases List.mem_cons.mp h with rfl | h
    · exact q.2.1
    · rw [List.mem_singleton.mp h]; exact q.2.2
theorem ints3_are (p : Int × Int × Int) (t u v : Tok) : IntsAre (ints3 p t u v) [p.1, p.2.1, p.2.2] := .cons _ t (.cons _ u (.cons _ v .nil))
theorem part_key {p f : Int × Int × Int} {t u v : Tok} {j : Nat} {y : Value} (hf : f = flat p) (hv : (ints3 p t u v).toArray[j]? = some y) :
    ∃ x tk, y = Value.int x tk ∧ (#[f.1, f.2.1, f.2.2] : Array Int).getD j 0 = x - mn3 p := by
  subst hf
  rcases three_at hv with ⟨rfl, rfl⟩ | ⟨rfl, rfl⟩ | ⟨rfl, rfl⟩ <;> exact ⟨_, _, rfl, rfl⟩
section
variable {prog : Program} {w : World} {A : Around} {E : Value → Shared → Prop} {s : Shared} {Q : Value → Shared → Prop}
theorem same3 {a b : Addr} {p : Int × Int × Int} {t u v t' u' v' : Tok} (ha : s.heap.IsList a (ints3 p t u v).toArray) (hb : s.heap.IsList b (ints3 p t' u' v').toArray) (hu : A.units + 64 < cLine) (h : Q (.bool false) s) :
    wpAny (model prog w) A (compareOp .NotEq (.ref a) (.ref b)) Q E s :=
  ke_ne_ints ha hb (ints3_are _ _ _ _) (ints3_are _ _ _ _) hu (by rw [show (!decide ([p.1, p.2.1, p.2.2] = [p.1, p.2.1, p.2.2])) = false from by simp]; exact h)
end
end Mine
end

section
open PySem PySem.W PyProof.Rows PySem.Calls
namespace Mine
theorem stop_cell {prog : Program} {w : World} {A : Around} {E : Value → Shared → Prop} {s : Shared} {Q : Unit → Shared → Prop} {env : Env} {x : Str} {v : Value} (_ : env.kindOf x = some .cell) (h : StopD (wpAny (model prog w) A (storeName env x v) Q E s)) : wpAny (model prog w) A (storeName env x v) Q E s := h
set_option compiler.extract_closed false
local macro_rules | `(tactic| walk_at "eval Name") => `(tactic| (k_here; (with_reducible refine nm_e ?_); k_dflt (refine nameX_L (by k_asm) (by (repeat (refine Eq.trans (if_neg (by decide)) ?_)); with_reducible assumption) ?_ rfl rfl); k_whole))
local macro_rules
  | `(tactic| walk_at "eval Name") => `(tactic| (k_here; (with_reducible refine nm_c ?_); k_dflt (first | refine ldVarF (by with_reducible assumption) (by with_reducible assumption) ?_ rfl rfl (by decide) | refine ldCellF (by with_reducible assumption) rfl (by with_reducible assumption) ?_ rfl rfl (by decide)); k_whole))
  | `(tactic| walk_at "storeName") => `(tactic| (k_here; refine stop_cell (by with_unfolding_all rfl) ?_))
  | `(tactic| walk_at $k:str) => if ["eval ListComp", "exec Assign cons ListComp", "pyIter ref", "exec For", "subscriptTail Name Slice ref ref", "subscriptTail Name BinOp ref int", "call builtin:len", "subscriptTail Name Name ref int", "call ref", "compareOp In ref ref", "call type:zip", "subscriptTail Name Constant ref int", "call builtin:min", "compareOp NotEq ref ref", "call type:enumerate"].contains k.getString then `(tactic| (k_here; refine StopD.mk ?_)) else Lean.Macro.throwUnsupported
def TestEnd (b : Bool) (s₂ : Shared) (ok : Bool) (s₃ : Shared) : Prop := ok = b ∧ Keeps s₂ s₃
theorem use_fr {hb h : Heap} {L : Addr} {m : Str → Option Value} {v1 v2 v3 v4 v5 v6 v7 v8 : Option Value} {P : Prop} (S : LwS hb h L m v1 v2 v3 v4 v5 v6 v7 v8) (k : ∀ m', LwS hb h L m' v1 v2 v3 v4 v5 v6 v7 v8 → m' = m → P) : P := k m S rfl
theorem useEqB {α : Type} {a b : α} {P : Prop} (h : a = b) (k : a = b → P) : P := k h
section
variable {w : World} {mean : ExcName → Option Value} {mg mb : Str → Option Value} {dp un : Nat} {gd : Option (List Code)} {env : Env} {outer : List Env} {A₀ : Around} {base hb : Heap} {L : Addr} {m : Str → Option Value} {s : Shared} {Q : Flow → Shared → Prop}
  {name : Str} {params : Arguments} {body : List Stmt} {scope : Scope} {doc pm cdv cdx oc : Value} {od : Option Addr} {fa : Addr} {osl : Array (Option Value)}
set_option maxRecDepth 100000 in
set_option maxHeartbeats 8000000 in
theorem law_body (ho : (hd.heap_39 w.params).lookup 64 = some ⟨oc, od, .func (docDef name params body scope pm cdx doc), osl⟩)
  (B : Below A₀ base outer hb) (F : Fr hb L s.heap m) (KX : (hd.heap_39 w.params).In hb) (T : Top hd.view_39 (looseW hd.view_39 LS) mean mg mb hb)
  (hdp : dp + 9 < recursionLimit) (hun : un + 512 < cLine)
  {sc : Addr} {vs : List Value} {ns : List Int} (hL : hb.IsList sc vs.toArray) (hI : IntsAre vs ns) (hlen : ns.length ≤ 63)
  {o1 o2 o3 o4 o5 o6 o7 o8 : Obj} (c1 : o1.data = .cell (some (.ref sc))) (c2 : o2.data = .cell none) (c3 : o3.data = .cell none) (c4 : o4.data = .cell none) (c5 : o5.data = .cell none) (c6 : o6.data = .cell none) (c7 : o7.data = .cell none) (c8 : o8.data = .cell none)
  (N : News hb L s.heap [(L + 8, o8), (L + 7, o7), (L + 6, o6), (L + 5, o5), (L + 4, o4), (L + 3, o3), (L + 2, o2), (L + 1, o1)])
  (hret : ∀ h' tk' m', Fr hb L h' m' → Q (.ret (.bool true)) { s with heap := h', toks := tk' }) :
  wpAny (model PR w) ({ handled := none, depth := dp, frames := some (envOfC name scope L fa cdv :: outer), guards := gd, units := un }) (execs body (envOfC name scope L fa cdv)) Q (fun _ _ => False) s := by
  w_top off
  (refine' useEqB (a := (hd.heap_39 w.params).lookup 64) ?pf ?kk; (case pf => k_dflt k_is)); intro ho'
  (have q' := Option.some.inj (ho.symm.trans ho')); clear ho ho'
  (simp only [Obj.mk.injEq, Data.func.injEq, docDef, FuncData.mk.injEq, FuncBody.stmts.injEq, true_and] at q'); (obtain ⟨-, -, ⟨e1, -, -, e3, e4, -, -, -, e7, -⟩, -⟩ := q'); subst e1; subst e4; subst e7; subst e3
  (try dsimp only)
  k_steps
  refine StopD.out ?_
  refine wpAny_Assign_Name ?_ (by with_unfolding_all rfl)
  refine grow_ListComp (by with_unfolding_all rfl) (by decide) (by rfl) (by decide) ?_ (by intro _; with_unfolding_all rfl)
  (try dsimp only)
  k_steps
  refine StopD.out ?_
  (rename Fr _ _ _ _ => F1); (rename News _ _ _ _ => N1)
  have hcell : Heap.IsCell _ (L + 1) (some (.ref sc)) := ⟨o1, (N1 (L + 1, o1) (by k_mem)).1, c1⟩
  have hT1 := (N1 _ List.mem_cons_self).1
  have KX1 := KX.keeps F1.keep
  have T1 := T.keeps F1.keep
  have hL1 := hL.at fun o e => F1.keep _ _ e
  refine enum_src (fun i y _ => ∃ t, y = .int (cellN ns i) t) rfl rfl rfl rfl (by decide) ⟨_, hT1, rfl, _, rfl⟩ (Nat.le_of_ble_eq_true rfl) ?_ ?_
  · rintro i v t C h tk m₂ s₁ E' ⟨g, rfl⟩ hv hn hx hz hC up
    rw [← Array.getElem?_toList] at hv
    obtain ⟨tv, rfl⟩ := IntsAre.int_at (ns := baseN) (by unfold baseN; l_intsC) i v hv
    refine elt_g hC hn up fun sn FC NC _ => ?_
    dsimp only at FC NC hC
    clear F1 N1 KX T B hT1 hL hv hn up
    (try dsimp only)
    k_steps
    refine StopD.out ?_
    (rename Fr _ _ _ _ => FF); (rename News _ _ _ _ => NN)
    refine kmk_slice_ints FF NN (hL1.at fun o e => FF.keep _ _ e) (.int _ _) (.int _ _) hI (kmk_run hI (Int.natCast_nonneg _) (by omega)) rfl ?_ (by with_unfolding_all rfl) (by intro _; with_unfolding_all rfl) (by rw [kmk_size_eq hI]; exact Nat.le_trans hlen (Nat.le_of_ble_eq_true rfl))
    clear FF NN
    intro D6 ws6 h6 F6 N6 l6 hI6 _ _
    (try dsimp only)
    k_steps
    refine ⟨_, _, _, _, [], rfl, by with_reducible assumption, by with_reducible assumption, fun p hp => ?_, fun _ p hp => (by cases hp), _, congrArg (fun z => Value.int z _) (?_ : _ = cellN ns i)⟩
    · repeat (first | exact hp | refine List.mem_cons_of_mem _ ?_)
    · rw [sum_take_one]; rfl
  · intro g D h tk ys hys hR up hD hD0
    dsimp only at up hD0
    replace hys : ys.length = 23 := by rw [hys]; simp only [List.size_toArray, List.length_cons, List.length_nil]
    have hcs : IntsAre ys (cellL ns) := ints_of hys fun i y e => by
      obtain ⟨_, ⟨t, rfl⟩, _⟩ := hR i y e
      have hi : i < 23 := by have := (List.getElem?_eq_some_iff.mp e).1; rw [hys] at this; exact this
      exact ⟨t, by rw [List.getD_eq_getElem?_getD, cellL_at ns hi]; rfl⟩
    have F2 := fr_up F1 up
    have N2 := news_up N1 up
    have S2 : LwS hb h L _ _ _ _ _ _ _ _ _ := ⟨F2, ⟨o1, (N2 (L + 1, o1) (by k_mem)).1, c1⟩, ⟨o2, (N2 (L + 2, o2) (by k_mem)).1, c2⟩, ⟨o3, (N2 (L + 3, o3) (by k_mem)).1, c3⟩, ⟨o4, (N2 (L + 4, o4) (by k_mem)).1, c4⟩, ⟨o5, (N2 (L + 5, o5) (by k_mem)).1, c5⟩, ⟨o6, (N2 (L + 6, o6) (by k_mem)).1, c6⟩, ⟨o7, (N2 (L + 7, o7) (by k_mem)).1, c7⟩, ⟨o8, (N2 (L + 8, o8) (by k_mem)).1, c8⟩⟩
    have W2 := Held.new F1 hD hD0
    clear F1 N1 N2 F2 hR hD hD0 up KX1 T1 hL1 hcell hT1 c1 c2 c3 c4 c5 c6 c7 c8 o1 o2 o3 o4 o5 o6 o7 o8
    refine wpAny_storeName_cell (c := L + 2) rfl rfl rfl S2.c2 fun h3 hv3 hs3 => ?_
    dsimp only at hs3
    replace W2 := W2.store1 S2.c2 hs3
    have S3 := S2.store2 hs3 hv3
    clear S2 hs3 hv3
    obtain ⟨sn, o1, o2, o3, o4, o5, o6, o7, o8, N, KK, c1, c2, c3, c4, c5, c6, c7, c8⟩ := S3.ledger
    have F := S3.F
    have hcell := S3.c2
    (try dsimp only)
    k_steps
    refine StopD.out ?_
    refine grow_ListComp (by with_unfolding_all rfl) (by decide) (by rfl) (by decide) ?_ (by intro _; with_unfolding_all rfl)
    (try dsimp only)
    k_steps
    refine StopD.out ?_
    (rename IsRange _ _ _ _ _ _ _ _ => hR4); (rename Fr _ _ _ _ => F4); (rename News _ _ _ _ => N4)
    have S4 := S3.keep F4 (KK _ _ _ F4 N4 (fun p hp => by repeat (first | exact hp | refine List.mem_cons_of_mem _ ?_)))
    have W4 := W2.keep (KK _ _ _ F4 N4 (fun p hp => by repeat (first | exact hp | refine List.mem_cons_of_mem _ ?_)))
    clear KK N4 hcell S3 W2 c1 c2 c3 c4 c5 c6 c7 c8
    refine LC_range (n := 6) (fun i y own => ∃ D2 t u v, y = .ref D2 ∧ own = [(D2, LCg.lst (ints3 (ringC ns i) t u v))]) rfl rfl rfl hR4 (by decide) (by decide) (Nat.le_of_ble_eq_true rfl) ?_ ?_
    · rintro i C h5 tk5 m5 t5 s5 E5 ⟨g5, rfl⟩ hi hn5 hm5 hC5 up5
      have hcell := S4.c2
      have hlist : Heap.IsList _ D ys.toArray := W4.isList
      have KX4 := KX.keeps F4.keep
      have T4 := T.keeps F4.keep
      clear T KX
      refine elt_g hC5 hn5 up5 fun sn FC NC KC => ?_
      dsimp only at FC NC hC5 up5
      clear up5 hn5
      (try dsimp only)
      k_steps
      refine StopD.out ?_
      refine grow_ListComp (by with_unfolding_all rfl) (by decide) (by rfl) (by decide) ?_ (by intro _; with_unfolding_all rfl)
      (try dsimp only)
      k_steps
      refine StopD.out ?_
      (rename Fr _ _ _ _ => FF); (rename News _ _ _ _ => NN)
      refine kmk_slice_ints FF NN (hlist.at fun o e => FF.keep _ _ e) (.int _ _) (.int _ _) hcs (kmk_run hcs (by omega) (by omega)) rfl ?_ (by with_unfolding_all rfl) (by intro _; with_unfolding_all rfl) (by rw [kmk_size_eq hcs]; exact Nat.le_of_ble_eq_true rfl)
      clear FF NN
      intro D6 ws6 h6 F6 N6 l6 hI6 _ _
      rw [take3 ns hi] at hI6
      obtain ⟨ta, tb, tc, rfl⟩ := ints3_of hI6
      clear hI6 l6
      (try dsimp only)
      k_steps
      refine StopD.out ?_
      refine LC_list (its := [Value.int (cellN ns (3 * i)) ta, Value.int (cellN ns (3 * i + 1)) tb, Value.int (cellN ns (3 * i + 2)) tc].toArray) (R3 ((cellN ns (3 * i)).fmod 16) ((cellN ns (3 * i + 1)).fmod 16) ((cellN ns (3 * i + 2)).fmod 16)) rfl rfl rfl ⟨_, (N6 _ List.mem_cons_self).1, rfl, _, rfl⟩ (Nat.le_of_ble_eq_true rfl) ?_ ?_
      · rintro j v C7 h7 tk7 m7 s7 E7 ⟨g7, rfl⟩ hv hn7 hm7 hC7 up7
        have key : ∃ x t, v = Value.int x t ∧ (#[(cellN ns (3 * i)).fmod 16, (cellN ns (3 * i + 1)).fmod 16, (cellN ns (3 * i + 2)).fmod 16] : Array Int).getD j 0 = x.fmod 16 := by
          rcases three_at hv with ⟨rfl, rfl⟩ | ⟨rfl, rfl⟩ | ⟨rfl, rfl⟩ <;> exact ⟨_, _, rfl, rfl⟩
        obtain ⟨x, t, rfl, ex⟩ := key
        refine elt_g hC7 hn7 up7 fun sn7 F7 N7 K7 => ?_
        dsimp only at F7 N7 hC7
        clear KC F6 N6 hv hn7 up7 K7
        (try dsimp only)
        k_steps
        refine ⟨_, _, _, _, [], rfl, by with_reducible assumption, by with_reducible assumption, fun p hp => ?_, fun _ p hp => (by cases hp), _, congrArg (fun z => Value.int z _) (?_ : _ = Array.getD _ _ _)⟩
        · repeat (first | exact hp | refine List.mem_cons_of_mem _ ?_)
        · exact ex.symm
      · intro g7
        refine done3 ⟨_, rfl⟩ fun D8 v0 v1 v2 h8 tk8 up8 hD8 hD80 => ?_
        dsimp only at up8 hD80
        refine ⟨h8, tk8, _, _, [(D8, LCg.lst (ints3 (ringC ns i) v0 v1 v2))], rfl, fr_up F6 up8, news_up N6 up8, fun p hp => List.mem_cons_of_mem _ hp, fun _ p hp => ?_, D8, v0, v1, v2, rfl, rfl⟩
        rw [List.mem_singleton.mp hp]
        exact ⟨hD8, none_back F6.ns (KC _ _ F6 fun p hp => N6 p (List.mem_cons_of_mem _ hp)) hD80⟩
    · intro g9 DR h9 tk9 yr hyr hRr up9 hDR hDR0
      dsimp only at up9 hDR0 hRr
      obtain ⟨ra, rfl, R9⟩ := rows6 (h := h9) (cz := ringC ns) F4 hyr hRr
      have S9 := S4.keep (fr_up F4 up9) fun b o _ e => up9 b o e
      have W9 := W4.up up9
      have V9 := Held.new F4 hDR hDR0
      clear S4 W4 F4 up9 hRr hDR hDR0 hR4 hyr
      obtain ⟨sn, o1, o2, o3, o4, o5, o6, o7, o8, N, KK, c1, c2, c3, c4, c5, c6, c7, c8⟩ := S9.ledger
      have F := S9.F
      (try dsimp only)
      k_steps
      refine StopD.out ?_
      (rename Fr _ _ _ _ => FA); (rename News _ _ _ _ => NA)
      have kA := KK _ _ _ FA NA (fun p hp => by repeat (first | exact hp | refine List.mem_cons_of_mem _ ?_))
      have SA := S9.keep FA kA
      replace W9 := W9.keep kA
      replace V9 := V9.keep kA
      replace R9 := R9.keep kA
      refine use_fr SA fun mA FA' emA => ?_
      obtain ⟨lD, cl9, tl0, tl1, tl2, tl3, tl4, tl5, gl, U9⟩ : ∃ lD c t0 t1 t2 t3 t4 t5, mA (Str.ofString "left") = some (.ref lD) ∧ Held hb L _ [(lD, W.listOf ([.int 0 t0, .int 1 t1, .int 2 t2, .int 3 t3, .int 4 t4, .int 5 t5] : List Value).toArray c)] := ⟨_, _, _, _, _, _, _, _, (congrFun emA _).trans rfl, ⟨fun p hp => NA p (List.mem_singleton.mp hp ▸ (by k_mem))⟩⟩
      have gr : mA (Str.ofString "ring") = some (.ref DR) := (congrFun emA _).trans rfl
      clear NA FA emA kA KK SA S9 c1 c2 c3 c4 c5 c6 c7 c8
      refine wpAny_storeName_cell (c := L + 3) rfl rfl rfl FA'.c3 fun hB hvB hsB => ?_
      dsimp only at hsB
      have SB := FA'.store3 hsB hvB
      replace W9 := W9.store1 FA'.c3 hsB
      replace V9 := V9.store1 FA'.c3 hsB
      replace U9 := U9.store1 FA'.c3 hsB
      replace R9 := R9.store FA'.c3 hsB
      clear FA' hsB hvB
      (try dsimp only)
      k_steps
      refine StopD.out ?_
      refine for_J ?_ (by intro _; rfl) (by passes_own)
      obtain ⟨sn, o1, o2, o3, o4, o5, o6, o7, o8, N, KK, c1, c2, c3, c4, c5, c6, c7, c8⟩ := SB.ledger
      have F := SB.F
      (try dsimp only)
      k_steps
      refine StopD.out ?_
      (rename Fr _ _ _ _ => FF); (rename News _ _ _ _ => NN)
      refine kmk_slice_ints FF NN (W9.keep (KK _ _ _ FF NN (fun p hp => by repeat (first | exact hp | refine List.mem_cons_of_mem _ ?_)))).isList (.int _ _) .none hcs (kmk_from hcs (by decide)) rfl ?_ (by with_unfolding_all rfl) (by intro _; with_unfolding_all rfl) (by rw [kmk_size_eq hcs]; exact Nat.le_of_ble_eq_true rfl)
      clear FF NN
      intro DS wsS hS FS NS _ hIS _ _
      have kS := KK _ _ _ FS NS (fun p hp => by repeat (first | exact hp | refine List.mem_cons_of_mem _ ?_))
      have SS := SB.keep FS kS
      replace V9 := V9.keep kS
      replace U9 := U9.keep kS
      replace R9 := R9.keep kS
      have XS : Held hb L hS [(DS, W.listOf wsS.toArray 0)] := ⟨fun p hp => NS p (List.mem_singleton.mp hp ▸ List.mem_cons_self)⟩
      clear W9 SB kS NS KK c1 c2 c3 c4 c5 c6 c7 c8
      (try dsimp only)
      k_steps
      refine StopD.out ?_
      refine for_list (hb := hb) (L := L) (fun j h => J1 hb L (.ref sc) (.ref D) DR ra (ringC ns) j h) rfl SS.F XS rfl rfl ?_ ?_ ?_ ?_
      · intro h' up
        exact ⟨mA, DR, lD, _, _, _, [0, 1, 2, 3, 4, 5], ringC ns, ra, _, SS.keep (fr_up SS.F up) (fun b o _ e => up b o e), gr, gl, V9.up up, R9.keep (fun b o _ e => up b o e), V9.up up, R9.keep (fun b o _ e => up b o e), (LstAt.ofHeld U9).up up, .cons 0 _ (.cons 1 _ (.cons 2 _ (.cons 3 _ (.cons 4 _ (.cons 5 _ .nil))))), LSt.start _⟩
      · intro i h h' I hI0 hIL hI hJ k
        exact hJ.iter hI hIL hI0 k
      · clear SS V9 U9 R9 XS FS gl gr
        intro i v h tk xs Q' hv hJ X hXc hQ
        rw [← Array.getElem?_toList] at hv
        obtain ⟨tv, rfl⟩ := IntsAre.int_at hIS i v hv
        have hi5 : i < 5 := by
          have := (List.getElem?_eq_some_iff.mp hv).1
          rw [hIS.length] at this
          exact this
        clear hv
        obtain ⟨m1, nD, lD1, x4, x5, x6, lf, cz, rn, lvs, S1, g1, g2, V1, R1, V2, R2, U1, hI1, st1⟩ := hJ
        obtain ⟨sn, o1, o2, o3, o4, o5, o6, o7, o8, N, KK, c1, c2, c3, c4, c5, c6, c7, c8⟩ := S1.ledger
        have F := S1.F
        generalize (List.drop (18 : Int).toNat (cellL ns)).getD i 0 = x
        have C1 : Car hb L h DR ra (ringC ns) nD rn cz xs := ⟨V1, R1, V2, R2, X, hXc⟩
        clear V1 R1 V2 R2 X hXc
        (try dsimp only)
        k_steps
        refine StopD.out ?_
        (rename Fr _ _ _ _ => FF); (rename News _ _ _ _ => NN)
        have hlen : lvs.toArray.size = 6 - i := by rw [List.size_toArray, hI1.length, List.length_map, st1.len]
        obtain ⟨n, hn⟩ : ∃ n : Int, n = ((6 - i : Nat) : Int) := ⟨_, rfl⟩
        have hn0 : 0 < n := by omega
        have hn6 : n ≤ 6 := by omega
        refine call_len_list (U1.keep (KK _ _ _ FF NN (fun p hp => by repeat (first | exact hp | refine List.mem_cons_of_mem _ ?_)))).isList (by rw [hlen, ← hn]; exact Int.lt_of_le_of_lt hn6 (by decide)) ?_
        rw [hlen, ← hn]
        (try dsimp only)
        k_steps
        refine StopD.out ?_
        (rename Fr _ _ _ _ => FF); (rename News _ _ _ _ => NN)
        have f0 := Int.fmod_nonneg_of_pos x hn0
        have f1 := Int.fmod_lt_of_pos x hn0
        obtain ⟨tt, tn, htn, hat⟩ := ints_pick hI1 (k := (x.fmod n).toNat) (by rw [st1.len]; omega)
        refine item_listL (U1.keep (KK _ _ _ FF NN (fun p hp => by repeat (first | exact hp | refine List.mem_cons_of_mem _ ?_)))).isList f0 (Int.lt_trans f1 (Int.lt_of_le_of_lt hn6 (by decide))) hat ?_
        (try dsimp only)
        k_steps
        refine StopD.out ?_
        (rename Fr _ _ _ _ => FF); (rename News _ _ _ _ => NN)
        have k1 := KK _ _ _ FF NN (fun p hp => by repeat (first | exact hp | refine List.mem_cons_of_mem _ ?_))
        have S2 := S1.keep FF k1
        have C2 := C1.keep k1
        replace U1 := U1.keep k1
        refine wpAny_storeName_cell (c := L + 4) rfl rfl rfl S2.c4 fun h2 hv2 hs2 => ?_
        dsimp only at hs2
        have S3 := S2.store4 hs2 hv2
        have C3 := C2.store S2.c4 hs2
        replace U1 := U1.store S2.c4 hs2
        clear S1 S2 C1 C2 hs2 hv2 hat f0 f1 hlen hn hn0 hn6 k1 KK NN FF c1 c2 c3 c4 c5 c6 c7 c8
        obtain ⟨sn, o1, o2, o3, o4, o5, o6, o7, o8, N, KK, c1, c2, c3, c4, c5, c6, c7, c8⟩ := S3.ledger
        have F := S3.F
        have htn6 := st1.lt htn
        (try dsimp only)
        k_steps
        refine StopD.out ?_
        refine filt_Assign (by with_unfolding_all rfl) rfl (by with_unfolding_all rfl) (by decide) (by rfl) (by decide) rfl (by decide) (by rfl) (by rfl) ?_ (by intro _; with_unfolding_all rfl)
        (try dsimp only)
        k_steps
        (rename Fr _ _ _ _ => FF); (rename News _ _ _ _ => NN)
        have k1 := KK _ _ _ FF NN (fun p hp => by repeat (first | exact hp | refine List.mem_cons_of_mem _ ?_))
        have S4 := S3.keep FF k1
        have C4 := C3.keep k1
        replace U1 := U1.keep k1
        refine ⟨lD1, lvs.toArray, _, fun v => match v with | .int a _ => a != (tn : Int) | _ => true, rfl, U1.isList, ?_, FF.ns, ?_, ?_⟩
        · have hlen : lvs.toArray.size = 6 - i := by rw [List.size_toArray, hI1.length, List.length_map, st1.len]
          rw [hlen]; exact Nat.le_trans (Nat.sub_le _ _) (Nat.le_of_ble_eq_true rfl)
        · intro v C5 s5 m5 E5 hv hn5 hm5 hC5 up5
          obtain ⟨a, ta, rfl⟩ : ∃ a t, v = Value.int a t := by
            obtain ⟨j, hj⟩ := List.mem_iff_getElem?.mp (List.mem_toArray.mp hv)
            obtain ⟨t, e⟩ := IntsAre.int_at hI1 j v hj
            exact ⟨_, _, e⟩
          have hcell := S4.c4
          dsimp only at up5 hC5
          have F5 : Fr _ C5 s5.heap m5 := ⟨hn5, up5, hC5⟩
          have N5 : News _ C5 s5.heap [] := nl_nil (hb := s5.heap) (h := s5.heap) (L := C5)
          clear KK FF NN S3 C3 k1 hn5
          refine wpAny_mono (?_ : wpAny _ _ _ (TestEnd (a != (tn : Int)) s5) _ _) (fun _ _ q => q) (fun _ _ e => e)
          (try dsimp only)
          k_steps
          exact ⟨rfl, s5.heap, s5.toks, rfl, fun _ _ e => e⟩
        · intro D5 h5 tk5 kp5 hn5 hD5 hD50
          dsimp only at kp5 hD50
          have F5 := fr_but S4.F hn5 kp5
          refine use_fr (S4.keep F5 kp5) fun m5 S5 em5 => ?_
          have g5 : m5 (Str.ofString "left") = some (.ref D5) := (congrFun em5 _).trans (if_pos rfl)
          have g6 : m5 (Str.ofString "ring") = some (.ref DR) := (congrFun em5 _).trans ((if_neg (by decide)).trans ((if_neg (by decide)).trans g1))
          have C5 := C4.keep kp5
          have U5 := LstAt.new S4.F hD5 hD50
          have hI5 := ints_filter tn hI1
          have st5 := st1.step htn
          clear S4 C4 U1 kp5 hn5 hD5 hD50 F5 em5 hI1 KK NN FF k1 c1 c2 c3 c4 c5 c6 c7 c8 C3 S3 g1 g2
          obtain ⟨sn, o1, o2, o3, o4, o5, o6, o7, o8, N, KK, c1, c2, c3, c4, c5, c6, c7, c8⟩ := S5.ledger
          have F := S5.F
          (try dsimp only)
          k_steps
          refine StopD.out ?_
          refine wpAny_Assign_Name ?_ (by with_unfolding_all rfl)
          refine grow_ListComp (by with_unfolding_all rfl) (by decide) (by rfl) (by decide) ?_ (by intro _; with_unfolding_all rfl)
          (try dsimp only)
          k_steps
          refine StopD.out ?_
          (rename IsRange _ _ _ _ _ _ _ _ => hR6); (rename Fr _ _ _ _ => FF); (rename News _ _ _ _ => NN)
          have k6 := KK _ _ _ FF NN (fun p hp => by repeat (first | exact hp | refine List.mem_cons_of_mem _ ?_))
          have S6 := S5.keep FF k6
          have C6 := C5.keep k6
          have U6 := U5.keep k6
          clear KK NN S5 C5 U5 FF k6 c1 c2 c3 c4 c5 c6 c7 c8
          refine LC_range (n := 6) (fun j y own => ∃ D2 t u v, y = .ref D2 ∧ own = [(D2, LCg.lst (ints3 (ledI ((tn + 3) % 6) (cz j)) t u v))]) rfl rfl rfl hR6 (by decide) (by decide) (Nat.le_of_ble_eq_true rfl) ?_ ?_
          · rintro j C7 h7 tk7 m7 t7 s7 E7 ⟨g7, rfl⟩ hj hn7 hm7 hC7 up7
            have hcell3 := S6.c3
            have hcell4 := S6.c4
            have KX6 := KX.keeps S6.F.keep
            have T6 := T.keeps S6.F.keep
            rw [show (0 : Int) + (j : Int) * 1 = (0 : Int) + (j : Int) by omega] at hm7
            refine elt_g hC7 hn7 up7 fun sn FC NC KC => ?_
            dsimp only at FC NC hC7 up7
            clear up7 hn7
            (try dsimp only)
            k_steps
            refine StopD.out ?_
            (rename Fr _ _ _ _ => FF); (rename News _ _ _ _ => NN)
            refine item_listL (l := refs6 rn) (C6.V2.isList.at fun o e => FF.keep _ _ e) (by omega) (Int.lt_trans (show (0 : Int) + (j : Int) < 6 by omega) (by decide)) (by rw [show ((0 : Int) + (j : Int)).toNat = j by omega]; exact refs6_at rn hj) ?_
            (try dsimp only)
            k_steps
            refine StopD.out ?_
            (rename Fr _ _ _ _ => FF); (rename News _ _ _ _ => NN)
            obtain ⟨ta, tb, tc, hrow⟩ := C6.R2.isList hj
            refine led_c B (fr_up S6.F FF.keep) KX T rfl (by omega) (by omega) (turn_mod tn) (mod3_way j) (by omega) (hrow.at fun o e => FF.keep _ _ e) (st1.bound (by omega) (Bd.ring ns) j) ?_
            intro D8 v0 v1 v2 h8 tk8 up8 hD80 hD8
            refine ⟨h8, tk8, _, _, [(D8, LCg.lst (ints3 (ledI ((tn + 3) % 6) (cz j)) v0 v1 v2))], rfl, fr_up FF up8, news_up NN up8, fun p hp => ?_, fun _ p hp => ?_, D8, v0, v1, v2, rfl, rfl⟩
            · repeat (first | exact hp | refine List.mem_cons_of_mem _ ?_)
            · rw [List.mem_singleton.mp hp]
              exact ⟨hD8, none_back FF.ns (KC _ _ FF fun p hp => NN p (by repeat (first | exact hp | refine List.mem_cons_of_mem _ ?_))) hD80⟩
          · intro g9 DL h9 tk9 yl hyl hRl up9 hDL hDL0
            dsimp only at up9 hDL0 hRl
            obtain ⟨rl, rfl, R9⟩ := rows6 (h := h9) (cz := fun j => ledI ((tn + 3) % 6) (cz j)) S6.F hyl hRl
            have S9 := S6.keep (fr_up S6.F up9) fun b o _ e => up9 b o e
            have C9 := C6.keep fun b o _ e => up9 b o e
            have U9 := U6.up up9
            have V9 := Held.new S6.F hDL hDL0
            clear S6 C6 U6 up9 hRl hDL hDL0 hR6 hyl
            refine wpAny_storeName_cell (c := L + 6) rfl rfl rfl S9.c6 fun hA hvA hsA => ?_
            dsimp only at hsA
            have SA := S9.store6 hsA hvA
            have CA := C9.store S9.c6 hsA
            have UA := U9.store S9.c6 hsA
            have VA := V9.store1 S9.c6 hsA
            have RA := R9.store S9.c6 hsA
            clear S9 C9 U9 V9 R9 hsA hvA
            obtain ⟨sn, o1, o2, o3, o4, o5, o6, o7, o8, N, KK, c1, c2, c3, c4, c5, c6, c7, c8⟩ := SA.ledger
            have F := SA.F
            (try dsimp only)
            k_steps
            refine StopD.out ?_
            (rename Fr _ _ _ _ => FF); (rename News _ _ _ _ => NN)
            have kB := KK _ _ _ FF NN (fun p hp => by repeat (first | exact hp | refine List.mem_cons_of_mem _ ?_))
            refine empty_in (VA.keep kB).isList (RA.keep kB) ⟨_, (NN _ List.mem_cons_self).1, rfl, _, rfl⟩ (by ktr_units) ?_
            (try dsimp only)
            k_steps
            refine StopD.out ?_
            refine wpAny_Assign_Name ?_ (by with_unfolding_all rfl)
            refine grow_ListComp (by with_unfolding_all rfl) (by decide) (by rfl) (by decide) ?_ (by intro _; with_unfolding_all rfl)
            (try dsimp only)
            k_steps
            refine StopD.out ?_
            (rename IsRange _ _ _ _ _ _ _ _ => hRB); (rename Fr _ _ _ _ => FF); (rename News _ _ _ _ => NN)
            have kC := KK _ _ _ FF NN (fun p hp => by repeat (first | exact hp | refine List.mem_cons_of_mem _ ?_))
            have SC := SA.keep FF kC
            have CC := CA.keep kC
            have UC := UA.keep kC
            have VC := VA.keep kC
            have RC := RA.keep kC
            clear KK NN SA CA UA VA RA FF kC kB c1 c2 c3 c4 c5 c6 c7 c8
            refine LC_range (n := 6) (fun j y own => ∃ D2 t u v, y = .ref D2 ∧ own = [(D2, LCg.lst (ints3 (stepC cz tn j) t u v))]) rfl rfl rfl hRB (by decide) (by decide) (Nat.le_of_ble_eq_true rfl) ?_ ?_
            · rintro j C7 h7 tk7 m7 t7 s7 E7 ⟨g7, rfl⟩ hj hn7 hm7 hC7 up7
              have hcell3 := SC.c3
              have hcell6 := SC.c6
              have KX6 := KX.keeps SC.F.keep
              have T6 := T.keeps SC.F.keep
              rw [show (0 : Int) + (j : Int) * 1 = (0 : Int) + (j : Int) by omega] at hm7
              refine elt_g hC7 hn7 up7 fun sn FC NC KC => ?_
              dsimp only at FC NC hC7 up7
              clear up7 hn7
              (try dsimp only)
              k_steps
              refine StopD.out ?_
              refine grow_ListComp (by with_unfolding_all rfl) (by decide) (by rfl) (by decide) ?_ (by intro _; with_unfolding_all rfl)
              (try dsimp only)
              k_steps
              refine StopD.out ?_
              (rename Fr _ _ _ _ => FF)
              refine item_prev hj (by omega) (CC.V2.isList.at fun o e => FF.keep _ _ e) ?_ (by with_unfolding_all rfl) (by intro _; with_unfolding_all rfl)
              (try dsimp only)
              k_steps
              refine StopD.out ?_
              (rename Fr _ _ _ _ => FF)
              refine item_listL (l := refs6 rl) (VC.isList.at fun o e => FF.keep _ _ e) (by omega) (Int.lt_trans (show (0 : Int) + (j : Int) < 6 by omega) (by decide)) (by rw [show ((0 : Int) + (j : Int)).toNat = j by omega]; exact refs6_at rl hj) ?_
              (try dsimp only)
              k_steps
              refine StopD.out ?_
              (rename Fr _ _ _ _ => FF); (rename News _ _ _ _ => NN)
              obtain ⟨ta, tb, tc, hr1⟩ := CC.R2.isList (show (j + 1) % 6 < 6 by omega)
              obtain ⟨td, te, tf, hr2⟩ := RC.isList hj
              refine zip_src rfl rfl rfl rfl (by decide) (by decide) (by decide) (hr1.at fun o e => FF.keep _ _ e) (hr2.at fun o e => FF.keep _ _ e) (fun s₁ hs₁ => done3 hs₁ fun D8 v0 v1 v2 h8 tk8 up8 hD8 hD80 => ?_)
              dsimp only at up8 hD80
              refine ⟨h8, tk8, _, _, [(D8, LCg.lst (ints3 (stepC cz tn j) v0 v1 v2))], rfl, fr_up FF up8, news_up NN up8, fun p hp => ?_, fun _ p hp => ?_, D8, v0, v1, v2, rfl, rfl⟩
              · repeat (first | exact hp | refine List.mem_cons_of_mem _ ?_)
              · rw [List.mem_singleton.mp hp]
                exact ⟨hD8, none_back FF.ns (KC _ _ FF fun p hp => NN p (by repeat (first | exact hp | refine List.mem_cons_of_mem _ ?_))) hD80⟩
            · intro g9 DN h9 tk9 yn hyn hRn up9 hDN hDN0
              dsimp only at up9 hDN0 hRn
              obtain ⟨rn2, rfl, R9⟩ := rows6 (h := h9) (cz := stepC cz tn) SC.F hyn hRn
              have S9 := SC.keep (fr_up SC.F up9) fun b o _ e => up9 b o e
              have C9 := CC.keep fun b o _ e => up9 b o e
              have U9 := UC.up up9
              have V9 := Held.new SC.F hDN hDN0
              refine wpAny_storeName_cell (c := L + 3) rfl rfl rfl S9.c3 fun hA hvA hsA => ?_
              dsimp only at hsA
              have SD := S9.store3 hsA hvA
              have CD := C9.store S9.c3 hsA
              have UD := U9.store S9.c3 hsA
              have VD := V9.store1 S9.c3 hsA
              have RD := R9.store S9.c3 hsA
              clear S9 C9 U9 V9 R9 hsA hvA SC CC UC VC RC
              have FD := SD.F
              (try dsimp only)
              k_steps
              exact hQ _ _ CD.X ⟨m5, DN, D5, _, _, _, _, _, rn2, _, SD, g6, g5, CD.V1, CD.R1, VD, RD, UD, hI5, st5⟩
      · clear SS V9 U9 R9 XS FS gl gr
        intro h tk hJ
        rw [show wsS.toArray.size = 5 by rw [List.size_toArray, hIS.length]; rfl] at hJ
        obtain ⟨m1, nD, lD1, x4, x5, x6, lf, cz, rn, lvs, S1, g1, g2, V1, R1, V2, R2, U1, hI1, st1⟩ := hJ
        obtain ⟨l, rfl, hl6, fin⟩ := st1.done
        obtain ⟨sn, o1, o2, o3, o4, o5, o6, o7, o8, N, KK, c1, c2, c3, c4, c5, c6, c7, c8⟩ := S1.ledger
        have F := S1.F
        (try dsimp only)
        k_steps
        refine StopD.out ?_
        refine for_J ?_ (by intro _; rfl) (by passes_own)
        (try dsimp only)
        k_steps
        refine StopD.out ?_
        (rename IsRange _ _ _ _ _ _ _ _ => hRZ); (rename Fr _ _ _ _ => FF); (rename News _ _ _ _ => NN)
        have kZ := KK _ _ _ FF NN (fun p hp => by repeat (first | exact hp | refine List.mem_cons_of_mem _ ?_))
        have SZ := S1.keep FF kZ
        replace V1 := V1.keep kZ
        replace V2 := V2.keep kZ
        replace R1 := R1.keep kZ
        replace R2 := R2.keep kZ
        replace U1 := U1.keep kZ
        obtain ⟨tl, rfl⟩ := ints_one hI1
        clear KK NN S1 FF kZ c1 c2 c3 c4 c5 c6 c7 c8 hI1
        refine for_range (hb := hb) (L := L) (n := 6) (fun _ h => J2 hb L m1 (.ref sc) (.ref D) nD x4 x6 DR ra (ringC ns) rn cz lD1 [Value.int ((l : Nat) : Int) tl] h) rfl SZ.F hRZ (by decide) (by decide) ?_ ?_ ?_ ?_
        · intro h' up
          exact ⟨_, _, _, SZ.keep (fr_up SZ.F up) (fun b o _ e => up b o e), V1.up up, R1.keep (fun b o _ e => up b o e), V2.up up, R2.keep (fun b o _ e => up b o e), U1.up up⟩
        · intro i h h' I hI0 hIL hI hJ k
          exact hJ.iter hI hIL hI0 k
        · clear SZ V1 R1 V2 R2 U1 hRZ
          intro i tp h tk xs Q' hi6 hJ X hXc hQ
          obtain ⟨x5, x7, x8, S1, V1, R1, V2, R2, U1⟩ := hJ
          have C1 : Car hb L h DR ra (ringC ns) nD rn cz xs := ⟨V1, R1, V2, R2, X, hXc⟩
          clear V1 R1 V2 R2 X hXc
          (try dsimp only)
          k_steps
          refine StopD.out ?_
          refine wpAny_storeName_cell (c := L + 5) rfl rfl rfl S1.c5 fun h2 hv2 hs2 => ?_
          dsimp only at hs2
          have S2 := S1.store5 hs2 hv2
          have C2 := C1.store S1.c5 hs2
          replace U1 := U1.store S1.c5 hs2
          clear S1 C1 hs2 hv2
          obtain ⟨sn, o1, o2, o3, o4, o5, o6, o7, o8, N, KK, c1, c2, c3, c4, c5, c6, c7, c8⟩ := S2.ledger
          have F := S2.F
          (try dsimp only)
          k_steps
          refine StopD.out ?_
          (rename Fr _ _ _ _ => FF); (rename News _ _ _ _ => NN)
          refine item_listL (U1.keep (KK _ _ _ FF NN (fun p hp => by repeat (first | exact hp | refine List.mem_cons_of_mem _ ?_)))).isList (by decide) (by decide) rfl ?_
          (try dsimp only)
          k_steps
          refine StopD.out ?_
          (rename Fr _ _ _ _ => FF); (rename News _ _ _ _ => NN)
          have k2 := KK _ _ _ FF NN (fun p hp => by repeat (first | exact hp | refine List.mem_cons_of_mem _ ?_))
          refine due_call B FF KX T rfl (by omega) (by omega) (C2.V1.keep k2).isList (fun i hi => (C2.R1.keep k2).isList hi) ?_
          intro DU u1 u2 u3 h3 tk3 up3 hDU0 hDU
          obtain ⟨oU, eU, cU, nU, dU⟩ := id hDU
          have F3 := fr_up FF up3
          have N3 := news_new FF (news_up NN up3) eU hDU0
          clear FF NN k2 up3 eU hDU hDU0
          (try dsimp only)
          k_steps
          refine StopD.out ?_
          (rename Fr _ _ _ _ => FF); (rename News _ _ _ _ => NN)
          refine item_listL (l := refs6 rn) (C2.V2.keep (KK _ _ _ FF NN (fun p hp => by repeat (first | exact hp | refine List.mem_cons_of_mem _ ?_)))).isList (by omega) (Int.lt_trans (show (0 : Int) + (i : Int) < 6 by omega) (by decide)) (by rw [show ((0 : Int) + (i : Int)).toNat = i by omega]; exact refs6_at rn hi6) ?_
          (try dsimp only)
          k_steps
          refine StopD.out ?_
          (rename Fr _ _ _ _ => FF); (rename News _ _ _ _ => NN)
          refine item_listL (U1.keep (KK _ _ _ FF NN (fun p hp => by repeat (first | exact hp | refine List.mem_cons_of_mem _ ?_)))).isList (by decide) (by decide) rfl ?_
          (try dsimp only)
          k_steps
          refine StopD.out ?_
          (rename Fr _ _ _ _ => FF); (rename News _ _ _ _ => NN)
          have k3 := KK _ _ _ FF NN (fun p hp => by repeat (first | exact hp | refine List.mem_cons_of_mem _ ?_))
          obtain ⟨ta, tb, tc, hrow⟩ := (C2.R2.keep k3).isList hi6
          refine led_c B FF KX T rfl (by omega) (by omega) rfl (mod3_any _) (by omega) hrow (st1.bound (by decide) (Bd.ring ns) i) ?_
          intro DA w1 w2 w3 h4 tk4 up4 hDA0 hDA
          have F4 := fr_up FF up4
          have N4 := news_new FF (news_up NN up4) hDA hDA0
          clear FF NN k3 up4 hDA hDA0
          (try dsimp only)
          k_steps
          refine StopD.out ?_
          (rename Fr _ _ _ _ => FF); (rename News _ _ _ _ => NN)
          have k5 := KK _ _ _ FF NN (fun p hp => by repeat (first | exact hp | refine List.mem_cons_of_mem _ ?_))
          have LU : LstAt hb L _ DU _ := ⟨⟨oU, (NN (DU, oU) (by k_mem)).1, cU, nU, dU⟩, (NN (DU, oU) (by k_mem)).2.1, (NN (DU, oU) (by k_mem)).2.2⟩
          have LA : LstAt hb L _ DA (ints3 (ledI l (cz i)) w1 w2 w3).toArray := ⟨⟨_, (NN (DA, LCg.lst (ints3 (ledI l (cz i)) w1 w2 w3)) (by k_mem)).1, rfl, _, rfl⟩, (NN (DA, LCg.lst (ints3 (ledI l (cz i)) w1 w2 w3)) (by k_mem)).2.1, (NN (DA, LCg.lst (ints3 (ledI l (cz i)) w1 w2 w3)) (by k_mem)).2.2⟩
          have S3 := S2.keep FF k5
          have C3 := C2.keep k5
          replace U1 := U1.keep k5
          clear FF NN k5 S2 C2 KK c1 c2 c3 c4 c5 c6 c7 c8 cU dU
          refine wpAny_storeName_cell (c := L + 7) rfl rfl rfl S3.c7 fun h6 hv6 hs6 => ?_
          dsimp only at hs6
          have S4 := S3.store7 hs6 hv6
          have C4 := C3.store S3.c7 hs6
          replace U1 := U1.store S3.c7 hs6
          replace LU := LU.store S3.c7 hs6
          replace LA := LA.store S3.c7 hs6
          clear S3 C3 hs6 hv6
          have F4' := S4.F
          (try dsimp only)
          k_steps
          refine StopD.out ?_
          clear F4'
          refine wpAny_storeName_cell (c := L + 8) rfl rfl rfl S4.c8 fun h7 hv7 hs7 => ?_
          dsimp only at hs7
          have S5 := S4.store8 hs7 hv7
          have C5 := C4.store S4.c8 hs7
          replace U1 := U1.store S4.c8 hs7
          replace LU := LU.store S4.c8 hs7
          replace LA := LA.store S4.c8 hs7
          clear S4 C4 hs7 hv7
          obtain ⟨sn, o1, o2, o3, o4, o5, o6, o7, o8, N, KK, c1, c2, c3, c4, c5, c6, c7, c8⟩ := S5.ledger
          have F := S5.F
          (try dsimp only)
          k_steps
          refine StopD.out ?_
          rw [show (0 : Int) + (i : Int) = (i : Int) by omega] at LU
          have fa := fin i hi6
          generalize dueS (ringC ns) (i : Int) (l : Int) 6 = dd at LU fa
          generalize ledI l (cz i) = ee at LA fa
          obtain ⟨f1, hf1⟩ : ∃ f, f = flat dd := ⟨_, rfl⟩
          obtain ⟨f2, hf2⟩ : ∃ f, f = flat ee := ⟨_, rfl⟩
          have q1 := hf1.trans (flat_eq fa.1)
          have q2 := hf2.trans (flat_eq fa.2)
          clear fa
          refine grow_ListComp (by with_unfolding_all rfl) (by decide) (by rfl) (by decide) ?_ (by intro _; with_unfolding_all rfl)
          (try dsimp only)
          k_steps
          refine StopD.out ?_
          (rename Fr _ _ _ _ => FF); (rename News _ _ _ _ => NN)
          have kM := KK _ _ _ FF NN (fun p hp => by repeat (first | exact hp | refine List.mem_cons_of_mem _ ?_))
          have SM := S5.keep FF kM
          have CM := C5.keep kM
          replace U1 := U1.keep kM
          replace LU := LU.keep kM
          replace LA := LA.keep kM
          clear KK NN FF kM S5 C5 c1 c2 c3 c4 c5 c6 c7 c8
          obtain ⟨ta, tb, tc, hrow⟩ : ∃ ta tb tc, Heap.IsList _ _ (ints3 dd ta tb tc).toArray := ⟨_, _, _, LU.isList⟩
          refine LC_list (its := (ints3 dd ta tb tc).toArray) (R3 f1.1 f1.2.1 f1.2.2) rfl rfl rfl hrow (Nat.le_of_ble_eq_true rfl) ?_ ?_
          · rintro j v C7 h7 tk7 m7 s7 E7 ⟨g7, rfl⟩ hv hn7 hm7 hC7 up7
            obtain ⟨x, t, rfl, ex⟩ := part_key (f := f1) hf1 hv
            have hcell7 := SM.c7
            have KX6 := KX.keeps SM.F.keep
            have T6 := T.keeps SM.F.keep
            refine elt_g hC7 hn7 up7 fun sn FC NC KC => ?_
            dsimp only at FC NC hC7 up7
            clear up7 hn7 hv
            (try dsimp only)
            k_steps
            refine StopD.out ?_
            (rename Fr _ _ _ _ => FF); (rename News _ _ _ _ => NN)
            refine min_list_N rfl FF NN (hrow.at fun o e => FF.keep _ _ e) (ints3_are _ _ _ _) (Nat.zero_lt_succ _) ?_
            intro h8 M t8 tk8 F8 N8 hM hall
            obtain rfl := mn3_of hM hall
            clear FF NN hM hall
            (try dsimp only)
            k_steps
            refine ⟨_, _, _, _, [], rfl, by with_reducible assumption, by with_reducible assumption, fun p hp => ?_, fun _ p hp => (by cases hp), _, congrArg (fun z => Value.int z _) (?_ : _ = Array.getD _ _ _)⟩
            · repeat (first | exact hp | refine List.mem_cons_of_mem _ ?_)
            · exact ex.symm
          · intro g7
            refine done3 ⟨_, rfl⟩ fun DP y0 y1 y2 h8 tk8 up8 hDX hDX0 => ?_
            dsimp only at up8 hDX0
            have LP : LstAt hb L h8 DP (ints3 f1 y0 y1 y2).toArray := LstAt.ofHeld (Held.new SM.F hDX hDX0)
            have S5 := SM.keep (fr_up SM.F up8) fun b o _ e => up8 b o e
            have C5 := CM.keep fun b o _ e => up8 b o e
            replace U1 := U1.up up8
            replace LU := LU.up up8
            replace LA := LA.up up8
            clear SM CM up8 hDX hDX0 hrow
            obtain ⟨sn, o1, o2, o3, o4, o5, o6, o7, o8, N, KK, c1, c2, c3, c4, c5, c6, c7, c8⟩ := S5.ledger
            have F := S5.F
            (try dsimp only)
            k_steps
            refine StopD.out ?_
            refine grow_ListComp (by with_unfolding_all rfl) (by decide) (by rfl) (by decide) ?_ (by intro _; with_unfolding_all rfl)
            (try dsimp only)
            k_steps
            refine StopD.out ?_
            (rename Fr _ _ _ _ => FF); (rename News _ _ _ _ => NN)
            refine item_listL (l := refs6 rn) (C5.V2.keep (KK _ _ _ FF NN (fun p hp => by repeat (first | exact hp | refine List.mem_cons_of_mem _ ?_)))).isList (by omega) (Int.lt_trans (show (0 : Int) + (i : Int) < 6 by omega) (by decide)) (by rw [show ((0 : Int) + (i : Int)).toNat = i by omega]; exact refs6_at rn hi6) ?_
            (try dsimp only)
            k_steps
            refine StopD.out ?_
            (rename Fr _ _ _ _ => FF); (rename News _ _ _ _ => NN)
            have kM := KK _ _ _ FF NN (fun p hp => by repeat (first | exact hp | refine List.mem_cons_of_mem _ ?_))
            have SM := S5.keep FF kM
            have CM := C5.keep kM
            replace U1 := U1.keep kM
            replace LU := LU.keep kM
            replace LA := LA.keep kM
            replace LP := LP.keep kM
            clear KK NN FF kM S5 C5 c1 c2 c3 c4 c5 c6 c7 c8
            obtain ⟨ta, tb, tc, hrow⟩ : ∃ ta tb tc, Heap.IsList _ _ (ints3 (cz i) ta tb tc).toArray := CM.R2.isList hi6
            refine LC_list (its := (ints3 (cz i) ta tb tc).toArray) (R3 f1.1 f1.2.1 f1.2.2) rfl rfl rfl hrow (Nat.le_of_ble_eq_true rfl) ?_ ?_
            · rintro j v C7 h7 tk7 m7 s7 E7 ⟨g7, rfl⟩ hv hn7 hm7 hC7 up7
              obtain ⟨x, t, rfl, ex⟩ := part_key (f := f1) q1 hv
              have hcell3 := SM.c3
              have hcell5 := SM.c5
              have KX6 := KX.keeps SM.F.keep
              have T6 := T.keeps SM.F.keep
              refine elt_g hC7 hn7 up7 fun sn FC NC KC => ?_
              dsimp only at FC NC hC7 up7
              clear up7 hn7 hv
              (try dsimp only)
              k_steps
              refine StopD.out ?_
              (rename Fr _ _ _ _ => FF)
              refine item_listL (l := refs6 rn) (CM.V2.isList.at fun o e => FF.keep _ _ e) (by omega) (Int.lt_trans (show (0 : Int) + (i : Int) < 6 by omega) (by decide)) (by rw [show ((0 : Int) + (i : Int)).toNat = i by omega]; exact refs6_at rn hi6) ?_
              (try dsimp only)
              k_steps
              refine StopD.out ?_
              (rename Fr _ _ _ _ => FF); (rename News _ _ _ _ => NN)
              refine min_list_N rfl FF NN (hrow.at fun o e => FF.keep _ _ e) (ints3_are _ _ _ _) (Nat.zero_lt_succ _) ?_
              intro h8 M t8 tk8 F8 N8 hM hall
              obtain rfl := mn3_of hM hall
              clear FF NN hM hall
              (try dsimp only)
              k_steps
              refine ⟨_, _, _, _, [], rfl, by with_reducible assumption, by with_reducible assumption, fun p hp => ?_, fun _ p hp => (by cases hp), _, congrArg (fun z => Value.int z _) (?_ : _ = Array.getD _ _ _)⟩
              · repeat (first | exact hp | refine List.mem_cons_of_mem _ ?_)
              · exact ex.symm
            · intro g7
              refine done3 ⟨_, rfl⟩ fun DR y0 y1 y2 h8 tk8 up8 hDX hDX0 => ?_
              dsimp only at up8 hDX0
              have LR : LstAt hb L h8 DR (ints3 f1 y0 y1 y2).toArray := LstAt.ofHeld (Held.new SM.F hDX hDX0)
              have S5 := SM.keep (fr_up SM.F up8) fun b o _ e => up8 b o e
              have C5 := CM.keep fun b o _ e => up8 b o e
              replace U1 := U1.up up8
              replace LU := LU.up up8
              replace LA := LA.up up8
              replace LP := LP.up up8
              clear SM CM up8 hDX hDX0 hrow
              obtain ⟨sn, o1, o2, o3, o4, o5, o6, o7, o8, N, KK, c1, c2, c3, c4, c5, c6, c7, c8⟩ := S5.ledger
              have F := S5.F
              (try dsimp only)
              k_steps
              refine StopD.out ?_
              (rename Fr _ _ _ _ => FF); (rename News _ _ _ _ => NN)
              have kM := KK _ _ _ FF NN (fun p hp => by repeat (first | exact hp | refine List.mem_cons_of_mem _ ?_))
              refine same3 (LP.keep kM).isList (LR.keep kM).isList (by show un + 64 < cLine; omega) ?_
              clear kM
              clear LP LR
              (try dsimp only)
              k_steps
              refine StopD.out ?_
              refine grow_ListComp (by with_unfolding_all rfl) (by decide) (by rfl) (by decide) ?_ (by intro _; with_unfolding_all rfl)
              (try dsimp only)
              k_steps
              refine StopD.out ?_
              (rename Fr _ _ _ _ => FF); (rename News _ _ _ _ => NN)
              have kM := KK _ _ _ FF NN (fun p hp => by repeat (first | exact hp | refine List.mem_cons_of_mem _ ?_))
              have SM := S5.keep FF kM
              have CM := C5.keep kM
              replace U1 := U1.keep kM
              replace LU := LU.keep kM
              replace LA := LA.keep kM
              clear KK NN FF kM S5 C5 c1 c2 c3 c4 c5 c6 c7 c8
              obtain ⟨ta, tb, tc, hrow⟩ : ∃ ta tb tc, Heap.IsList _ _ (ints3 ee ta tb tc).toArray := ⟨_, _, _, LA.isList⟩
              refine LC_list (its := (ints3 ee ta tb tc).toArray) (R3 f2.1 f2.2.1 f2.2.2) rfl rfl rfl hrow (Nat.le_of_ble_eq_true rfl) ?_ ?_
              · rintro j v C7 h7 tk7 m7 s7 E7 ⟨g7, rfl⟩ hv hn7 hm7 hC7 up7
                obtain ⟨x, t, rfl, ex⟩ := part_key (f := f2) hf2 hv
                have hcell8 := SM.c8
                have KX6 := KX.keeps SM.F.keep
                have T6 := T.keeps SM.F.keep
                refine elt_g hC7 hn7 up7 fun sn FC NC KC => ?_
                dsimp only at FC NC hC7 up7
                clear up7 hn7 hv
                (try dsimp only)
                k_steps
                refine StopD.out ?_
                (rename Fr _ _ _ _ => FF); (rename News _ _ _ _ => NN)
                refine min_list_N rfl FF NN (hrow.at fun o e => FF.keep _ _ e) (ints3_are _ _ _ _) (Nat.zero_lt_succ _) ?_
                intro h8 M t8 tk8 F8 N8 hM hall
                obtain rfl := mn3_of hM hall
                clear FF NN hM hall
                (try dsimp only)
                k_steps
                refine ⟨_, _, _, _, [], rfl, by with_reducible assumption, by with_reducible assumption, fun p hp => ?_, fun _ p hp => (by cases hp), _, congrArg (fun z => Value.int z _) (?_ : _ = Array.getD _ _ _)⟩
                · repeat (first | exact hp | refine List.mem_cons_of_mem _ ?_)
                · exact ex.symm
              · intro g7
                refine done3 ⟨_, rfl⟩ fun DP y0 y1 y2 h8 tk8 up8 hDX hDX0 => ?_
                dsimp only at up8 hDX0
                have LP : LstAt hb L h8 DP (ints3 f2 y0 y1 y2).toArray := LstAt.ofHeld (Held.new SM.F hDX hDX0)
                have S5 := SM.keep (fr_up SM.F up8) fun b o _ e => up8 b o e
                have C5 := CM.keep fun b o _ e => up8 b o e
                replace U1 := U1.up up8
                replace LU := LU.up up8
                replace LA := LA.up up8
                clear SM CM up8 hDX hDX0 hrow
                obtain ⟨sn, o1, o2, o3, o4, o5, o6, o7, o8, N, KK, c1, c2, c3, c4, c5, c6, c7, c8⟩ := S5.ledger
                have F := S5.F
                (try dsimp only)
                k_steps
                refine StopD.out ?_
                refine grow_ListComp (by with_unfolding_all rfl) (by decide) (by rfl) (by decide) ?_ (by intro _; with_unfolding_all rfl)
                (try dsimp only)
                k_steps
                refine StopD.out ?_
                (rename Fr _ _ _ _ => FF); (rename News _ _ _ _ => NN)
                refine item_prev hi6 (by omega) (C5.V2.keep (KK _ _ _ FF NN (fun p hp => by repeat (first | exact hp | refine List.mem_cons_of_mem _ ?_)))).isList ?_ (by with_unfolding_all rfl) (by intro _; with_unfolding_all rfl)
                (try dsimp only)
                k_steps
                refine StopD.out ?_
                (rename Fr _ _ _ _ => FF); (rename News _ _ _ _ => NN)
                have kM := KK _ _ _ FF NN (fun p hp => by repeat (first | exact hp | refine List.mem_cons_of_mem _ ?_))
                have SM := S5.keep FF kM
                have CM := C5.keep kM
                replace U1 := U1.keep kM
                replace LU := LU.keep kM
                replace LA := LA.keep kM
                replace LP := LP.keep kM
                clear KK NN FF kM S5 C5 c1 c2 c3 c4 c5 c6 c7 c8
                obtain ⟨ta, tb, tc, hrow⟩ : ∃ ta tb tc, Heap.IsList _ _ (ints3 (cz ((i + 1) % 6)) ta tb tc).toArray := CM.R2.isList (show (i + 1) % 6 < 6 by omega)
                refine LC_list (its := (ints3 (cz ((i + 1) % 6)) ta tb tc).toArray) (R3 f2.1 f2.2.1 f2.2.2) rfl rfl rfl hrow (Nat.le_of_ble_eq_true rfl) ?_ ?_
                · rintro j v C7 h7 tk7 m7 s7 E7 ⟨g7, rfl⟩ hv hn7 hm7 hC7 up7
                  obtain ⟨x, t, rfl, ex⟩ := part_key (f := f2) q2 hv
                  have hcell3 := SM.c3
                  have hcell5 := SM.c5
                  have KX6 := KX.keeps SM.F.keep
                  have T6 := T.keeps SM.F.keep
                  refine elt_g hC7 hn7 up7 fun sn FC NC KC => ?_
                  dsimp only at FC NC hC7 up7
                  clear up7 hn7 hv
                  (try dsimp only)
                  k_steps
                  refine StopD.out ?_
                  (rename Fr _ _ _ _ => FF)
                  refine item_prev hi6 (by omega) (CM.V2.isList.at fun o e => FF.keep _ _ e) ?_ (by with_unfolding_all rfl) (by intro _; with_unfolding_all rfl)
                  (try dsimp only)
                  k_steps
                  refine StopD.out ?_
                  (rename Fr _ _ _ _ => FF); (rename News _ _ _ _ => NN)
                  refine min_list_N rfl FF NN (hrow.at fun o e => FF.keep _ _ e) (ints3_are _ _ _ _) (Nat.zero_lt_succ _) ?_
                  intro h8 M t8 tk8 F8 N8 hM hall
                  obtain rfl := mn3_of hM hall
                  clear FF NN hM hall
                  (try dsimp only)
                  k_steps
                  refine ⟨_, _, _, _, [], rfl, by with_reducible assumption, by with_reducible assumption, fun p hp => ?_, fun _ p hp => (by cases hp), _, congrArg (fun z => Value.int z _) (?_ : _ = Array.getD _ _ _)⟩
                  · repeat (first | exact hp | refine List.mem_cons_of_mem _ ?_)
                  · exact ex.symm
                · intro g7
                  refine done3 ⟨_, rfl⟩ fun DR y0 y1 y2 h8 tk8 up8 hDX hDX0 => ?_
                  dsimp only at up8 hDX0
                  have LR : LstAt hb L h8 DR (ints3 f2 y0 y1 y2).toArray := LstAt.ofHeld (Held.new SM.F hDX hDX0)
                  have S5 := SM.keep (fr_up SM.F up8) fun b o _ e => up8 b o e
                  have C5 := CM.keep fun b o _ e => up8 b o e
                  replace U1 := U1.up up8
                  replace LU := LU.up up8
                  replace LA := LA.up up8
                  replace LP := LP.up up8
                  clear SM CM up8 hDX hDX0 hrow
                  obtain ⟨sn, o1, o2, o3, o4, o5, o6, o7, o8, N, KK, c1, c2, c3, c4, c5, c6, c7, c8⟩ := S5.ledger
                  have F := S5.F
                  (try dsimp only)
                  k_steps
                  refine StopD.out ?_
                  (rename Fr _ _ _ _ => FF); (rename News _ _ _ _ => NN)
                  have kM := KK _ _ _ FF NN (fun p hp => by repeat (first | exact hp | refine List.mem_cons_of_mem _ ?_))
                  refine same3 (LP.keep kM).isList (LR.keep kM).isList (by show un + 64 < cLine; omega) ?_
                  clear kM
                  (try dsimp only)
                  k_steps
                  exact hQ _ _ C5.X ⟨_, _, _, S5, C5.V1, C5.R1, C5.V2, C5.R2, U1⟩
        · clear SZ V1 R1 V2 R2 U1 hRZ
          intro h tk hJ
          obtain ⟨x5, x7, x8, S1, V1, R1, V2, R2, U1⟩ := hJ
          have F := S1.F
          (try dsimp only)
          k_steps
          exact hret _ _ _ S1.F
end
end Mine
end

section
open PySem PySem.W PyProof.Rows PySem.Calls
set_option maxRecDepth 100000 in
set_option maxHeartbeats 8000000 in
theorem PySem.Challenge.cw_ta0002_01_holds : PySem.Challenge.rw_ta0002_01.Holds := by
  refine Mine.hd ?_
  k_go0
  (rename Fr _ _ _ _ => F0); (rename News _ _ _ _ => N0); (rename Below _ _ _ _ => K0); (rename Top _ _ _ _ _ _ => T0); (rename Frag.In _ _ => KX0); (rename IntsAre _ _ => I0); (rename Heap.IsList _ _ _ => L0)
  refine' wpAny_mono (Mine.law_body (ho := ?ho) K0 F0 KX0 T0 ?hdp ?hun L0 I0 ?hlen ?c1 ?c2 ?c3 ?c4 ?c5 ?c6 ?c7 ?c8 N0 ?hret) (fun _ _ q => q) (fun _ _ e => e.elim)
  case ho =>
    refine' Eq.trans ?zz1 ?zz2
    case zz1 => k_is
    case zz2 => with_unfolding_all rfl
  case hdp => decide
  case hun => decide
  case hlen => omega
  case hret =>
    intro h' tk' m' F1
    k_steps
  all_goals (with_unfolding_all assumption)
end

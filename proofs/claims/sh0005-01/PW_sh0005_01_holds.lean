import PyProof.Rows.All
import Wide.All
import OpenK.AllK
import Wide.FinOn
import Lean
import PySem.Challenge.RW_sh0005_01
open PySem PySem.W PyProof.Rows
set_option Elab.async false
set_option linter.all false

/-! part Hd -/
namespace Mine
set_option maxRecDepth 100000 in
set_option maxHeartbeats 8000000 in
open_top hd for PySem.Challenge.rw_sh0005_01
end Mine

/-! part CB -/
namespace Mine
theorem calmCB : True := by
  w_top off
  trivial
open PySem.Flt
open PySem.Calls
/-- the running best of three -/
noncomputable def pick3 (bt : UInt64 → UInt64 → Bool) (a b c : UInt64) : UInt64 :=
  if bt b a then (if bt c b then c else b) else (if bt c a then c else a)
noncomputable def max3F (a b c : UInt64) : UInt64 := pick3 gtB a b c
noncomputable def min3F (a b c : UInt64) : UInt64 := pick3 ltB a b c

section
variable {prog : Program} {w : World} {A : Around} {E : Value → Shared → Prop} {s : Shared} {h₀ : Heap} {L : Addr} {m : Str → Option Value} {news : List (Addr × Obj)}

theorem best_three {bt : Nat → Nat → Bool} {e : UInt64 → UInt64 → Bool} {a b c : UInt64} {t u x : Tok} {v : Value} (h10 : bt 1 0 = e b a) (h20 : bt 2 0 = e c a) (h21 : bt 2 1 = e c b)
    (hP : (#[Value.float a t, .float b u, .float c x])[argBest bt 2]? = some v) : ∃ k, v = .float (pick3 e a b c) k := by
  have e1 : argBest bt 1 = if bt 1 0 = true then 1 else 0 := rfl
  have e2 : argBest bt 2 = if bt 2 (argBest bt 1) = true then 2 else argBest bt 1 := rfl
  unfold pick3
  by_cases g1 : bt 1 0 = true
  · rw [if_pos g1] at e1
    rw [e1] at e2
    rw [if_pos (h10 ▸ g1)]
    by_cases g2 : bt 2 1 = true
    · rw [if_pos g2] at e2
      rw [e2] at hP
      rw [if_pos (h21 ▸ g2)]
      exact ⟨x, (Option.some.inj hP).symm⟩
    · rw [if_neg g2] at e2
      rw [e2] at hP
      rw [if_neg (h21 ▸ g2)]
      exact ⟨u, (Option.some.inj hP).symm⟩
  · rw [if_neg g1] at e1
    rw [e1] at e2
    rw [if_neg (h10 ▸ g1)]
    by_cases g2 : bt 2 0 = true
    · rw [if_pos g2] at e2
      rw [e2] at hP
      rw [if_pos (h20 ▸ g2)]
      exact ⟨x, (Option.some.inj hP).symm⟩
    · rw [if_neg g2] at e2
      rw [e2] at hP
      rw [if_neg (h20 ▸ g2)]
      exact ⟨t, (Option.some.inj hP).symm⟩

theorem three_iter {op : CmpOp} {bt : Nat → Nat → Bool} {e : UInt64 → UInt64 → Bool} {a b c : UInt64} {t u x : Tok} {Q : Value → Shared → Prop} (hh : A.handled = none)
    (C : CmpOf prog w A.in1 op (fun i v => (#[Value.float a t, .float b u, .float c x])[i]? = some v) bt) (h10 : bt 1 0 = e b a) (h20 : bt 2 0 = e c a) (h21 : bt 2 1 = e c b)
    (F : Fr h₀ L s.heap m) (N : News h₀ L s.heap news)
    (h : ∀ h' tk k, Fr h₀ L h' m → News h₀ L h' news → Q (.float (pick3 e a b c) k) { s with heap := h', toks := tk }) :
    wpAny (model prog w) A.in1 (pyIter (.ref s.heap.objs.size)) (fun it s₂ => ∃ I fp wr n P St bt, it = .ref I ∧ Walks prog w A.in1 I fp wr n P St ∧ St 0 s₂.heap ∧ (∀ b ∈ fp, b < s₂.heap.objs.size) ∧ 0 < n ∧ CmpOf prog w A.in1 op P bt ∧
      ∀ v h' tk, P (argBest bt (n - 1)) v → (∀ b o, b ∉ wr → s₂.heap.get? b = some o → h'.get? b = some o) → Q v { s₂ with heap := h', toks := tk }) E
      { s with heap := s.heap.push { cls := .type "tuple", data := .seq #[.float a t, .float b u, .float c x] } } := by
  have hT : (s.heap.push { cls := .type "tuple", data := .seq #[.float a t, .float b u, .float c x] }).IsTuple s.heap.objs.size #[.float a t, .float b u, .float c x] := ⟨_, Heap.get?_push_size _ rfl, rfl, 0, rfl⟩
  refine wpAny_pyIter_tuple hT ?_
  have hsz : (s.heap.push { cls := .type "tuple", data := .seq #[.float a t, .float b u, .float c x] }).objs.size = s.heap.objs.size + 1 := Heap.size_push ..
  refine ⟨_, [_, s.heap.objs.size], [_], _, _, _, _, rfl, Walks.tuple (A := A.in1) hh _ s.heap.objs.size (by rw [hsz]; exact Nat.ne_of_lt (Nat.lt_succ_self _)) #[.float a t, .float b u, .float c x],
    ⟨⟨_, Heap.get?_push_size _ rfl, rfl, rfl⟩, hT.push _⟩, fun d hd => ?_, Nat.zero_lt_succ 2, C, fun v h' tk hP hk => ?_⟩
  · show d < ((s.heap.push _).push _).objs.size
    rw [Heap.size_push, hsz]
    rcases List.mem_cons.mp hd with rfl | hd
    · rw [hsz]; exact Nat.lt_succ_self _
    · rcases List.mem_cons.mp hd with rfl | hd
      · exact Nat.lt_succ_of_lt (Nat.lt_succ_self _)
      · cases hd
  · have hold : ∀ d o, s.heap.get? d = some o → h'.get? d = some o := fun d o e => by
      refine hk d o (fun hm => ?_) (Heap.get?_push_of_some _ (Heap.get?_push_of_some _ e))
      rcases List.mem_cons.mp hm with e1 | hm
      · have := Heap.lt_size e; rw [e1, hsz] at this; exact Nat.lt_irrefl _ (Nat.lt_of_succ_lt this)
      · cases hm
    obtain ⟨k, rfl⟩ := best_three h10 h20 h21 hP
    exact h h' tk k (F.grownK hold) (N.grown hold)

theorem three_num {a b c : UInt64} {t u x : Tok} : ∀ v ∈ (#[Value.float a t, .float b u, .float c x] : Array Value), NumV v := by
  intro v hv
  rcases List.mem_cons.mp (Array.mem_toList_iff.mpr hv) with rfl | hv
  · exact .float _ _
  rcases List.mem_cons.mp hv with rfl | hv
  · exact .float _ _
  rcases List.mem_cons.mp hv with rfl | hv
  · exact .float _ _
  cases hv

theorem max_three_f {a b c : UInt64} {t u x : Tok} {Q : Value → Shared → Prop} (hh : A.handled = none) (F : Fr h₀ L s.heap m) (N : News h₀ L s.heap news)
    (h : ∀ h' tk k, Fr h₀ L h' m → News h₀ L h' news → Q (.float (max3F a b c) k) { s with heap := h', toks := tk }) :
    wpAny (model prog w) A (call (.builtin "max") [.float a t, .float b u, .float c x]) Q E s :=
  call_max_three (three_iter hh (cmpOf_gt _ three_num) rfl rfl rfl F N h)

theorem min_three_f {a b c : UInt64} {t u x : Tok} {Q : Value → Shared → Prop} (hh : A.handled = none) (F : Fr h₀ L s.heap m) (N : News h₀ L s.heap news)
    (h : ∀ h' tk k, Fr h₀ L h' m → News h₀ L h' news → Q (.float (min3F a b c) k) { s with heap := h', toks := tk }) :
    wpAny (model prog w) A (call (.builtin "min") [.float a t, .float b u, .float c x]) Q E s :=
  call_min_three (three_iter hh (cmpOf_lt _ three_num) rfl rfl rfl F N h)
end

noncomputable abbrev tup3 (a b c : Value) (n : Nat) : Obj := { cls := .type "tuple", data := .seq #[a, b, c] n }
noncomputable abbrev tup2 (a b : Value) (n : Nat) : Obj := { cls := .type "tuple", data := .seq #[a, b] n }

noncomputable abbrev Kont := (h₀ : Heap) → (L : Addr) → (m : Str → Option Value) → (news : List (Addr × Obj)) → (s : Shared) → (Q : Value → Shared → Prop) → Prop

/-- a new tuple of three floats is handed back -/
noncomputable abbrev Ret3 (t : UInt64 × UInt64 × UInt64) : Kont := fun h₀ L m news s Q =>
  ∀ (D : Addr) (t1 t2 t3 : Tok) (n : Nat) (h' : Heap) (tk' : Nat), Fr h₀ L h' m → News h₀ L h' ((D, tup3 (.float t.1 t1) (.float t.2.1 t2) (.float t.2.2 t3) n) :: news) → (∀ p ∈ news, p.1 < D) →
    Q (.ref D) { s with heap := h', toks := tk' }
noncomputable abbrev RetF (a : UInt64) : Kont := fun h₀ L m news s Q =>
  ∀ (t : Tok) (h' : Heap) (tk' : Nat), Fr h₀ L h' m → News h₀ L h' news → Q (.float a t) { s with heap := h', toks := tk' }
noncomputable abbrev RetI (a : Int) : Kont := fun h₀ L m news s Q =>
  ∀ (t : Tok) (h' : Heap) (tk' : Nat), Fr h₀ L h' m → News h₀ L h' news → Q (.int a t) { s with heap := h', toks := tk' }
noncomputable abbrev RetB (a : Bool) : Kont := fun h₀ L m news s Q =>
  ∀ (h' : Heap) (tk' : Nat), Fr h₀ L h' m → News h₀ L h' news → Q (.bool a) { s with heap := h', toks := tk' }

/-- what a call of the def at f gives; k: how deep it goes -/
noncomputable abbrev Claim (k : Nat) (f : Addr) (vs : List Value) (R : Kont) : Prop :=
  ∀ (w : World) (p : Program) (loose : List Str) (mean : ExcName → Option Value) (mg mb : Str → Option Value) (dp un : Nat) (gd : Option (List Code)) (cn : Str) (cs : Scope) (a : Addr) (ccd : Value) (cl : List (Str × Addr)) (outer : List Env) (A₀ : Around) (base h₀ : Heap) (L : Addr) (m : Str → Option Value) (news : List (Addr × Obj)) (s : Shared) (Q E : Value → Shared → Prop),
    Below A₀ base outer h₀ → Fr h₀ L s.heap m → (hd.heap_39 w.params).In h₀ → News h₀ L s.heap news → Top p loose mean mg mb h₀ → cs.kind = .function →
    dp + 4 * k < recursionLimit → un + 32 * k < cLine → R h₀ L m news s Q →
      wpAny (model (PySem.Challenge.rw_sh0005_01).row.prog w) (ktrTop dp un gd cn cs L a ccd cl outer) (call (.ref f) vs) Q E s

theorem use_claim {k : Nat} {f f' : Addr} {vs vs' : List Value} {R : Kont} (C : Claim k f' vs' R) (hf : f' = f) (hv : vs' = vs) {w : World} {p : Program} {loose : List Str} {mean : ExcName → Option Value} {mg mb : Str → Option Value} {dp un : Nat} {gd : Option (List Code)} {cn : Str} {cs : Scope} {a : Addr} {ccd : Value} {cl : List (Str × Addr)} {outer : List Env} {A₀ : Around} {base h₀ : Heap} {L : Addr} {m : Str → Option Value} {news : List (Addr × Obj)} {s : Shared} {Q E : Value → Shared → Prop}
    (k1 : Below A₀ base outer h₀) (k2 : Fr h₀ L s.heap m) (k3 : (hd.heap_39 w.params).In h₀) (k4 : News h₀ L s.heap news) (k5 : Top p loose mean mg mb h₀) (k6 : cs.kind = .function) (k7 : dp + 4 * k < recursionLimit) (k8 : un + 32 * k < cLine) (r : R h₀ L m news s Q) :
    wpAny (model (PySem.Challenge.rw_sh0005_01).row.prog w) (ktrTop dp un gd cn cs L a ccd cl outer) (call (.ref f) vs) Q E s := by
  subst hf hv
  exact C w p loose mean mg mb dp un gd cn cs a ccd cl outer A₀ base h₀ L m news s Q E k1 k2 k3 k4 k5 k6 k7 k8 r

section
variable {h₀ h' : Heap} {L D : Addr} {m : Str → Option Value} {news : List (Addr × Obj)} {s : Shared} {Q : Value → Shared → Prop} {t t1 t2 t3 : Tok} {tk' n : Nat}
theorem ret3_of {r : UInt64 × UInt64 × UInt64} {a b c : UInt64} (hret : Ret3 r h₀ L m news s Q) (F : Fr h₀ L h' m) (N : News h₀ L h' ((D, tup3 (.float a t1) (.float b t2) (.float c t3) n) :: news)) (l : ∀ p ∈ news, p.1 < D) (e : r = (a, b, c)) : Q (.ref D) { s with heap := h', toks := tk' } := by
  subst e; exact hret _ _ _ _ _ _ _ F N l
theorem retF_of {r a : UInt64} (hret : RetF r h₀ L m news s Q) (F : Fr h₀ L h' m) (N : News h₀ L h' news) (e : r = a) : Q (.float a t) { s with heap := h', toks := tk' } := by
  subst e; exact hret _ _ _ F N
theorem retI_of {r a : Int} (hret : RetI r h₀ L m news s Q) (F : Fr h₀ L h' m) (N : News h₀ L h' news) (e : r = a) : Q (.int a t) { s with heap := h', toks := tk' } := by
  subst e; exact hret _ _ _ F N
theorem retB_of {r a : Bool} (hret : RetB r h₀ L m news s Q) (F : Fr h₀ L h' m) (N : News h₀ L h' news) (e : r = a) : Q (.bool a) { s with heap := h', toks := tk' } := by
  subst e; exact hret _ _ F N
end

/-! the program's functions over floats -/
noncomputable def modF (x : UInt64) : UInt64 := (Float64.divmod x 4607182418800017408).2
noncomputable def ltF (x y : UInt64) : Bool := Float64.cmp x y == some .lt
noncomputable def eqF (x y : UInt64) : Bool := Float64.cmp x y == some .eq
noncomputable def gtF (x y : UInt64) : Bool := Float64.cmp x y == some .gt
noncomputable def leF (x y : UInt64) : Bool := Float64.cmp x y == some .lt || Float64.cmp x y == some .eq

noncomputable def yiqF (r g b : UInt64) : UInt64 × UInt64 × UInt64 :=
  let y := Float64.add (Float64.add (Float64.mul 4599075939470750515 r) (Float64.mul 4603489467105573601 g)) (Float64.mul 4592590756007337001 b)
  (y, Float64.sub (Float64.mul 4604840546993784750 (Float64.sub r y)) (Float64.mul 4598535507515466056 (Float64.sub b y)),
    Float64.add (Float64.mul 4602318531202457272 (Float64.sub r y)) (Float64.mul 4601057523306793533 (Float64.sub b y)))

noncomputable def hueRaw (r g b mx rng : UInt64) : UInt64 :=
  if eqF r mx then Float64.sub (Float64.div (Float64.sub mx b) rng) (Float64.div (Float64.sub mx g) rng)
  else if eqF g mx then Float64.sub (Float64.add 4611686018427387904 (Float64.div (Float64.sub mx r) rng)) (Float64.div (Float64.sub mx b) rng)
  else Float64.sub (Float64.add 4616189618054758400 (Float64.div (Float64.sub mx g) rng)) (Float64.div (Float64.sub mx r) rng)
noncomputable def hueF (r g b mx rng : UInt64) : UInt64 := modF (Float64.div (hueRaw r g b mx rng) 4618441417868443648)

noncomputable def hsvF (r g b : UInt64) : UInt64 × UInt64 × UInt64 :=
  if eqF (min3F r g b) (max3F r g b) then (0, 0, max3F r g b)
  else (hueF r g b (max3F r g b) (Float64.sub (max3F r g b) (min3F r g b)), Float64.div (Float64.sub (max3F r g b) (min3F r g b)) (max3F r g b), max3F r g b)

noncomputable def lightF (r g b : UInt64) : UInt64 := Float64.div (Float64.add (max3F r g b) (min3F r g b)) 4611686018427387904
noncomputable def hlsF (r g b : UInt64) : UInt64 × UInt64 × UInt64 :=
  if eqF (min3F r g b) (max3F r g b) then (0, lightF r g b, 0)
  else (hueF r g b (max3F r g b) (Float64.sub (max3F r g b) (min3F r g b)), lightF r g b,
    if leF (lightF r g b) 4602678819172646912 then Float64.div (Float64.sub (max3F r g b) (min3F r g b)) (Float64.add (max3F r g b) (min3F r g b))
    else Float64.div (Float64.sub (max3F r g b) (min3F r g b)) (Float64.sub (Float64.sub 4611686018427387904 (max3F r g b)) (min3F r g b)))

noncomputable def vF (m1 m2 hue : UInt64) : UInt64 :=
  if ltF (modF hue) 4595172819793696085 then Float64.add m1 (Float64.mul (Float64.mul (Float64.sub m2 m1) (modF hue)) 4618441417868443648)
  else if ltF (modF hue) 4602678819172646912 then m2
  else if ltF (modF hue) 4604180019048437077 then Float64.add m1 (Float64.mul (Float64.mul (Float64.sub m2 m1) (Float64.sub 4604180019048437077 (modF hue))) 4618441417868443648)
  else m1
noncomputable def m2F (l s : UInt64) : UInt64 := if leF l 4602678819172646912 then Float64.mul l (Float64.add 4607182418800017408 s) else Float64.sub (Float64.add l s) (Float64.mul l s)
noncomputable def m1F (l s : UInt64) : UInt64 := Float64.sub (Float64.mul 4611686018427387904 l) (m2F l s)
noncomputable def hlsrF (h l s : UInt64) : UInt64 × UInt64 × UInt64 :=
  if eqF s 0 then (l, l, l)
  else (vF (m1F l s) (m2F l s) (Float64.add h 4599676419421066581), vF (m1F l s) (m2F l s) h, vF (m1F l s) (m2F l s) (Float64.sub h 4599676419421066581))

noncomputable def hsvrI (h : UInt64) : Int := toInt Float64.truncOf (Float64.mul h 4618441417868443648)
noncomputable def fracF (h : UInt64) : UInt64 := Float64.sub (Float64.mul h 4618441417868443648) (Float64.ofInt (hsvrI h))
noncomputable def pF (s v : UInt64) : UInt64 := Float64.mul v (Float64.sub 4607182418800017408 s)
noncomputable def qF (h s v : UInt64) : UInt64 := Float64.mul v (Float64.sub 4607182418800017408 (Float64.mul s (fracF h)))
noncomputable def tF (h s v : UInt64) : UInt64 := Float64.mul v (Float64.sub 4607182418800017408 (Float64.mul s (Float64.sub 4607182418800017408 (fracF h))))
noncomputable def hsvrF (h s v : UInt64) : UInt64 × UInt64 × UInt64 :=
  if eqF s 0 then (v, v, v)
  else if (hsvrI h).fmod 6 = 0 then (v, tF h s v, pF s v)
  else if (hsvrI h).fmod 6 = 1 then (qF h s v, v, pF s v)
  else if (hsvrI h).fmod 6 = 2 then (pF s v, v, tF h s v)
  else if (hsvrI h).fmod 6 = 3 then (pF s v, qF h s v, v)
  else if (hsvrI h).fmod 6 = 4 then (tF h s v, pF s v, v)
  else (v, pF s v, qF h s v)

noncomputable def clampF (x : UInt64) : UInt64 := if gtF (if ltF x 0 then 0 else x) 4607182418800017408 then 4607182418800017408 else if ltF x 0 then 0 else x
noncomputable def yR (y i q : UInt64) : UInt64 := Float64.add (Float64.add y (Float64.mul 4606703976345377586 i)) (Float64.mul 4603791717925830846 q)
noncomputable def yG (y i q : UInt64) : UInt64 := Float64.sub (Float64.sub y (Float64.mul 4598621754083818298 i)) (Float64.mul 4603901015759978483 q)
noncomputable def yB (y i q : UInt64) : UInt64 := Float64.add (Float64.sub y (Float64.mul 4607671262177584182 i)) (Float64.mul 4610375502138591871 q)
noncomputable def yiqrF (y i q : UInt64) : UInt64 × UInt64 × UInt64 := (clampF (yR y i q), clampF (yG y i q), clampF (yB y i q))

noncomputable def farFF (x y : UInt64) : Bool := Float64.cmp (Float64.abs (Float64.sub x y)) 4517329193108106637 == some .gt
noncomputable def farFI (x : UInt64) (y : Int) : Bool := farFF x (Float64.ofInt y)
noncomputable def crossF (a b c d : UInt64) : UInt64 := Float64.sub (Float64.mul a d) (Float64.mul c b)
noncomputable def crossI (a b c d : Int) : Int := a * d - c * b
noncomputable def signI (x : Int) : Int := if 0 < x then 1 else if x < 0 then -1 else 0
noncomputable def signF (x : UInt64) : Int := if Float64.cmpInt x 0 == some .gt then 1 else if Float64.cmpInt x 0 == some .lt then -1 else 0
noncomputable def lowerI (a b : Int) : Bool := decide (b < 0) || (decide (b = 0) && decide (a < 0))
noncomputable def orderI (a b c d : Int) : Int := if lowerI a b = lowerI c d then signI (crossI a b c d) else if lowerI c d then 1 else -1
theorem not_big {n : Nat} (h : 2 ^ 1024 - 2 ^ 970 ≤ n) (hn : n ≤ 1000000) : False := absurd (Nat.le_trans h hn) (by decide +kernel)
theorem six_nat {P : Nat → Prop} (h0 : P 0) (h1 : P 1) (h2 : P 2) (h3 : P 3) (h4 : P 4) (h5 : P 5) : ∀ n, n ≤ 5 → P n
  | 0, _ => h0
  | 1, _ => h1
  | 2, _ => h2
  | 3, _ => h3
  | 4, _ => h4
  | 5, _ => h5
  | n + 6, h => absurd (Nat.le_trans (Nat.le_add_left 6 n) h) (by decide)
theorem six_int {P : Int → Prop} (h0 : P 0) (h1 : P 1) (h2 : P 2) (h3 : P 3) (h4 : P 4) (h5 : P 5) {i : Int} (l : 0 ≤ i) (u : i ≤ 5) : P i := by
  obtain ⟨n, rfl⟩ := Int.eq_ofNat_of_zero_le l
  exact six_nat (P := fun n => P (n : Int)) h0 h1 h2 h3 h4 h5 n (Int.ofNat_le.mp u)
theorem six_absurd {i : Int} (l : 0 ≤ i) (u : i ≤ 5) (a : i.fmod 6 ≠ 0) (b : i.fmod 6 ≠ 1) (c : i.fmod 6 ≠ 2) (d : i.fmod 6 ≠ 3) (e : i.fmod 6 ≠ 4) (f : i.fmod 6 ≠ 5) : False :=
  six_int (P := fun i => i.fmod 6 ≠ 0 → i.fmod 6 ≠ 1 → i.fmod 6 ≠ 2 → i.fmod 6 ≠ 3 → i.fmod 6 ≠ 4 → i.fmod 6 ≠ 5 → False)
    (fun h _ _ _ _ _ => h rfl) (fun _ h _ _ _ _ => h rfl) (fun _ _ h _ _ _ => h rfl) (fun _ _ _ h _ _ => h rfl) (fun _ _ _ _ h _ => h rfl) (fun _ _ _ _ _ h => h rfl) l u a b c d e f

theorem more_news {h₀ h : Heap} {L : Addr} {news : List (Addr × Obj)} {p : Addr × Obj} (N : News h₀ L h news) (hp : p ∈ news) : News h₀ L h (p :: news) := fun q hq => by
  rcases List.mem_cons.mp hq with rfl | hq
  · exact N _ hp
  · exact N q hq
theorem less_news {h₀ h : Heap} {L : Addr} {news : List (Addr × Obj)} {p : Addr × Obj} (N : News h₀ L h (p :: news)) : News h₀ L h news := fun q hq => N q (.tail _ hq)
/-- a pair of floats, of ints, in the ledger -/
noncomputable abbrev PairF (news : List (Addr × Obj)) (D : Addr) (a b : UInt64) : Prop := ∃ (t1 t2 : Tok) (n : Nat), (D, tup2 (.float a t1) (.float b t2) n) ∈ news
noncomputable abbrev PairI (news : List (Addr × Obj)) (D : Addr) (a b : Int) : Prop := ∃ (t1 t2 : Tok) (n : Nat), (D, tup2 (.int a t1) (.int b t2) n) ∈ news
end Mine

/-! part C1 -/
namespace Mine
theorem calmC1 : True := by
  w_top off
  trivial
open PySem.Flt
local macro_rules | `(tactic| walk_at "call builtin:max") => `(tactic| ((with_reducible show wpAny _ _ (call _ [Value.float _ _, Value.float _ _, Value.float _ _]) _ _ _); (rename News _ _ _ _ => N'); (rename Fr _ _ _ _ => F'); refine max_three_f rfl F' N' ?_; clear N'; intro _ _ _ _ _))
local macro_rules | `(tactic| walk_at "call builtin:min") => `(tactic| ((with_reducible show wpAny _ _ (call _ [Value.float _ _, Value.float _ _, Value.float _ _]) _ _ _); (rename News _ _ _ _ => N'); (rename Fr _ _ _ _ => F'); refine min_three_f rfl F' N' ?_; clear N'; intro _ _ _ _ _))

set_option maxRecDepth 100000 in
set_option maxHeartbeats 8000000 in
theorem yiq_call (r g b : UInt64) (t1 t2 t3 : Tok) : Claim 1 21 [.float r t1, .float g t2, .float b t3] (Ret3 (yiqF r g b)) := by
  unfold Claim
  k_fill
  intro w p loose mean mg mb dp un gd cn cs a ccd cl outer A₀ base h₀ L m news s Q E B F X N T hk hd hu hret
  refine wpAny_call ?_
  k_dflt cell_enter
  k_steps
  all_goals (refine' ret3_of hret ?F ?N ?l ?e; (case F => k_asm); (case N => k_asm); (case l => assumption); (case e => rfl))

set_option maxRecDepth 100000 in
set_option maxHeartbeats 8000000 in
theorem v_call (r g b : UInt64) (t1 t2 t3 : Tok) : Claim 1 49 [.float r t1, .float g t2, .float b t3] (RetF (vF r g b)) := by
  unfold Claim
  k_fill
  intro w p loose mean mg mb dp un gd cn cs a ccd cl outer A₀ base h₀ L m news s Q E B F X N T hk hd hu hret
  refine wpAny_call ?_
  k_dflt cell_enter
  k_steps
  all_goals (refine' retF_of hret ?F ?N ?e; (case F => k_asm); (case N => k_asm); (case e => (unfold vF ltF modF; simp [*])))

set_option maxRecDepth 100000 in
set_option maxHeartbeats 8000000 in
theorem hsv_call (r g b : UInt64) (t1 t2 t3 : Tok) (H : eqF (min3F r g b) (max3F r g b) = false → Float64.isZero (max3F r g b) = false ∧ Float64.isZero (Float64.sub (max3F r g b) (min3F r g b)) = false) : Claim 1 56 [.float r t1, .float g t2, .float b t3] (Ret3 (hsvF r g b)) := by
  unfold Claim
  k_fill
  intro w p loose mean mg mb dp un gd cn cs a ccd cl outer A₀ base h₀ L m news s Q E B F X N T hk hd hu hret
  unfold eqF at H
  refine wpAny_call ?_
  k_dflt cell_enter
  k_steps
  all_goals (refine' ret3_of hret ?F ?N ?l ?e; (case F => k_asm); (case N => k_asm); (case l => assumption); (case e => (unfold hsvF hueF hueRaw modF eqF; simp [*])))

set_option maxRecDepth 100000 in
set_option maxHeartbeats 8000000 in
theorem hls_call (r g b : UInt64) (t1 t2 t3 : Tok) (H : eqF (min3F r g b) (max3F r g b) = false → Float64.isZero (Float64.sub (max3F r g b) (min3F r g b)) = false ∧ Float64.isZero (Float64.add (max3F r g b) (min3F r g b)) = false ∧ (leF (lightF r g b) 4602678819172646912 = false → Float64.isZero (Float64.sub (Float64.sub 4611686018427387904 (max3F r g b)) (min3F r g b)) = false)) : Claim 1 35 [.float r t1, .float g t2, .float b t3] (Ret3 (hlsF r g b)) := by
  unfold Claim
  k_fill
  intro w p loose mean mg mb dp un gd cn cs a ccd cl outer A₀ base h₀ L m news s Q E B F X N T hk hd hu hret
  unfold eqF leF lightF at H
  refine wpAny_call ?_
  k_dflt cell_enter
  k_steps
  all_goals first | (refine' ret3_of hret ?F ?N ?l ?e; (case F => k_asm); (case N => k_asm); (case l => assumption); (case e => (unfold hlsF hueF hueRaw lightF modF eqF leF; simp [*]))) | (exfalso; simp_all)

set_option maxRecDepth 100000 in
set_option maxHeartbeats 8000000 in
theorem hsvr_call (r g b : UInt64) (t1 t2 t3 : Tok) (H : eqF g 0 = false → Float64.isFinite (Float64.mul r 4618441417868443648) = true ∧ 0 ≤ hsvrI r ∧ hsvrI r ≤ 5) : Claim 1 63 [.float r t1, .float g t2, .float b t3] (Ret3 (hsvrF r g b)) := by
  unfold Claim
  k_fill
  intro w p loose mean mg mb dp un gd cn cs a ccd cl outer A₀ base h₀ L m news s Q E B F X N T hk hd hu hret
  unfold eqF hsvrI at H
  refine wpAny_call ?_
  k_dflt cell_enter
  k_steps
  all_goals first | (refine' ret3_of hret ?F ?N ?l ?e; (case F => k_asm); (case N => k_asm); (case l => assumption); (case e => (unfold hsvrF; simp only [hsvrI, tF, pF, qF, fracF, eqF]; simp [*]))) | (have h1 := H (by assumption); exfalso; first | exact not_big (by assumption) (by omega) | exact six_absurd h1.2.1 h1.2.2 (by assumption) (by assumption) (by assumption) (by assumption) (by assumption) (by assumption))

set_option maxRecDepth 100000 in
set_option maxHeartbeats 8000000 in
theorem far_ff (x y : UInt64) (t1 t2 : Tok) : Claim 1 70 [.float x t1, .float y t2] (RetB (farFF x y)) := by
  unfold Claim
  k_fill
  intro w p loose mean mg mb dp un gd cn cs a ccd cl outer A₀ base h₀ L m news s Q E B F X N T hk hd hu hret
  refine wpAny_call ?_
  k_dflt cell_enter
  k_steps
  all_goals (refine' retB_of hret ?F ?N ?e; (case F => k_asm); (case N => k_asm); (case e => (unfold farFF; rfl)))

set_option maxRecDepth 100000 in
set_option maxHeartbeats 8000000 in
theorem far_fi (x : UInt64) (y : Int) (t1 t2 : Tok) (hy : y.natAbs < 1000000) : Claim 1 70 [.float x t1, .int y t2] (RetB (farFI x y)) := by
  unfold Claim
  k_fill
  intro w p loose mean mg mb dp un gd cn cs a ccd cl outer A₀ base h₀ L m news s Q E B F X N T hk hd hu hret
  refine wpAny_call ?_
  k_dflt cell_enter
  k_steps
  all_goals first | (refine' retB_of hret ?F ?N ?e; (case F => k_asm); (case N => k_asm); (case e => (unfold farFI farFF; rfl))) | (exfalso; exact not_big (by assumption) (by omega))

set_option maxRecDepth 100000 in
set_option maxHeartbeats 8000000 in
theorem sign_f (x : UInt64) (t1 : Tok) : Claim 1 84 [.float x t1] (RetI (signF x)) := by
  unfold Claim
  k_fill
  intro w p loose mean mg mb dp un gd cn cs a ccd cl outer A₀ base h₀ L m news s Q E B F X N T hk hd hu hret
  refine wpAny_call ?_
  k_dflt cell_enter
  k_steps
  all_goals (refine' retI_of hret ?F ?N ?e; (case F => k_asm); (case N => k_asm); (case e => (unfold signF; simp [*])))

set_option maxRecDepth 100000 in
set_option maxHeartbeats 8000000 in
theorem sign_i (x : Int) (t1 : Tok) : Claim 1 84 [.int x t1] (RetI (signI x)) := by
  unfold Claim
  k_fill
  intro w p loose mean mg mb dp un gd cn cs a ccd cl outer A₀ base h₀ L m news s Q E B F X N T hk hd hu hret
  refine wpAny_call ?_
  k_dflt cell_enter
  k_steps
  all_goals (refine' retI_of hret ?F ?N ?e; (case F => k_asm); (case N => k_asm); (case e => (unfold signI; first | (simp [*]; done) | (repeat' split) <;> omega)))
end Mine

/-! part C2 -/
namespace Mine
theorem calmC2 : True := by
  w_top off
  trivial
open PySem.Flt
local macro_rules | `(tactic| walk_at "call ref") => `(tactic| (k_here; (with_unfolding_all refine' use_claim (v_call _ _ _ _ _ _) rfl rfl ?k1 ?k2 ?k3 ?k4 ?k5 ?k6 ?k7 ?k8 ?_); (case k1 | k2 | k3 | k4 | k5 => k_asm); (case k6 => first | exact rfl | assumption); (case k7 => ktr_room); (case k8 => ktr_units); intro t1' h' tk' F' N'; (try dsimp only); (try k_fold)))

set_option maxRecDepth 100000 in
set_option maxHeartbeats 8000000 in
theorem hlsr_call (r g b : UInt64) (t1 t2 t3 : Tok) : Claim 2 42 [.float r t1, .float g t2, .float b t3] (Ret3 (hlsrF r g b)) := by
  unfold Claim
  k_fill
  intro w p loose mean mg mb dp un gd cn cs a ccd cl outer A₀ base h₀ L m news s Q E B F X N T hk hd hu hret
  refine wpAny_call ?_
  k_dflt cell_enter
  k_steps
  all_goals (refine' ret3_of hret ?F ?N ?l ?e; (case F => k_asm); (case N => k_asm); (case l => assumption); (case e => (unfold hlsrF m1F m2F leF eqF; simp [*])))

set_option maxRecDepth 100000 in
set_option maxHeartbeats 8000000 in
theorem cross_ff (x y : Addr) (a b c d : UInt64) : Claim 1 77 [.ref x, .ref y] (fun h₀ L m news s Q => PairF news x a b ∧ PairF news y c d ∧ RetF (crossF a b c d) h₀ L m news s Q) := by
  unfold Claim
  k_fill
  intro w p loose mean mg mb dp un gd cn cs A ccd cl outer A₀ base h₀ L m news s Q E B F X N T hk hd hu hr
  obtain ⟨⟨t1, t2, n1, h1⟩, ⟨t3, t4, n2, h2⟩, hret⟩ := hr
  have N2 := more_news (more_news N h1) (.tail _ h2)
  clear N h1 h2
  refine wpAny_call ?_
  k_dflt cell_enter
  k_steps
  all_goals (refine' retF_of hret ?F ?N ?e; (case F => k_asm); (case N => exact less_news (less_news (by assumption))); (case e => rfl))

set_option maxRecDepth 100000 in
set_option maxHeartbeats 8000000 in
theorem cross_ii (x y : Addr) (a b c d : Int) (ha : -1000 ≤ a ∧ a ≤ 1000) (hb : -1000 ≤ b ∧ b ≤ 1000) (hc : -1000 ≤ c ∧ c ≤ 1000) (hd' : -1000 ≤ d ∧ d ≤ 1000) : Claim 1 77 [.ref x, .ref y] (fun h₀ L m news s Q => PairI news x a b ∧ PairI news y c d ∧ RetI (crossI a b c d) h₀ L m news s Q) := by
  unfold Claim
  k_fill
  obtain ⟨ha1, ha2⟩ := ha
  obtain ⟨hb1, hb2⟩ := hb
  obtain ⟨hc1, hc2⟩ := hc
  obtain ⟨hd1, hd2⟩ := hd'
  intro w p loose mean mg mb dp un gd cn cs A ccd cl outer A₀ base h₀ L m news s Q E B F X N T hk hd hu hr
  obtain ⟨⟨t1, t2, n1, h1⟩, ⟨t3, t4, n2, h2⟩, hret⟩ := hr
  have N2 := more_news (more_news N h1) (.tail _ h2)
  clear N h1 h2
  refine wpAny_call ?_
  k_dflt cell_enter
  k_steps
  all_goals (refine' retI_of hret ?F ?N ?e; (case F => k_asm); (case N => exact less_news (less_news (by assumption))); (case e => rfl))

set_option maxRecDepth 100000 in
set_option maxHeartbeats 8000000 in
theorem lower_i (x : Addr) (a b : Int) : Claim 1 91 [.ref x] (fun h₀ L m news s Q => PairI news x a b ∧ RetB (lowerI a b) h₀ L m news s Q) := by
  unfold Claim
  k_fill
  intro w p loose mean mg mb dp un gd cn cs A ccd cl outer A₀ base h₀ L m news s Q E B F X N T hk hd hu hr
  obtain ⟨⟨t1, t2, n1, h1⟩, hret⟩ := hr
  have N2 := more_news N h1
  clear N h1
  refine wpAny_call ?_
  k_dflt cell_enter
  k_steps
  all_goals (refine' retB_of hret ?F ?N ?e; (case F => k_asm); (case N => exact less_news (by assumption)); (case e => (unfold lowerI; simp [*])))

/-! part C3 -/
theorem calmC3 : True := by
  w_top off
  trivial
open PySem.Flt
local macro_rules | `(tactic| walk_at "call ref") => `(tactic| (k_here; (first | (with_unfolding_all refine' use_claim (lower_i _ _ _) rfl rfl ?k1 ?k2 ?k3 ?k4 ?k5 ?k6 ?k7 ?k8 ⟨⟨_, _, _, ?m1⟩, ?_⟩) | (with_unfolding_all refine' use_claim (cross_ii _ _ _ _ _ _ ?b1 ?b2 ?b3 ?b4) rfl rfl ?k1 ?k2 ?k3 ?k4 ?k5 ?k6 ?k7 ?k8 ⟨⟨_, _, _, ?m1⟩, ⟨_, _, _, ?m2⟩, ?_⟩) | (with_unfolding_all refine' use_claim (sign_i _ _) rfl rfl ?k1 ?k2 ?k3 ?k4 ?k5 ?k6 ?k7 ?k8 ?_)); (case k1 | k2 | k3 | k4 | k5 => k_asm); (case k6 => first | exact rfl | assumption); (case k7 => ktr_room); (case k8 => ktr_units); (try (case m1 => k_mem)); (try (case m2 => k_mem)); (try ((case b1 | b2 | b3 | b4 => exact ⟨by assumption, by assumption⟩))); (first | intro t1' h' tk' F' N' | intro h' tk' F' N'); (try dsimp only); (try k_fold)))

set_option maxRecDepth 100000 in
set_option maxHeartbeats 8000000 in
theorem order_i (x y : Addr) (a b c d : Int) (ha : -1000 ≤ a ∧ a ≤ 1000) (hb : -1000 ≤ b ∧ b ≤ 1000) (hc : -1000 ≤ c ∧ c ≤ 1000) (hd' : -1000 ≤ d ∧ d ≤ 1000) : Claim 2 98 [.ref x, .ref y] (fun h₀ L m news s Q => PairI news x a b ∧ PairI news y c d ∧ RetI (orderI a b c d) h₀ L m news s Q) := by
  unfold Claim
  k_fill
  obtain ⟨ha1, ha2⟩ := ha
  obtain ⟨hb1, hb2⟩ := hb
  obtain ⟨hc1, hc2⟩ := hc
  obtain ⟨hd1, hd2⟩ := hd'
  intro w p loose mean mg mb dp un gd cn cs A ccd cl outer A₀ base h₀ L m news s Q E B F X N T hk hd hu hr
  obtain ⟨⟨t1, t2, n1, h1⟩, ⟨t3, t4, n2, h2⟩, hret⟩ := hr
  have N2 := more_news (more_news N h1) (.tail _ h2)
  clear N h1 h2
  refine wpAny_call ?_
  k_dflt cell_enter
  k_steps
  all_goals (refine' retI_of hret ?F ?N ?e; (case F => k_asm); (case N => exact less_news (less_news (by assumption))); (case e => (unfold orderI; simp_all)))

/-! part CY -/
theorem calmCY : True := by
  w_top off
  trivial
open PySem.Flt
noncomputable def fnBody (s : Stmt) : List Stmt := match s with | .FunctionDef _ _ b _ _ _ _ _ _ _ => b | _ => []
noncomputable def fnScope (s : Stmt) : Scope := match s with | .FunctionDef _ _ _ _ _ _ s _ _ _ => s | _ => default
noncomputable def yiqFn : Stmt := PySem.Challenge.pw_sh0005_01.main.body.getD 5 (.Pass ⟨0, 0, 0, 0⟩)
noncomputable def yiqIf (k : Nat) : Stmt := (fnBody yiqFn).getD (3 + k) (.Pass ⟨0, 0, 0, 0⟩)
noncomputable abbrev yiqEnv (L : Addr) : Env := envOf (Str.ofString "yiq_to_rgb") (fnScope yiqFn) L 28 (.ref 27)
noncomputable def loF (x : UInt64) : UInt64 := if ltF x 0 then 0 else x
noncomputable def hiF (x : UInt64) : UInt64 := if gtF x 4607182418800017408 then 4607182418800017408 else x
theorem lo_t {x : UInt64} (h : (Float64.cmp x 0 == some Ordering.lt) = true) : loF x = 0 := if_pos h
theorem lo_f {x : UInt64} (h : (Float64.cmp x 0 == some Ordering.lt) = false) : loF x = x := if_neg (by unfold ltF; rw [h]; decide)
theorem hi_t {x : UInt64} (h : (Float64.cmp x 4607182418800017408 == some Ordering.gt) = true) : hiF x = 4607182418800017408 := if_pos h
theorem hi_f {x : UInt64} (h : (Float64.cmp x 4607182418800017408 == some Ordering.gt) = false) : hiF x = x := if_neg (by unfold gtF; rw [h]; decide)
theorem clamp_two (x : UInt64) : clampF x = hiF (loF x) := rfl
theorem fr_with {h₀ h : Heap} {L : Addr} {m : Str → Option Value} {x : Str} {v : Value} (F : Fr h₀ L h m) (e : m x = some v) : Fr h₀ L h (fun y => if y = x then some v else m y) := by
  have q : (fun y => if y = x then some v else m y) = m := by
    funext y
    by_cases hy : y = x
    · rw [if_pos hy, hy, e]
    · rw [if_neg hy]
  rw [q]; exact F
theorem frDup2 {h₀ h : Heap} {L : Addr} {x : Str} {a b : Value} {m : Str → Option Value} (F : Fr h₀ L h (fun y => if y = x then some a else if y = x then some b else m y)) : Fr h₀ L h (fun y => if y = x then some a else m y) := by
  have e : (fun y => if y = x then some a else if y = x then some b else m y) = fun y => if y = x then some a else m y := by
    funext y
    by_cases hy : y = x
    · rw [if_pos hy, if_pos hy]
    · rw [if_neg hy, if_neg hy, if_neg hy]
  rw [← e]; exact F

set_option maxRecDepth 100000 in
set_option maxHeartbeats 8000000 in
theorem lo_r {w : World} {p : Program} {loose : List Str} {mean : ExcName → Option Value} {mg mb : Str → Option Value} {dp un : Nat} {gd : Option (List Code)} {cn : Str} {cs : Scope} {L a : Addr} {ccd : Value} {cl : List (Str × Addr)} {outer : List Env} {base g' : Heap} {L' : Addr} {m0 : Str → Option Value} {news : List (Addr × Obj)} {s : Shared} {Q : Flow → Shared → Prop} {E : Value → Shared → Prop} {v : UInt64} {t : Tok} {st : Stmt}
    (hst : st = yiqIf 0)
    (X : (hd.heap_39 w.params).In g') (T : Top p loose mean mg mb g') (B : Below (ktrTop dp un gd cn cs L a ccd cl outer) base (envX cn cs L a ccd cl :: outer) g') (hm : m0 (Str.ofString "r") = some (.float v t))
    (F : Fr g' L' s.heap m0) (N : News g' L' s.heap news)
    (hret : ∀ h' tk' t', Fr g' L' h' (fun y => if y = Str.ofString "r" then some (.float (loF v) t') else m0 y) → News g' L' h' news → Q .next { s with heap := h', toks := tk' }) :
    wpAny (model PySem.Challenge.rw_sh0005_01.row.prog w) ((ktrTop dp un gd cn cs L a ccd cl outer).deeper (yiqEnv L')) (exec st (yiqEnv L')) Q E s := by
  subst hst
  have F2 := fr_with F hm
  clear F hm
  revert X
  k_fill
  intro X
  with_unfolding_all change wpAny _ ((ktrTop dp un gd cn cs L a ccd cl outer).deeper (envOf _ (Scope.mk _ _ _ _ _) _ _ _)) (exec (Stmt.If _ _ _ _) (envOf _ (Scope.mk _ _ _ _ _) _ _ _)) _ _ _
  try dsimp only
  k_steps
  · exact hret _ _ _ (by rw [lo_t (x := v) (by assumption)]; exact frDup2 (by assumption)) (by assumption)
  · exact hret _ _ _ (by rw [lo_f (x := v) (by assumption)]; assumption) (by assumption)

set_option maxRecDepth 100000 in
set_option maxHeartbeats 8000000 in
theorem lo_g {w : World} {p : Program} {loose : List Str} {mean : ExcName → Option Value} {mg mb : Str → Option Value} {dp un : Nat} {gd : Option (List Code)} {cn : Str} {cs : Scope} {L a : Addr} {ccd : Value} {cl : List (Str × Addr)} {outer : List Env} {base g' : Heap} {L' : Addr} {m0 : Str → Option Value} {news : List (Addr × Obj)} {s : Shared} {Q : Flow → Shared → Prop} {E : Value → Shared → Prop} {v : UInt64} {t : Tok} {st : Stmt}
    (hst : st = yiqIf 1)
    (X : (hd.heap_39 w.params).In g') (T : Top p loose mean mg mb g') (B : Below (ktrTop dp un gd cn cs L a ccd cl outer) base (envX cn cs L a ccd cl :: outer) g') (hm : m0 (Str.ofString "g") = some (.float v t))
    (F : Fr g' L' s.heap m0) (N : News g' L' s.heap news)
    (hret : ∀ h' tk' t', Fr g' L' h' (fun y => if y = Str.ofString "g" then some (.float (loF v) t') else m0 y) → News g' L' h' news → Q .next { s with heap := h', toks := tk' }) :
    wpAny (model PySem.Challenge.rw_sh0005_01.row.prog w) ((ktrTop dp un gd cn cs L a ccd cl outer).deeper (yiqEnv L')) (exec st (yiqEnv L')) Q E s := by
  subst hst
  have F2 := fr_with F hm
  clear F hm
  revert X
  k_fill
  intro X
  with_unfolding_all change wpAny _ ((ktrTop dp un gd cn cs L a ccd cl outer).deeper (envOf _ (Scope.mk _ _ _ _ _) _ _ _)) (exec (Stmt.If _ _ _ _) (envOf _ (Scope.mk _ _ _ _ _) _ _ _)) _ _ _
  try dsimp only
  k_steps
  · exact hret _ _ _ (by rw [lo_t (x := v) (by assumption)]; exact frDup2 (by assumption)) (by assumption)
  · exact hret _ _ _ (by rw [lo_f (x := v) (by assumption)]; assumption) (by assumption)

set_option maxRecDepth 100000 in
set_option maxHeartbeats 8000000 in
theorem lo_b {w : World} {p : Program} {loose : List Str} {mean : ExcName → Option Value} {mg mb : Str → Option Value} {dp un : Nat} {gd : Option (List Code)} {cn : Str} {cs : Scope} {L a : Addr} {ccd : Value} {cl : List (Str × Addr)} {outer : List Env} {base g' : Heap} {L' : Addr} {m0 : Str → Option Value} {news : List (Addr × Obj)} {s : Shared} {Q : Flow → Shared → Prop} {E : Value → Shared → Prop} {v : UInt64} {t : Tok} {st : Stmt}
    (hst : st = yiqIf 2)
    (X : (hd.heap_39 w.params).In g') (T : Top p loose mean mg mb g') (B : Below (ktrTop dp un gd cn cs L a ccd cl outer) base (envX cn cs L a ccd cl :: outer) g') (hm : m0 (Str.ofString "b") = some (.float v t))
    (F : Fr g' L' s.heap m0) (N : News g' L' s.heap news)
    (hret : ∀ h' tk' t', Fr g' L' h' (fun y => if y = Str.ofString "b" then some (.float (loF v) t') else m0 y) → News g' L' h' news → Q .next { s with heap := h', toks := tk' }) :
    wpAny (model PySem.Challenge.rw_sh0005_01.row.prog w) ((ktrTop dp un gd cn cs L a ccd cl outer).deeper (yiqEnv L')) (exec st (yiqEnv L')) Q E s := by
  subst hst
  have F2 := fr_with F hm
  clear F hm
  revert X
  k_fill
  intro X
  with_unfolding_all change wpAny _ ((ktrTop dp un gd cn cs L a ccd cl outer).deeper (envOf _ (Scope.mk _ _ _ _ _) _ _ _)) (exec (Stmt.If _ _ _ _) (envOf _ (Scope.mk _ _ _ _ _) _ _ _)) _ _ _
  try dsimp only
  k_steps
  · exact hret _ _ _ (by rw [lo_t (x := v) (by assumption)]; exact frDup2 (by assumption)) (by assumption)
  · exact hret _ _ _ (by rw [lo_f (x := v) (by assumption)]; assumption) (by assumption)

set_option maxRecDepth 100000 in
set_option maxHeartbeats 8000000 in
theorem hi_r {w : World} {p : Program} {loose : List Str} {mean : ExcName → Option Value} {mg mb : Str → Option Value} {dp un : Nat} {gd : Option (List Code)} {cn : Str} {cs : Scope} {L a : Addr} {ccd : Value} {cl : List (Str × Addr)} {outer : List Env} {base g' : Heap} {L' : Addr} {m0 : Str → Option Value} {news : List (Addr × Obj)} {s : Shared} {Q : Flow → Shared → Prop} {E : Value → Shared → Prop} {v : UInt64} {t : Tok} {st : Stmt}
    (hst : st = yiqIf 3)
    (X : (hd.heap_39 w.params).In g') (T : Top p loose mean mg mb g') (B : Below (ktrTop dp un gd cn cs L a ccd cl outer) base (envX cn cs L a ccd cl :: outer) g') (hm : m0 (Str.ofString "r") = some (.float v t))
    (F : Fr g' L' s.heap m0) (N : News g' L' s.heap news)
    (hret : ∀ h' tk' t', Fr g' L' h' (fun y => if y = Str.ofString "r" then some (.float (hiF v) t') else m0 y) → News g' L' h' news → Q .next { s with heap := h', toks := tk' }) :
    wpAny (model PySem.Challenge.rw_sh0005_01.row.prog w) ((ktrTop dp un gd cn cs L a ccd cl outer).deeper (yiqEnv L')) (exec st (yiqEnv L')) Q E s := by
  subst hst
  have F2 := fr_with F hm
  clear F hm
  revert X
  k_fill
  intro X
  with_unfolding_all change wpAny _ ((ktrTop dp un gd cn cs L a ccd cl outer).deeper (envOf _ (Scope.mk _ _ _ _ _) _ _ _)) (exec (Stmt.If _ _ _ _) (envOf _ (Scope.mk _ _ _ _ _) _ _ _)) _ _ _
  try dsimp only
  k_steps
  · exact hret _ _ _ (by rw [hi_t (x := v) (by assumption)]; exact frDup2 (by assumption)) (by assumption)
  · exact hret _ _ _ (by rw [hi_f (x := v) (by assumption)]; assumption) (by assumption)

set_option maxRecDepth 100000 in
set_option maxHeartbeats 8000000 in
theorem hi_g {w : World} {p : Program} {loose : List Str} {mean : ExcName → Option Value} {mg mb : Str → Option Value} {dp un : Nat} {gd : Option (List Code)} {cn : Str} {cs : Scope} {L a : Addr} {ccd : Value} {cl : List (Str × Addr)} {outer : List Env} {base g' : Heap} {L' : Addr} {m0 : Str → Option Value} {news : List (Addr × Obj)} {s : Shared} {Q : Flow → Shared → Prop} {E : Value → Shared → Prop} {v : UInt64} {t : Tok} {st : Stmt}
    (hst : st = yiqIf 4)
    (X : (hd.heap_39 w.params).In g') (T : Top p loose mean mg mb g') (B : Below (ktrTop dp un gd cn cs L a ccd cl outer) base (envX cn cs L a ccd cl :: outer) g') (hm : m0 (Str.ofString "g") = some (.float v t))
    (F : Fr g' L' s.heap m0) (N : News g' L' s.heap news)
    (hret : ∀ h' tk' t', Fr g' L' h' (fun y => if y = Str.ofString "g" then some (.float (hiF v) t') else m0 y) → News g' L' h' news → Q .next { s with heap := h', toks := tk' }) :
    wpAny (model PySem.Challenge.rw_sh0005_01.row.prog w) ((ktrTop dp un gd cn cs L a ccd cl outer).deeper (yiqEnv L')) (exec st (yiqEnv L')) Q E s := by
  subst hst
  have F2 := fr_with F hm
  clear F hm
  revert X
  k_fill
  intro X
  with_unfolding_all change wpAny _ ((ktrTop dp un gd cn cs L a ccd cl outer).deeper (envOf _ (Scope.mk _ _ _ _ _) _ _ _)) (exec (Stmt.If _ _ _ _) (envOf _ (Scope.mk _ _ _ _ _) _ _ _)) _ _ _
  try dsimp only
  k_steps
  · exact hret _ _ _ (by rw [hi_t (x := v) (by assumption)]; exact frDup2 (by assumption)) (by assumption)
  · exact hret _ _ _ (by rw [hi_f (x := v) (by assumption)]; assumption) (by assumption)

set_option maxRecDepth 100000 in
set_option maxHeartbeats 8000000 in
theorem hi_b {w : World} {p : Program} {loose : List Str} {mean : ExcName → Option Value} {mg mb : Str → Option Value} {dp un : Nat} {gd : Option (List Code)} {cn : Str} {cs : Scope} {L a : Addr} {ccd : Value} {cl : List (Str × Addr)} {outer : List Env} {base g' : Heap} {L' : Addr} {m0 : Str → Option Value} {news : List (Addr × Obj)} {s : Shared} {Q : Flow → Shared → Prop} {E : Value → Shared → Prop} {v : UInt64} {t : Tok} {st : Stmt}
    (hst : st = yiqIf 5)
    (X : (hd.heap_39 w.params).In g') (T : Top p loose mean mg mb g') (B : Below (ktrTop dp un gd cn cs L a ccd cl outer) base (envX cn cs L a ccd cl :: outer) g') (hm : m0 (Str.ofString "b") = some (.float v t))
    (F : Fr g' L' s.heap m0) (N : News g' L' s.heap news)
    (hret : ∀ h' tk' t', Fr g' L' h' (fun y => if y = Str.ofString "b" then some (.float (hiF v) t') else m0 y) → News g' L' h' news → Q .next { s with heap := h', toks := tk' }) :
    wpAny (model PySem.Challenge.rw_sh0005_01.row.prog w) ((ktrTop dp un gd cn cs L a ccd cl outer).deeper (yiqEnv L')) (exec st (yiqEnv L')) Q E s := by
  subst hst
  have F2 := fr_with F hm
  clear F hm
  revert X
  k_fill
  intro X
  with_unfolding_all change wpAny _ ((ktrTop dp un gd cn cs L a ccd cl outer).deeper (envOf _ (Scope.mk _ _ _ _ _) _ _ _)) (exec (Stmt.If _ _ _ _) (envOf _ (Scope.mk _ _ _ _ _) _ _ _)) _ _ _
  try dsimp only
  k_steps
  · exact hret _ _ _ (by rw [hi_t (x := v) (by assumption)]; exact frDup2 (by assumption)) (by assumption)
  · exact hret _ _ _ (by rw [hi_f (x := v) (by assumption)]; assumption) (by assumption)

/-- one of the six clamps: its statement, its name, what it does -/
inductive YiqIf : Stmt → Str → (UInt64 → UInt64) → Prop where
  | lr : YiqIf (yiqIf 0) (Str.ofString "r") loF
  | lg : YiqIf (yiqIf 1) (Str.ofString "g") loF
  | lb : YiqIf (yiqIf 2) (Str.ofString "b") loF
  | hr : YiqIf (yiqIf 3) (Str.ofString "r") hiF
  | hg : YiqIf (yiqIf 4) (Str.ofString "g") hiF
  | hb : YiqIf (yiqIf 5) (Str.ofString "b") hiF
theorem any_if {w : World} {p : Program} {loose : List Str} {mean : ExcName → Option Value} {mg mb : Str → Option Value} {dp un : Nat} {gd : Option (List Code)} {cn : Str} {cs : Scope} {L a : Addr} {ccd : Value} {cl : List (Str × Addr)} {outer : List Env} {base g' : Heap} {L' : Addr} {m0 : Str → Option Value} {news : List (Addr × Obj)} {s : Shared} {Q : Flow → Shared → Prop} {E : Value → Shared → Prop} {v : UInt64} {t : Tok} {st : Stmt} {x : Str} {f : UInt64 → UInt64}
    (hst : YiqIf st x f)
    (X : (hd.heap_39 w.params).In g') (T : Top p loose mean mg mb g') (B : Below (ktrTop dp un gd cn cs L a ccd cl outer) base (envX cn cs L a ccd cl :: outer) g') (hm : m0 x = some (.float v t))
    (F : Fr g' L' s.heap m0) (N : News g' L' s.heap news)
    (hret : ∀ h' tk' t', Fr g' L' h' (fun y => if y = x then some (.float (f v) t') else m0 y) → News g' L' h' news → Q .next { s with heap := h', toks := tk' }) :
    wpAny (model PySem.Challenge.rw_sh0005_01.row.prog w) ((ktrTop dp un gd cn cs L a ccd cl outer).deeper (yiqEnv L')) (exec st (yiqEnv L')) Q E s := by
  cases hst
  · exact lo_r rfl X T B hm F N hret
  · exact lo_g rfl X T B hm F N hret
  · exact lo_b rfl X T B hm F N hret
  · exact hi_r rfl X T B hm F N hret
  · exact hi_g rfl X T B hm F N hret
  · exact hi_b rfl X T B hm F N hret
local macro_rules | `(tactic| walk_at "exec If") => `(tactic| (k_here; (with_unfolding_all refine' any_if (by with_unfolding_all constructor) ?kX ?kT ?kB ?km ?kF ?kN ?_); (case kX | kT | kB | kF | kN => k_asm); (case km => with_unfolding_all rfl); intro h' tk' t' F' N'; (try dsimp only); (try k_fold)))

set_option maxRecDepth 100000 in
set_option maxHeartbeats 8000000 in
theorem yiqr_call (r g b : UInt64) (t1 t2 t3 : Tok) : Claim 1 28 [.float r t1, .float g t2, .float b t3] (Ret3 (yiqrF r g b)) := by
  unfold Claim
  k_fill
  intro w p loose mean mg mb dp un gd cn cs a ccd cl outer A₀ base h₀ L m news s Q E B F X N T hk hd hu hret
  refine wpAny_call ?_
  k_dflt cell_enter
  k_steps
  all_goals (refine' ret3_of hret ?F ?N ?l ?e; (case F => k_asm); (case N => k_asm); (case l => assumption); (case e => rfl))
end Mine

/-! part W1 -/
namespace Mine
theorem calmW1 : True := by
  w_top off
  trivial
noncomputable def lawFn : Stmt := PySem.Challenge.pw_sh0005_01.main.body.getLastD (.Pass ⟨0, 0, 0, 0⟩)
noncomputable def lawBody : List Stmt := match lawFn with | .FunctionDef _ _ b _ _ _ _ _ _ _ => b | _ => []
noncomputable def lawScope : Scope := match lawFn with | .FunctionDef _ _ _ _ _ _ s _ _ _ => s | _ => default
noncomputable def forBody (s : Stmt) : List Stmt := match s with | .For _ _ b _ _ => b | _ => []
noncomputable def cellsBody : List Stmt := forBody (lawBody.getD 1 (.Pass ⟨0, 0, 0, 0⟩))
noncomputable def turnBody : List Stmt := forBody (lawBody.getD 5 (.Pass ⟨0, 0, 0, 0⟩))
noncomputable def laterBody : List Stmt := forBody (lawBody.getD 6 (.Pass ⟨0, 0, 0, 0⟩))
noncomputable def pairBody : List Stmt := forBody (laterBody.getD 1 (.Pass ⟨0, 0, 0, 0⟩))
noncomputable abbrev lawEnv (L fa : Addr) (cd : Value) : Env := envOf (Str.ofString "law") lawScope L fa cd

/-- the cells, nine ints, stand; nothing else that is asked has changed -/
structure CEnd (h₀ : Heap) (L l : Addr) (n : Nat) (own : List (Addr × Obj)) (m : Str → Option Value) (s : Shared) (f : Flow) (s' : Shared) : Prop where
  next : f = .next
  here : ∃ h tk m' vs cs, s' = { s with heap := h, toks := tk } ∧ Fr h₀ L h m' ∧ News h₀ L h ((l, W.listOf (List.toArray vs) n) :: own) ∧ IntsAre vs cs ∧ cs.length = 9 ∧ m' (Str.ofString "cells") = some (.ref l) ∧ ∀ y, y ≠ Str.ofString "place" → y ≠ Str.ofString "number" → y ≠ Str.ofString "cells" → m' y = m y

theorem cEnd_of {h₀ : Heap} {L l : Addr} {n : Nat} {own : List (Addr × Obj)} {m m' : Str → Option Value} {s : Shared} {h : Heap} {tk : Nat} {vs : List Value} {cs : List Int} (F : Fr h₀ L h m') (N : News h₀ L h ((l, W.listOf (List.toArray vs) n) :: own)) (hi : IntsAre vs cs) (hl : cs.length = 9) (hc : m' (Str.ofString "cells") = some (.ref l)) (hm : ∀ y, y ≠ Str.ofString "place" → y ≠ Str.ofString "number" → y ≠ Str.ofString "cells" → m' y = m y) : CEnd h₀ L l n own m s .next { s with heap := h, toks := tk } :=
  ⟨rfl, h, tk, m', vs, cs, rfl, F, N, hi, hl, hc, hm⟩

set_option maxRecDepth 100000 in
set_option maxHeartbeats 8000000 in
theorem cells_turn (w : World) (p : Program) (loose : List Str) (mean : ExcName → Option Value) (mg mb : Str → Option Value) (fa : Addr) (cd : Value) (h₀ : Heap) (L l : Addr) (n : Nat) (own : List (Addr × Obj)) (m : Str → Option Value) (s : Shared) (E : Value → Shared → Prop)
    (i : Nat) (a : Int) (t t' : Tok) (vs : List Value) (cs : List Int) (hi : IntsAre vs cs) (hl : cs.length = 9) (hown : OwnOff own [l])
    (X : (hd.heap_39 w.params).In h₀) (T : Top p loose mean mg mb h₀) (B : Below callerA h₀ [] h₀)
    (F : Fr h₀ L s.heap (fun y => if y = Str.ofString "number" then some (.int a t') else if y = Str.ofString "place" then some (.int (i : Int) t) else if y = Str.ofString "cells" then some (.ref l) else m y))
    (N : News h₀ L s.heap ((l, W.listOf (List.toArray vs) n) :: own)) :
    wpAny (model PySem.Challenge.rw_sh0005_01.row.prog w) (callerA.deeper (lawEnv L fa cd)) (execs cellsBody (lawEnv L fa cd)) (fun f s' => CEnd h₀ L l n own m s f s') E s := by
  k_fill
  with_unfolding_all change wpAny _ (callerA.deeper (envOf _ (Scope.mk _ _ _ _ _) _ _ _)) (execs (_ :: _) (envOf _ (Scope.mk _ _ _ _ _) _ _ _)) _ _ _
  k_steps
  refine' cEnd_of ?F ?N ?hi ?hl ?hc ?hm
  case F => assumption
  case N => assumption
  case hi => exact ints_set hi _
  case hl => rw [List.length_set]; exact hl
  case hc => rw [if_neg (by decide), if_neg (by decide), if_pos rfl]
  case hm => intro y h1 h2 h3; rw [if_neg h2, if_neg h1, if_neg h3]

theorem Fr.named {h₀ h : Heap} {L : Addr} {m : Str → Option Value} {x : Str} {v : Value} (F : Fr h₀ L h m) (e : m x = some v) : Fr h₀ L h (fun y => if y = x then some v else m y) := by
  have q : (fun y => if y = x then some v else m y) = m := by
    funext y
    by_cases hy : y = x
    · rw [if_pos hy, hy, e]
    · rw [if_neg hy]
  rw [q]; exact F

/-- the loop over the script's numbers: nine ints stand behind it -/
theorem cells_loop (w : World) (p : Program) (loose : List Str) (mean : ExcName → Option Value) (mg mb : Str → Option Value) (fa : Addr) (cd : Value) (h₀ : Heap) (L l : Addr) (n : Nat) (m : Str → Option Value) (s : Shared) (Q : Flow → Shared → Prop) (E : Value → Shared → Prop)
    (as : List Int) (xv : Value) (vs : List Value) (cs : List Int) (hi : IntsAre vs cs) (hl : cs.length = 9)
    (X : (hd.heap_39 w.params).In h₀) (T : Top p loose mean mg mb h₀) (B : Below callerA h₀ [] h₀)
    (S : PairSrc PySem.Challenge.rw_sh0005_01.row.prog w (callerA.deeper (lawEnv L fa cd)) E h₀ (lawEnv L fa cd) ItemKind.int as xv s (fun y => if y = Str.ofString "cells" then some (.ref l) else m y) [(l, W.listOf (List.toArray vs) n)])
    (done : ∀ h tk m' vs cs, Fr h₀ L h m' → News h₀ L h [(l, W.listOf (List.toArray vs) n)] → IntsAre vs cs → cs.length = 9 → m' (Str.ofString "cells") = some (.ref l) → (∀ y, y ≠ Str.ofString "place" → y ≠ Str.ofString "number" → y ≠ Str.ofString "cells" → m' y = m y) → Q .next { s with heap := h, toks := tk }) :
    wpAny (model PySem.Challenge.rw_sh0005_01.row.prog w) (callerA.deeper (lawEnv L fa cd)) (pyIter xv) (fun it s₂ => PairAt3 PySem.Challenge.rw_sh0005_01.row.prog w (callerA.deeper (lawEnv L fa cd)) h₀ (lawEnv L fa cd) (Str.ofString "place") (Str.ofString "number") cellsBody Q E it s₂) E s := by
  refine S _ _ _ Q (fun _ m₁ nw => ∃ vs cs, nw = [(l, W.listOf (List.toArray vs) n)] ∧ IntsAre vs cs ∧ cs.length = 9 ∧ m₁ (Str.ofString "cells") = some (.ref l) ∧ ∀ y, y ≠ Str.ofString "place" → y ≠ Str.ofString "number" → y ≠ Str.ofString "cells" → m₁ y = m y) ?_ ?_ ?_
  · exact ⟨vs, cs, rfl, hi, hl, by simp, fun y _ _ h => by simp [h]⟩
  · rintro i a t v m₁ news₁ s₁ own ⟨hh, tk, rfl⟩ _ hk ⟨vs, cs, rfl, hi, hl, hc, hm⟩ _ hoff F N
    obtain ⟨t', rfl⟩ := ItemKind.int_is hk
    have F2 : Fr h₀ L hh (fun y => if y = Str.ofString "number" then some (.int a t') else if y = Str.ofString "place" then some (.int (i : Int) t) else if y = Str.ofString "cells" then some (.ref l) else m₁ y) := by
      have q : (fun y => if y = Str.ofString "number" then some (.int a t') else if y = Str.ofString "place" then some (.int (i : Int) t) else if y = Str.ofString "cells" then some (.ref l) else m₁ y) = (fun y => if y = Str.ofString "number" then some (.int a t') else if y = Str.ofString "place" then some (.int (i : Int) t) else m₁ y) := by
        funext y
        by_cases hy : y = Str.ofString "cells"
        · subst hy; rw [if_pos rfl, hc]
        · rw [if_neg hy]
      rw [q]; exact F
    have hown : OwnOff own [l] := fun p hp b hb => by
      rw [List.mem_singleton.mp hb]
      exact hoff p hp _ (List.mem_singleton.mpr rfl)
    have N2 : News h₀ L hh ((l, W.listOf (List.toArray vs) n) :: own) := fun p hp => N p (by
      rcases List.mem_cons.mp hp with rfl | hp
      · exact List.mem_append.mpr (.inr (List.mem_singleton.mpr rfl))
      · exact List.mem_append.mpr (.inl hp))
    refine wpAny_mono (cells_turn w p loose mean mg mb fa cd h₀ L l n own m₁ { s with heap := hh, toks := tk } E i a t t' vs cs hi hl hown X T B F2 N2) (fun f s₂ hf => ?_) fun _ _ e => e
    obtain ⟨rfl, h', tk', m', vs', cs', rfl, F', N', hi', hl', hc', hm'⟩ := hf
    refine ⟨rfl, h', tk', m', [(l, W.listOf (List.toArray vs') n)], rfl, F', ?_, rfl, vs', cs', rfl, hi', hl', hc', fun y h1 h2 h3 => (hm' y h1 h2 h3).trans (hm y h1 h2 h3)⟩
    intro p hp
    rcases List.mem_append.mp hp with hp | hp
    · exact N' p (.tail _ hp)
    · rw [List.mem_singleton.mp hp]; exact N' _ (.head _)
  · rintro h' tk m' news' F' N' _ ⟨vs', cs', rfl, hi', hl', hc', hm'⟩
    exact done h' tk m' vs' cs' F' N' hi' hl' hc' hm'
end Mine

/-! part W2 -/
namespace Mine
theorem calmW2 : True := by
  w_top off
  trivial
theorem ints_head {vs : List Value} {c : Int} {cs : List Int} (h : IntsAre vs (c :: cs)) : ∃ t vs', vs = .int c t :: vs' ∧ IntsAre vs' cs := by
  cases h with | cons _ t hi => exact ⟨t, _, rfl, hi⟩
theorem ints_nil {vs : List Value} (h : IntsAre vs []) : vs = [] := by
  cases h; rfl
theorem nine_of {c0 c1 c2 c3 c4 c5 c6 c7 c8 : Int} {vs : List Value} (hi : IntsAre vs [c0, c1, c2, c3, c4, c5, c6, c7, c8]) {P : List Value → Prop} (k : ∀ t0 t1 t2 t3 t4 t5 t6 t7 t8, P [Value.int c0 t0, .int c1 t1, .int c2 t2, .int c3 t3, .int c4 t4, .int c5 t5, .int c6 t6, .int c7 t7, .int c8 t8]) : P vs := by
  obtain ⟨t0, v0, e0, h0⟩ := ints_head hi
  obtain ⟨t1, v1, e1, h1⟩ := ints_head h0
  obtain ⟨t2, v2, e2, h2⟩ := ints_head h1
  obtain ⟨t3, v3, e3, h3⟩ := ints_head h2
  obtain ⟨t4, v4, e4, h4⟩ := ints_head h3
  obtain ⟨t5, v5, e5, h5⟩ := ints_head h4
  obtain ⟨t6, v6, e6, h6⟩ := ints_head h5
  obtain ⟨t7, v7, e7, h7⟩ := ints_head h6
  obtain ⟨t8, v8, e8, h8⟩ := ints_head h7
  rw [e0, e1, e2, e3, e4, e5, e6, e7, e8, ints_nil h8]
  exact k _ _ _ _ _ _ _ _ _
theorem nine_elim {vs : List Value} {cs : List Int} {P : List Value → List Int → Prop} (hi : IntsAre vs cs) (hl : cs.length = 9) (k : ∀ c0 c1 c2 c3 c4 c5 c6 c7 c8 t0 t1 t2 t3 t4 t5 t6 t7 t8, P [Value.int c0 t0, .int c1 t1, .int c2 t2, .int c3 t3, .int c4 t4, .int c5 t5, .int c6 t6, .int c7 t7, .int c8 t8] [c0, c1, c2, c3, c4, c5, c6, c7, c8]) : P vs cs := by
  match cs, hl with
  | [c0, c1, c2, c3, c4, c5, c6, c7, c8], _ => exact nine_of (P := fun v => P v [c0, c1, c2, c3, c4, c5, c6, c7, c8]) hi (k c0 c1 c2 c3 c4 c5 c6 c7 c8)

structure ModEnd (h₀ : Heap) (L : Addr) (m : Str → Option Value) (s : Shared) (f : Flow) (s' : Shared) : Prop where
  next : f = .next
  here : ∃ h tk l dd sl n vs cs, s' = { s with heap := h, toks := tk } ∧ Fr h₀ L h (fun y => if y = Str.ofString "cells" then some (.ref l) else m y) ∧ News h₀ L h [(l, (⟨.type "list", dd, .seq (List.toArray vs) n, sl⟩ : Obj))] ∧ IntsAre vs cs ∧ cs.length = 9 ∧ ∀ c ∈ cs, 0 ≤ c ∧ c ≤ 32

theorem frOff {h₀ h : Heap} {L D : Addr} {m : Str → Option Value} {its : Array Value} (F : Fr h₀ L h m) (hl : h.IsList D its) : D ≠ L := by
  rintro rfl
  obtain ⟨o, es, ep, ho, hd, _, hf⟩ := F.ns
  obtain ⟨o', ho', _, n, hd'⟩ := hl
  rw [ho] at ho'; cases ho'
  rw [hd] at hd'; cases hd'

theorem modEnd_of {h₀ h : Heap} {L D : Addr} {m m' : Str → Option Value} {s : Shared} {tk : Nat} {ys : List Value} {cs : List Int} (F : Fr h₀ L h m') (hm : ∀ y, m' y = if y = Str.ofString "cells" then some (.ref D) else m y) (h0 : h₀.get? D = none) (hl : h.IsList D ys.toArray)
    (hc : CarriedAll ys (List.map (fun a => PyData.int (Int.fmod a 33)) (List.filter (fun _ => true) cs))) (hn : cs.length = 9) : ModEnd h₀ L m s .next { s with heap := h, toks := tk } := by
  have hD := frOff F hl
  have hm' : m' = fun y => if y = Str.ofString "cells" then some (.ref D) else m y := funext hm
  subst hm'
  obtain ⟨⟨c, dd, da, sl⟩, ho, h1, n, h2⟩ := hl
  subst h1; subst h2
  have e : List.filter (fun _ => true) cs = cs := by simp
  rw [e] at hc
  refine ⟨rfl, h, tk, D, dd, sl, n, ys, cs.map (fun a => a.fmod 33), rfl, F, ?_, CarriedAll.intsOf hc, by rw [List.length_map, hn], ?_⟩
  · intro p hp
    rw [List.mem_singleton.mp hp]
    exact ⟨ho, hD, h0⟩
  · intro c hc
    obtain ⟨a, _, rfl⟩ := List.mem_map.mp hc
    rw [Int.fmod_eq_emod_of_nonneg _ (by decide)]
    omega

set_option maxRecDepth 100000 in
set_option maxHeartbeats 8000000 in
theorem mod_step (w : World) (p : Program) (loose : List Str) (mean : ExcName → Option Value) (mg mb : Str → Option Value) (fa : Addr) (cd : Value) (h₀ : Heap) (L l : Addr) (n : Nat) (m : Str → Option Value) (s : Shared) (E : Value → Shared → Prop)
    (c0 c1 c2 c3 c4 c5 c6 c7 c8 : Int) (t0 t1 t2 t3 t4 t5 t6 t7 t8 : Tok)
    (X : (hd.heap_39 w.params).In h₀) (T : Top p loose mean mg mb h₀) (B : Below callerA h₀ [] h₀)
    (F : Fr h₀ L s.heap (fun y => if y = Str.ofString "cells" then some (.ref l) else m y))
    (N : News h₀ L s.heap [(l, W.listOf #[Value.int c0 t0, .int c1 t1, .int c2 t2, .int c3 t3, .int c4 t4, .int c5 t5, .int c6 t6, .int c7 t7, .int c8 t8] n)]) :
    wpAny (model PySem.Challenge.rw_sh0005_01.row.prog w) (callerA.deeper (lawEnv L fa cd)) (exec (lawBody.getD 2 (.Pass ⟨0, 0, 0, 0⟩)) (lawEnv L fa cd)) (fun f s' => ModEnd h₀ L m s f s') E s := by
  k_fill
  with_unfolding_all change wpAny _ (callerA.deeper (envOf _ (Scope.mk _ _ _ _ _) _ _ _)) (exec (Stmt.Assign _ _ _) (envOf _ (Scope.mk _ _ _ _ _) _ _ _)) _ _ _
  k_steps
  exact modEnd_of (by assumption) (fun y => by
    by_cases hy : y = Str.ofString "cells"
    · rw [if_pos hy, if_pos hy]
    · rw [if_neg hy, if_neg hy, if_neg hy]) (by assumption) (by assumption) (by assumption) rfl
end Mine

/-! part W3 -/
namespace Mine
theorem calmW3 : True := by
  w_top off
  trivial
noncomputable def colExprs : List Expr := match lawBody.getD 3 (.Pass ⟨0, 0, 0, 0⟩) with | .Assign _ (.List es _) _ => es | _ => []
noncomputable def colExpr (k : Nat) : Expr := colExprs.getD k (.Constant .none 0 ⟨0, 0, 0, 0⟩)
noncomputable def compIter (e : Expr) : Expr := match e with | .ListComp _ [g] _ _ => g.iter | _ => e
noncomputable def compElt (e : Expr) : Expr := match e with | .ListComp elt _ _ _ => elt | _ => e
noncomputable def compScope (e : Expr) : Scope := match e with | .ListComp _ _ s _ => s | _ => default
noncomputable abbrev nineObj (dd : Option Addr) (sl : Array (Option Value)) (n : Nat) (c0 c1 c2 c3 c4 c5 c6 c7 c8 : Int) (t0 t1 t2 t3 t4 t5 t6 t7 t8 : Tok) : Obj :=
  ⟨.type "list", dd, .seq #[Value.int c0 t0, .int c1 t1, .int c2 t2, .int c3 t3, .int c4 t4, .int c5 t5, .int c6 t6, .int c7 t7, .int c8 t8] n, sl⟩
noncomputable abbrev trip (a b c : Int) (t u v : Tok) (n : Nat) : Obj := { cls := .type "list", data := .seq #[Value.int a t, .int b u, .int c v] n }

/-- an element of a comprehension: an int of the item's -/
noncomputable def EltGives (w : World) (A : Around) (env : Env) (elt : Expr) (scope : Scope) (h₀ : Heap) (L : Addr) (m : Str → Option Value) (g : Int → Int) : Prop :=
  ∀ (k : Int) (t : Tok) (C : Addr) (oC : Obj) (m₂ : Str → Option Value) (s : Shared) (Q E : Value → Shared → Prop), Fr h₀ L s.heap m → News h₀ L s.heap [(C, oC)] → LCg.NsObj oC m₂ → m₂ (Str.ofString "cell") = some (.int k t) →
    (∀ tok tk, Q (.int (g k) tok) { s with toks := tk }) → wpAny (model PySem.Challenge.rw_sh0005_01.row.prog w) A (eval elt (compEnvC scope [] C env)) Q E s

theorem off3_of {I C D : Addr} {news : List (Addr × Obj)} (h : LCg.Off3 I C D news) : LCg.Off3 I C D news := h

theorem comp3 {w : World} {A : Around} {env : Env} {s : Shared} {h₀ : Heap} {m : Str → Option Value} {elt iter : Expr} {px : Pos} {scope : Scope} {pos : Pos} {Q E : Value → Shared → Prop} {g : Int → Int} {a b c : Int} {t u v : Tok} {news : List (Addr × Obj)}
    (F₀ : Fr h₀ env.locals s.heap m) (hh : A.handled = none)
    (hclos : closureFor scope env = pure []) (hcell : ∀ y ∈ scope.names, y.2 ≠ .cell) (hkind : scope.kind = .function)
    (hnames : ∀ y ∈ scope.names, y.2 = .local → scope.names.lookup y.1 = some .local) (hx : scope.names.lookup (Str.ofString "cell") = some .local)
    (src : ∀ Q' : Value → Shared → Prop, (∀ D n h tk, Fr h₀ env.locals h m → News h₀ env.locals h ((D, trip a b c t u v n) :: news) → Q' (.ref D) { s with heap := h, toks := tk }) → wpAny (model PySem.Challenge.rw_sh0005_01.row.prog w) A (eval iter env) Q' E s)
    (el : EltGives w A env elt scope h₀ env.locals m g)
    (ret : ∀ D u0 u1 u2 k h tk, Fr h₀ env.locals h m → News h₀ env.locals h ((D, trip (g a) (g b) (g c) u0 u1 u2 k) :: news) → Q (.ref D) { s with heap := h, toks := tk })
    (hs : ∀ x, foldedSetIterable iter env x = pure x := by intro _; rfl) :
    wpAny (model PySem.Challenge.rw_sh0005_01.row.prog w) A (eval (.ListComp elt [⟨.Name (Str.ofString "cell") px, iter, [], 0⟩] scope pos) env) Q E s := by
  refine LCg.ListComp_U F₀ hclos hcell hkind hnames hx (src _ ?_) hs
  intro D n h tk F N
  refine LCg.CompSrc.ledger hh F N (.head _) (by rw [sizeLine_eq]; simp) fun g' => ?_
  have turn : ∀ (K : Int) (T : Tok) (I : Addr) (oI : Obj) (C : Addr) (oC : Obj) (D' : Addr) (m₂ : Str → Option Value) (ys : List Value) (E' : Value → Shared → Prop) (rest : Value → List (Addr × Obj) → Prop) (s₀ : Shared),
      LCg.NsObj oC m₂ → m₂ (Str.ofString "cell") = some (.int K T) → Fr h₀ env.locals s₀.heap m → News h₀ env.locals s₀.heap ((I, oI) :: (C, oC) :: (D', LCg.lst ys) :: (D, trip a b c t u v n) :: news) → LCg.Off3 I C D' ((D, trip a b c t u v n) :: news) →
      (∀ tok, rest (.int (g K) tok) ((D, trip a b c t u v n) :: news)) →
      wpAny (model PySem.Challenge.rw_sh0005_01.row.prog w) A (eval elt (compEnvC scope [] C env)) (LCg.CompEnd h₀ env.locals m s₀ I oI C oC D' (LCg.lst ys) (LCg.SrcAt h₀ D #[Value.int a t, .int b u, .int c v]) rest) E' s₀ := by
    intro K T I oI C oC D' m₂ ys E' rest s₀ hC hx F N off hr
    refine el K T C oC m₂ s₀ _ _ F (fun p hp => N p (by rw [List.mem_singleton.mp hp]; exact .tail _ (.head _))) hC hx fun tok tk => ?_
    exact ⟨s₀.heap, tk, (D, trip a b c t u v n) :: news, rfl, F, N, off, .inr ⟨_, .head _, rfl, _, rfl⟩, hr tok⟩
  show LCg.CompRest _ _ _ _ _ _ _ _ _ _ _ _ _ _ _ 3 0 [] _
  refine LCg.CompRest.succ fun v' I oI C oC D' m₂ h tk E' hP hC hx F N off ne => ?_
  obtain rfl : v' = .int a t := (Option.some.inj hP).symm
  refine turn a t I oI C oC D' m₂ _ E' _ _ hC hx F N off fun tok => ?_
  clear hP hC hx F N off ne I oI C oC D' m₂ h tk E'
  refine LCg.CompRest.succ fun v' I oI C oC D' m₂ h tk E' hP hC hx F N off ne => ?_
  obtain rfl : v' = .int b u := (Option.some.inj hP).symm
  refine turn b u I oI C oC D' m₂ _ E' _ _ hC hx F N off fun tok2 => ?_
  clear hP hC hx F N off ne I oI C oC D' m₂ h tk E'
  refine LCg.CompRest.succ fun v' I oI C oC D' m₂ h tk E' hP hC hx F N off ne => ?_
  obtain rfl : v' = .int c v := (Option.some.inj hP).symm
  refine turn c v I oI C oC D' m₂ _ E' _ _ hC hx F N off fun tok3 => ?_
  clear hP hC hx F N off ne I oI C oC D' m₂ h tk E'
  refine LCg.CompRest.zero fun D' h tk F N off => ?_
  exact ret D' tok tok2 tok3 3 h tk F fun p hp => N p (by
    rcases List.mem_cons.mp hp with rfl | hp
    · exact .head _
    · exact .tail _ (.tail _ hp))

set_option maxRecDepth 100000 in
set_option maxHeartbeats 8000000 in
theorem elt_0 (w : World) (p : Program) (loose : List Str) (mean : ExcName → Option Value) (mg mb : Str → Option Value) (fa : Addr) (cd : Value) (h₀ : Heap) (L : Addr) (m : Str → Option Value) (X : (hd.heap_39 w.params).In h₀) (T : Top p loose mean mg mb h₀) (B : Below callerA h₀ [] h₀) :
    EltGives w (callerA.deeper (lawEnv L fa cd)) (lawEnv L fa cd) (compElt (colExpr 0)) (compScope (colExpr 0)) h₀ L m (fun k => 2 * k) := by
  intro k t C oC m₂ s Q E F N hC hx hQ
  k_fill
  with_unfolding_all change wpAny _ (callerA.deeper (envOf _ (Scope.mk _ _ _ _ _) _ _ _)) (eval (Expr.BinOp _ _ _ _) (compEnvC (Scope.mk _ _ _ _ _) _ _ (envOf _ (Scope.mk _ _ _ _ _) _ _ _))) _ _ _
  k_steps
  exact hQ _ _

set_option maxRecDepth 100000 in
set_option maxHeartbeats 8000000 in
theorem elt_1 (w : World) (p : Program) (loose : List Str) (mean : ExcName → Option Value) (mg mb : Str → Option Value) (fa : Addr) (cd : Value) (h₀ : Heap) (L : Addr) (m : Str → Option Value) (X : (hd.heap_39 w.params).In h₀) (T : Top p loose mean mg mb h₀) (B : Below callerA h₀ [] h₀) :
    EltGives w (callerA.deeper (lawEnv L fa cd)) (lawEnv L fa cd) (compElt (colExpr 1)) (compScope (colExpr 1)) h₀ L m (fun k => k + 32) := by
  intro k t C oC m₂ s Q E F N hC hx hQ
  k_fill
  with_unfolding_all change wpAny _ (callerA.deeper (envOf _ (Scope.mk _ _ _ _ _) _ _ _)) (eval (Expr.BinOp _ _ _ _) (compEnvC (Scope.mk _ _ _ _ _) _ _ (envOf _ (Scope.mk _ _ _ _ _) _ _ _))) _ _ _
  k_steps
  exact hQ _ _

set_option maxRecDepth 100000 in
set_option maxHeartbeats 8000000 in
theorem elt_2 (w : World) (p : Program) (loose : List Str) (mean : ExcName → Option Value) (mg mb : Str → Option Value) (fa : Addr) (cd : Value) (h₀ : Heap) (L : Addr) (m : Str → Option Value) (X : (hd.heap_39 w.params).In h₀) (T : Top p loose mean mg mb h₀) (B : Below callerA h₀ [] h₀) :
    EltGives w (callerA.deeper (lawEnv L fa cd)) (lawEnv L fa cd) (compElt (colExpr 2)) (compScope (colExpr 2)) h₀ L m (fun k => 2 * k) := by
  intro k t C oC m₂ s Q E F N hC hx hQ
  k_fill
  with_unfolding_all change wpAny _ (callerA.deeper (envOf _ (Scope.mk _ _ _ _ _) _ _ _)) (eval (Expr.BinOp _ _ _ _) (compEnvC (Scope.mk _ _ _ _ _) _ _ (envOf _ (Scope.mk _ _ _ _ _) _ _ _))) _ _ _
  k_steps
  exact hQ _ _

set_option maxRecDepth 100000 in
set_option maxHeartbeats 8000000 in
theorem elt_4 (w : World) (p : Program) (loose : List Str) (mean : ExcName → Option Value) (mg mb : Str → Option Value) (fa : Addr) (cd : Value) (h₀ : Heap) (L : Addr) (m : Str → Option Value) (X : (hd.heap_39 w.params).In h₀) (T : Top p loose mean mg mb h₀) (B : Below callerA h₀ [] h₀) :
    EltGives w (callerA.deeper (lawEnv L fa cd)) (lawEnv L fa cd) (compElt (colExpr 4)) (compScope (colExpr 4)) h₀ L m (fun k => 2 * k) := by
  intro k t C oC m₂ s Q E F N hC hx hQ
  k_fill
  with_unfolding_all change wpAny _ (callerA.deeper (envOf _ (Scope.mk _ _ _ _ _) _ _ _)) (eval (Expr.BinOp _ _ _ _) (compEnvC (Scope.mk _ _ _ _ _) _ _ (envOf _ (Scope.mk _ _ _ _ _) _ _ _))) _ _ _
  k_steps
  exact hQ _ _

set_option maxRecDepth 100000 in
set_option maxHeartbeats 8000000 in
theorem elt_5 (w : World) (p : Program) (loose : List Str) (mean : ExcName → Option Value) (mg mb : Str → Option Value) (fa : Addr) (cd : Value) (h₀ : Heap) (L : Addr) (m : Str → Option Value) (X : (hd.heap_39 w.params).In h₀) (T : Top p loose mean mg mb h₀) (B : Below callerA h₀ [] h₀) :
    EltGives w (callerA.deeper (lawEnv L fa cd)) (lawEnv L fa cd) (compElt (colExpr 5)) (compScope (colExpr 5)) h₀ L m (fun k => 64 - 2 * k) := by
  intro k t C oC m₂ s Q E F N hC hx hQ
  k_fill
  with_unfolding_all change wpAny _ (callerA.deeper (envOf _ (Scope.mk _ _ _ _ _) _ _ _)) (eval (Expr.BinOp _ _ _ _) (compEnvC (Scope.mk _ _ _ _ _) _ _ (envOf _ (Scope.mk _ _ _ _ _) _ _ _))) _ _ _
  k_steps
  exact hQ _ _

set_option maxRecDepth 100000 in
set_option maxHeartbeats 8000000 in
theorem slice_0 (w : World) (p : Program) (loose : List Str) (mean : ExcName → Option Value) (mg mb : Str → Option Value) (fa : Addr) (cd : Value) (h₀ : Heap) (L : Addr) (l : Addr) (dd : Option Addr) (sl : Array (Option Value)) (n : Nat) (m : Str → Option Value) (news : List (Addr × Obj)) (s : Shared) (Q E : Value → Shared → Prop)
    (c0 c1 c2 c3 c4 c5 c6 c7 c8 : Int) (t0 t1 t2 t3 t4 t5 t6 t7 t8 : Tok) (X : (hd.heap_39 w.params).In h₀) (T : Top p loose mean mg mb h₀) (B : Below callerA h₀ [] h₀)
    (F : Fr h₀ L s.heap (fun y => if y = Str.ofString "cells" then some (.ref l) else m y))
    (N : News h₀ L s.heap news) (hm : (l, nineObj dd sl n c0 c1 c2 c3 c4 c5 c6 c7 c8 t0 t1 t2 t3 t4 t5 t6 t7 t8) ∈ news)
    (hret : ∀ D k h' tk', Fr h₀ L h' (fun y => if y = Str.ofString "cells" then some (.ref l) else m y) → News h₀ L h' ((D, trip c0 c1 c2 t0 t1 t2 k) :: news) → Q (.ref D) { s with heap := h', toks := tk' }) :
    wpAny (model PySem.Challenge.rw_sh0005_01.row.prog w) (callerA.deeper (lawEnv L fa cd)) (eval (compIter (colExpr 0)) (lawEnv L fa cd)) Q E s := by
  k_fill
  with_unfolding_all change wpAny _ (callerA.deeper (envOf _ (Scope.mk _ _ _ _ _) _ _ _)) (eval (Expr.Subscript _ _ _) (envOf _ (Scope.mk _ _ _ _ _) _ _ _)) _ _ _
  have N2 := more_news N hm
  clear hm
  k_steps
  refine' hret _ _ _ _ ?F ?N
  case F => assumption
  case N => (refine' fun p hp => (by assumption : News _ _ _ (_ :: _ :: news)) p ?_; (rcases List.mem_cons.mp hp with rfl | hp; exact .head _; exact .tail _ (.tail _ hp)))

set_option maxRecDepth 100000 in
set_option maxHeartbeats 8000000 in
theorem slice_1 (w : World) (p : Program) (loose : List Str) (mean : ExcName → Option Value) (mg mb : Str → Option Value) (fa : Addr) (cd : Value) (h₀ : Heap) (L : Addr) (l : Addr) (dd : Option Addr) (sl : Array (Option Value)) (n : Nat) (m : Str → Option Value) (news : List (Addr × Obj)) (s : Shared) (Q E : Value → Shared → Prop)
    (c0 c1 c2 c3 c4 c5 c6 c7 c8 : Int) (t0 t1 t2 t3 t4 t5 t6 t7 t8 : Tok) (X : (hd.heap_39 w.params).In h₀) (T : Top p loose mean mg mb h₀) (B : Below callerA h₀ [] h₀)
    (F : Fr h₀ L s.heap (fun y => if y = Str.ofString "cells" then some (.ref l) else m y))
    (N : News h₀ L s.heap news) (hm : (l, nineObj dd sl n c0 c1 c2 c3 c4 c5 c6 c7 c8 t0 t1 t2 t3 t4 t5 t6 t7 t8) ∈ news)
    (hret : ∀ D k h' tk', Fr h₀ L h' (fun y => if y = Str.ofString "cells" then some (.ref l) else m y) → News h₀ L h' ((D, trip c0 c1 c2 t0 t1 t2 k) :: news) → Q (.ref D) { s with heap := h', toks := tk' }) :
    wpAny (model PySem.Challenge.rw_sh0005_01.row.prog w) (callerA.deeper (lawEnv L fa cd)) (eval (compIter (colExpr 1)) (lawEnv L fa cd)) Q E s := by
  k_fill
  with_unfolding_all change wpAny _ (callerA.deeper (envOf _ (Scope.mk _ _ _ _ _) _ _ _)) (eval (Expr.Subscript _ _ _) (envOf _ (Scope.mk _ _ _ _ _) _ _ _)) _ _ _
  have N2 := more_news N hm
  clear hm
  k_steps
  refine' hret _ _ _ _ ?F ?N
  case F => assumption
  case N => (refine' fun p hp => (by assumption : News _ _ _ (_ :: _ :: news)) p ?_; (rcases List.mem_cons.mp hp with rfl | hp; exact .head _; exact .tail _ (.tail _ hp)))

set_option maxRecDepth 100000 in
set_option maxHeartbeats 8000000 in
theorem slice_2 (w : World) (p : Program) (loose : List Str) (mean : ExcName → Option Value) (mg mb : Str → Option Value) (fa : Addr) (cd : Value) (h₀ : Heap) (L : Addr) (l : Addr) (dd : Option Addr) (sl : Array (Option Value)) (n : Nat) (m : Str → Option Value) (news : List (Addr × Obj)) (s : Shared) (Q E : Value → Shared → Prop)
    (c0 c1 c2 c3 c4 c5 c6 c7 c8 : Int) (t0 t1 t2 t3 t4 t5 t6 t7 t8 : Tok) (X : (hd.heap_39 w.params).In h₀) (T : Top p loose mean mg mb h₀) (B : Below callerA h₀ [] h₀)
    (F : Fr h₀ L s.heap (fun y => if y = Str.ofString "cells" then some (.ref l) else m y))
    (N : News h₀ L s.heap news) (hm : (l, nineObj dd sl n c0 c1 c2 c3 c4 c5 c6 c7 c8 t0 t1 t2 t3 t4 t5 t6 t7 t8) ∈ news)
    (hret : ∀ D k h' tk', Fr h₀ L h' (fun y => if y = Str.ofString "cells" then some (.ref l) else m y) → News h₀ L h' ((D, trip c3 c4 c5 t3 t4 t5 k) :: news) → Q (.ref D) { s with heap := h', toks := tk' }) :
    wpAny (model PySem.Challenge.rw_sh0005_01.row.prog w) (callerA.deeper (lawEnv L fa cd)) (eval (compIter (colExpr 2)) (lawEnv L fa cd)) Q E s := by
  k_fill
  with_unfolding_all change wpAny _ (callerA.deeper (envOf _ (Scope.mk _ _ _ _ _) _ _ _)) (eval (Expr.Subscript _ _ _) (envOf _ (Scope.mk _ _ _ _ _) _ _ _)) _ _ _
  have N2 := more_news N hm
  clear hm
  k_steps
  refine' hret _ _ _ _ ?F ?N
  case F => assumption
  case N => (refine' fun p hp => (by assumption : News _ _ _ (_ :: _ :: news)) p ?_; (rcases List.mem_cons.mp hp with rfl | hp; exact .head _; exact .tail _ (.tail _ hp)))

set_option maxRecDepth 100000 in
set_option maxHeartbeats 8000000 in
theorem slice_3 {w : World} {p : Program} {loose : List Str} {mean : ExcName → Option Value} {mg mb : Str → Option Value} {fa : Addr} {cd : Value} {h₀ : Heap} {L : Addr} {l : Addr} {dd : Option Addr} {sl : Array (Option Value)} {n : Nat} {m : Str → Option Value} {news : List (Addr × Obj)} {s : Shared} {Q E : Value → Shared → Prop}
    {c0 c1 c2 c3 c4 c5 c6 c7 c8 : Int} {t0 t1 t2 t3 t4 t5 t6 t7 t8 : Tok} (X : (hd.heap_39 w.params).In h₀) (T : Top p loose mean mg mb h₀) (B : Below callerA h₀ [] h₀)
    (F : Fr h₀ L s.heap (fun y => if y = Str.ofString "cells" then some (.ref l) else m y))
    (N : News h₀ L s.heap news) (hm : (l, nineObj dd sl n c0 c1 c2 c3 c4 c5 c6 c7 c8 t0 t1 t2 t3 t4 t5 t6 t7 t8) ∈ news)
    (hret : ∀ D k h' tk', Fr h₀ L h' (fun y => if y = Str.ofString "cells" then some (.ref l) else m y) → News h₀ L h' ((D, trip c3 c4 c5 t3 t4 t5 k) :: news) → Q (.ref D) { s with heap := h', toks := tk' }) :
    wpAny (model PySem.Challenge.rw_sh0005_01.row.prog w) (callerA.deeper (lawEnv L fa cd)) (eval (compIter (colExpr 3)) (lawEnv L fa cd)) Q E s := by
  k_fill
  with_unfolding_all change wpAny _ (callerA.deeper (envOf _ (Scope.mk _ _ _ _ _) _ _ _)) (eval (Expr.Subscript _ _ _) (envOf _ (Scope.mk _ _ _ _ _) _ _ _)) _ _ _
  have N2 := more_news N hm
  clear hm
  k_steps
  refine' hret _ _ _ _ ?F ?N
  case F => assumption
  case N => (refine' fun p hp => (by assumption : News _ _ _ (_ :: _ :: news)) p ?_; (rcases List.mem_cons.mp hp with rfl | hp; exact .head _; exact .tail _ (.tail _ hp)))

set_option maxRecDepth 100000 in
set_option maxHeartbeats 8000000 in
theorem slice_4 (w : World) (p : Program) (loose : List Str) (mean : ExcName → Option Value) (mg mb : Str → Option Value) (fa : Addr) (cd : Value) (h₀ : Heap) (L : Addr) (l : Addr) (dd : Option Addr) (sl : Array (Option Value)) (n : Nat) (m : Str → Option Value) (news : List (Addr × Obj)) (s : Shared) (Q E : Value → Shared → Prop)
    (c0 c1 c2 c3 c4 c5 c6 c7 c8 : Int) (t0 t1 t2 t3 t4 t5 t6 t7 t8 : Tok) (X : (hd.heap_39 w.params).In h₀) (T : Top p loose mean mg mb h₀) (B : Below callerA h₀ [] h₀)
    (F : Fr h₀ L s.heap (fun y => if y = Str.ofString "cells" then some (.ref l) else m y))
    (N : News h₀ L s.heap news) (hm : (l, nineObj dd sl n c0 c1 c2 c3 c4 c5 c6 c7 c8 t0 t1 t2 t3 t4 t5 t6 t7 t8) ∈ news)
    (hret : ∀ D k h' tk', Fr h₀ L h' (fun y => if y = Str.ofString "cells" then some (.ref l) else m y) → News h₀ L h' ((D, trip c6 c7 c8 t6 t7 t8 k) :: news) → Q (.ref D) { s with heap := h', toks := tk' }) :
    wpAny (model PySem.Challenge.rw_sh0005_01.row.prog w) (callerA.deeper (lawEnv L fa cd)) (eval (compIter (colExpr 4)) (lawEnv L fa cd)) Q E s := by
  k_fill
  with_unfolding_all change wpAny _ (callerA.deeper (envOf _ (Scope.mk _ _ _ _ _) _ _ _)) (eval (Expr.Subscript _ _ _) (envOf _ (Scope.mk _ _ _ _ _) _ _ _)) _ _ _
  have N2 := more_news N hm
  clear hm
  k_steps
  refine' hret _ _ _ _ ?F ?N
  case F => assumption
  case N => (refine' fun p hp => (by assumption : News _ _ _ (_ :: _ :: news)) p ?_; (rcases List.mem_cons.mp hp with rfl | hp; exact .head _; exact .tail _ (.tail _ hp)))

set_option maxRecDepth 100000 in
set_option maxHeartbeats 8000000 in
theorem slice_5 (w : World) (p : Program) (loose : List Str) (mean : ExcName → Option Value) (mg mb : Str → Option Value) (fa : Addr) (cd : Value) (h₀ : Heap) (L : Addr) (l : Addr) (dd : Option Addr) (sl : Array (Option Value)) (n : Nat) (m : Str → Option Value) (news : List (Addr × Obj)) (s : Shared) (Q E : Value → Shared → Prop)
    (c0 c1 c2 c3 c4 c5 c6 c7 c8 : Int) (t0 t1 t2 t3 t4 t5 t6 t7 t8 : Tok) (X : (hd.heap_39 w.params).In h₀) (T : Top p loose mean mg mb h₀) (B : Below callerA h₀ [] h₀)
    (F : Fr h₀ L s.heap (fun y => if y = Str.ofString "cells" then some (.ref l) else m y))
    (N : News h₀ L s.heap news) (hm : (l, nineObj dd sl n c0 c1 c2 c3 c4 c5 c6 c7 c8 t0 t1 t2 t3 t4 t5 t6 t7 t8) ∈ news)
    (hret : ∀ D k h' tk', Fr h₀ L h' (fun y => if y = Str.ofString "cells" then some (.ref l) else m y) → News h₀ L h' ((D, trip c6 c7 c8 t6 t7 t8 k) :: news) → Q (.ref D) { s with heap := h', toks := tk' }) :
    wpAny (model PySem.Challenge.rw_sh0005_01.row.prog w) (callerA.deeper (lawEnv L fa cd)) (eval (compIter (colExpr 5)) (lawEnv L fa cd)) Q E s := by
  k_fill
  with_unfolding_all change wpAny _ (callerA.deeper (envOf _ (Scope.mk _ _ _ _ _) _ _ _)) (eval (Expr.Subscript _ _ _) (envOf _ (Scope.mk _ _ _ _ _) _ _ _)) _ _ _
  have N2 := more_news N hm
  clear hm
  k_steps
  refine' hret _ _ _ _ ?F ?N
  case F => assumption
  case N => (refine' fun p hp => (by assumption : News _ _ _ (_ :: _ :: news)) p ?_; (rcases List.mem_cons.mp hp with rfl | hp; exact .head _; exact .tail _ (.tail _ hp)))

theorem col_0 {w : World} {p : Program} {loose : List Str} {mean : ExcName → Option Value} {mg mb : Str → Option Value} {fa : Addr} {cd : Value} {h₀ : Heap} {L : Addr} {l : Addr} {dd : Option Addr} {sl : Array (Option Value)} {n : Nat} {m : Str → Option Value} {news : List (Addr × Obj)} {s : Shared} {Q E : Value → Shared → Prop}
    {c0 c1 c2 c3 c4 c5 c6 c7 c8 : Int} {t0 t1 t2 t3 t4 t5 t6 t7 t8 : Tok} (X : (hd.heap_39 w.params).In h₀) (T : Top p loose mean mg mb h₀) (B : Below callerA h₀ [] h₀)
    (F : Fr h₀ L s.heap (fun y => if y = Str.ofString "cells" then some (.ref l) else m y))
    (N : News h₀ L s.heap news) (hm : (l, nineObj dd sl n c0 c1 c2 c3 c4 c5 c6 c7 c8 t0 t1 t2 t3 t4 t5 t6 t7 t8) ∈ news)
    (hret : ∀ D u0 u1 u2 k h' tk', Fr h₀ L h' (fun y => if y = Str.ofString "cells" then some (.ref l) else m y) → News h₀ L h' ((D, trip (2 * c0) (2 * c1) (2 * c2) u0 u1 u2 k) :: news) → Q (.ref D) { s with heap := h', toks := tk' }) :
    wpAny (model PySem.Challenge.rw_sh0005_01.row.prog w) (callerA.deeper (lawEnv L fa cd)) (eval (colExpr 0) (lawEnv L fa cd)) Q E s :=
  comp3 (scope := compScope (colExpr 0)) (elt := compElt (colExpr 0)) (iter := compIter (colExpr 0)) (env := lawEnv L fa cd) F rfl rfl (by decide) rfl (by decide) rfl
    (fun Q' h => slice_0 w p loose mean mg mb fa cd h₀ L l dd sl n m news s Q' E c0 c1 c2 c3 c4 c5 c6 c7 c8 t0 t1 t2 t3 t4 t5 t6 t7 t8 X T B F N hm h)
    (elt_0 w p loose mean mg mb fa cd h₀ L _ X T B) hret (by intro _; with_unfolding_all rfl)

theorem col_1 {w : World} {p : Program} {loose : List Str} {mean : ExcName → Option Value} {mg mb : Str → Option Value} {fa : Addr} {cd : Value} {h₀ : Heap} {L : Addr} {l : Addr} {dd : Option Addr} {sl : Array (Option Value)} {n : Nat} {m : Str → Option Value} {news : List (Addr × Obj)} {s : Shared} {Q E : Value → Shared → Prop}
    {c0 c1 c2 c3 c4 c5 c6 c7 c8 : Int} {t0 t1 t2 t3 t4 t5 t6 t7 t8 : Tok} (X : (hd.heap_39 w.params).In h₀) (T : Top p loose mean mg mb h₀) (B : Below callerA h₀ [] h₀)
    (F : Fr h₀ L s.heap (fun y => if y = Str.ofString "cells" then some (.ref l) else m y))
    (N : News h₀ L s.heap news) (hm : (l, nineObj dd sl n c0 c1 c2 c3 c4 c5 c6 c7 c8 t0 t1 t2 t3 t4 t5 t6 t7 t8) ∈ news)
    (hret : ∀ D u0 u1 u2 k h' tk', Fr h₀ L h' (fun y => if y = Str.ofString "cells" then some (.ref l) else m y) → News h₀ L h' ((D, trip (c0 + 32) (c1 + 32) (c2 + 32) u0 u1 u2 k) :: news) → Q (.ref D) { s with heap := h', toks := tk' }) :
    wpAny (model PySem.Challenge.rw_sh0005_01.row.prog w) (callerA.deeper (lawEnv L fa cd)) (eval (colExpr 1) (lawEnv L fa cd)) Q E s :=
  comp3 (scope := compScope (colExpr 1)) (elt := compElt (colExpr 1)) (iter := compIter (colExpr 1)) (env := lawEnv L fa cd) F rfl rfl (by decide) rfl (by decide) rfl
    (fun Q' h => slice_1 w p loose mean mg mb fa cd h₀ L l dd sl n m news s Q' E c0 c1 c2 c3 c4 c5 c6 c7 c8 t0 t1 t2 t3 t4 t5 t6 t7 t8 X T B F N hm h)
    (elt_1 w p loose mean mg mb fa cd h₀ L _ X T B) hret (by intro _; with_unfolding_all rfl)

theorem col_2 {w : World} {p : Program} {loose : List Str} {mean : ExcName → Option Value} {mg mb : Str → Option Value} {fa : Addr} {cd : Value} {h₀ : Heap} {L : Addr} {l : Addr} {dd : Option Addr} {sl : Array (Option Value)} {n : Nat} {m : Str → Option Value} {news : List (Addr × Obj)} {s : Shared} {Q E : Value → Shared → Prop}
    {c0 c1 c2 c3 c4 c5 c6 c7 c8 : Int} {t0 t1 t2 t3 t4 t5 t6 t7 t8 : Tok} (X : (hd.heap_39 w.params).In h₀) (T : Top p loose mean mg mb h₀) (B : Below callerA h₀ [] h₀)
    (F : Fr h₀ L s.heap (fun y => if y = Str.ofString "cells" then some (.ref l) else m y))
    (N : News h₀ L s.heap news) (hm : (l, nineObj dd sl n c0 c1 c2 c3 c4 c5 c6 c7 c8 t0 t1 t2 t3 t4 t5 t6 t7 t8) ∈ news)
    (hret : ∀ D u0 u1 u2 k h' tk', Fr h₀ L h' (fun y => if y = Str.ofString "cells" then some (.ref l) else m y) → News h₀ L h' ((D, trip (2 * c3) (2 * c4) (2 * c5) u0 u1 u2 k) :: news) → Q (.ref D) { s with heap := h', toks := tk' }) :
    wpAny (model PySem.Challenge.rw_sh0005_01.row.prog w) (callerA.deeper (lawEnv L fa cd)) (eval (colExpr 2) (lawEnv L fa cd)) Q E s :=
  comp3 (scope := compScope (colExpr 2)) (elt := compElt (colExpr 2)) (iter := compIter (colExpr 2)) (env := lawEnv L fa cd) F rfl rfl (by decide) rfl (by decide) rfl
    (fun Q' h => slice_2 w p loose mean mg mb fa cd h₀ L l dd sl n m news s Q' E c0 c1 c2 c3 c4 c5 c6 c7 c8 t0 t1 t2 t3 t4 t5 t6 t7 t8 X T B F N hm h)
    (elt_2 w p loose mean mg mb fa cd h₀ L _ X T B) hret (by intro _; with_unfolding_all rfl)

theorem col_4 {w : World} {p : Program} {loose : List Str} {mean : ExcName → Option Value} {mg mb : Str → Option Value} {fa : Addr} {cd : Value} {h₀ : Heap} {L : Addr} {l : Addr} {dd : Option Addr} {sl : Array (Option Value)} {n : Nat} {m : Str → Option Value} {news : List (Addr × Obj)} {s : Shared} {Q E : Value → Shared → Prop}
    {c0 c1 c2 c3 c4 c5 c6 c7 c8 : Int} {t0 t1 t2 t3 t4 t5 t6 t7 t8 : Tok} (X : (hd.heap_39 w.params).In h₀) (T : Top p loose mean mg mb h₀) (B : Below callerA h₀ [] h₀)
    (F : Fr h₀ L s.heap (fun y => if y = Str.ofString "cells" then some (.ref l) else m y))
    (N : News h₀ L s.heap news) (hm : (l, nineObj dd sl n c0 c1 c2 c3 c4 c5 c6 c7 c8 t0 t1 t2 t3 t4 t5 t6 t7 t8) ∈ news)
    (hret : ∀ D u0 u1 u2 k h' tk', Fr h₀ L h' (fun y => if y = Str.ofString "cells" then some (.ref l) else m y) → News h₀ L h' ((D, trip (2 * c6) (2 * c7) (2 * c8) u0 u1 u2 k) :: news) → Q (.ref D) { s with heap := h', toks := tk' }) :
    wpAny (model PySem.Challenge.rw_sh0005_01.row.prog w) (callerA.deeper (lawEnv L fa cd)) (eval (colExpr 4) (lawEnv L fa cd)) Q E s :=
  comp3 (scope := compScope (colExpr 4)) (elt := compElt (colExpr 4)) (iter := compIter (colExpr 4)) (env := lawEnv L fa cd) F rfl rfl (by decide) rfl (by decide) rfl
    (fun Q' h => slice_4 w p loose mean mg mb fa cd h₀ L l dd sl n m news s Q' E c0 c1 c2 c3 c4 c5 c6 c7 c8 t0 t1 t2 t3 t4 t5 t6 t7 t8 X T B F N hm h)
    (elt_4 w p loose mean mg mb fa cd h₀ L _ X T B) hret (by intro _; with_unfolding_all rfl)

theorem col_5 {w : World} {p : Program} {loose : List Str} {mean : ExcName → Option Value} {mg mb : Str → Option Value} {fa : Addr} {cd : Value} {h₀ : Heap} {L : Addr} {l : Addr} {dd : Option Addr} {sl : Array (Option Value)} {n : Nat} {m : Str → Option Value} {news : List (Addr × Obj)} {s : Shared} {Q E : Value → Shared → Prop}
    {c0 c1 c2 c3 c4 c5 c6 c7 c8 : Int} {t0 t1 t2 t3 t4 t5 t6 t7 t8 : Tok} (X : (hd.heap_39 w.params).In h₀) (T : Top p loose mean mg mb h₀) (B : Below callerA h₀ [] h₀)
    (F : Fr h₀ L s.heap (fun y => if y = Str.ofString "cells" then some (.ref l) else m y))
    (N : News h₀ L s.heap news) (hm : (l, nineObj dd sl n c0 c1 c2 c3 c4 c5 c6 c7 c8 t0 t1 t2 t3 t4 t5 t6 t7 t8) ∈ news)
    (hret : ∀ D u0 u1 u2 k h' tk', Fr h₀ L h' (fun y => if y = Str.ofString "cells" then some (.ref l) else m y) → News h₀ L h' ((D, trip (64 - 2 * c6) (64 - 2 * c7) (64 - 2 * c8) u0 u1 u2 k) :: news) → Q (.ref D) { s with heap := h', toks := tk' }) :
    wpAny (model PySem.Challenge.rw_sh0005_01.row.prog w) (callerA.deeper (lawEnv L fa cd)) (eval (colExpr 5) (lawEnv L fa cd)) Q E s :=
  comp3 (scope := compScope (colExpr 5)) (elt := compElt (colExpr 5)) (iter := compIter (colExpr 5)) (env := lawEnv L fa cd) F rfl rfl (by decide) rfl (by decide) rfl
    (fun Q' h => slice_5 w p loose mean mg mb fa cd h₀ L l dd sl n m news s Q' E c0 c1 c2 c3 c4 c5 c6 c7 c8 t0 t1 t2 t3 t4 t5 t6 t7 t8 X T B F N hm h)
    (elt_5 w p loose mean mg mb fa cd h₀ L _ X T B) hret (by intro _; with_unfolding_all rfl)
end Mine

/-! part W4 -/
namespace Mine
theorem calmW4 : True := by
  w_top off
  trivial
local macro_rules | `(tactic| walk_at "eval ListComp") => `(tactic| (k_here; (with_unfolding_all refine' col_0 ?kX ?kT ?kB ?kF ?kN ?km ?_); (case kX | kT | kB | kF | kN => k_asm); (case km => k_dflt k_mem); intro D' u0' u1' u2' k' h' tk' F' N'; (try dsimp only); (try k_fold)))
local macro_rules | `(tactic| walk_at "eval ListComp") => `(tactic| (k_here; (with_unfolding_all refine' col_1 ?kX ?kT ?kB ?kF ?kN ?km ?_); (case kX | kT | kB | kF | kN => k_asm); (case km => k_dflt k_mem); intro D' u0' u1' u2' k' h' tk' F' N'; (try dsimp only); (try k_fold)))
local macro_rules | `(tactic| walk_at "eval ListComp") => `(tactic| (k_here; (with_unfolding_all refine' col_2 ?kX ?kT ?kB ?kF ?kN ?km ?_); (case kX | kT | kB | kF | kN => k_asm); (case km => k_dflt k_mem); intro D' u0' u1' u2' k' h' tk' F' N'; (try dsimp only); (try k_fold)))
local macro_rules | `(tactic| walk_at "eval ListComp") => `(tactic| (k_here; (with_unfolding_all refine' col_4 ?kX ?kT ?kB ?kF ?kN ?km ?_); (case kX | kT | kB | kF | kN => k_asm); (case km => k_dflt k_mem); intro D' u0' u1' u2' k' h' tk' F' N'; (try dsimp only); (try k_fold)))
local macro_rules | `(tactic| walk_at "eval ListComp") => `(tactic| (k_here; (with_unfolding_all refine' col_5 ?kX ?kT ?kB ?kF ?kN ?km ?_); (case kX | kT | kB | kF | kN => k_asm); (case km => k_dflt k_mem); intro D' u0' u1' u2' k' h' tk' F' N'; (try dsimp only); (try k_fold)))
local macro_rules | `(tactic| walk_at "eval Subscript") => `(tactic| (k_here; (with_unfolding_all refine' slice_3 ?kX ?kT ?kB ?kF ?kN ?km ?_); (case kX | kT | kB | kF | kN => k_asm); (case km => k_dflt k_mem); intro D' k' h' tk' F' N'; (try dsimp only); (try k_fold)))

noncomputable abbrev IsTrip (o : Obj) (a b c : Int) : Prop := ∃ t u v n, o = trip a b c t u v n
structure ColEnd (h₀ : Heap) (L : Addr) (m : Str → Option Value) (c0 c1 c2 c3 c4 c5 c6 c7 c8 : Int) (s : Shared) (f : Flow) (s' : Shared) : Prop where
  next : f = .next
  here : ∃ h tk C k D0 D1 D2 D3 D4 D5 o0 o1 o2 o3 o4 o5, s' = { s with heap := h, toks := tk } ∧ Fr h₀ L h (fun y => if y = Str.ofString "colours" then some (.ref C) else m y) ∧
    News h₀ L h [(C, W.listOf #[.ref D0, .ref D1, .ref D2, .ref D3, .ref D4, .ref D5] k), (D5, o5), (D4, o4), (D3, o3), (D2, o2), (D1, o1), (D0, o0)] ∧ IsTrip o0 (2 * c0) (2 * c1) (2 * c2) ∧ IsTrip o1 (c0 + 32) (c1 + 32) (c2 + 32) ∧ IsTrip o2 (2 * c3) (2 * c4) (2 * c5) ∧ IsTrip o3 c3 c4 c5 ∧ IsTrip o4 (2 * c6) (2 * c7) (2 * c8) ∧ IsTrip o5 (64 - 2 * c6) (64 - 2 * c7) (64 - 2 * c8)
theorem colEnd_of {h₀ h : Heap} {L C D0 D1 D2 D3 D4 D5 : Addr} {m : Str → Option Value} {s : Shared} {tk k : Nat} {c0 c1 c2 c3 c4 c5 c6 c7 c8 : Int} {o0 o1 o2 o3 o4 o5 : Obj} {l : Addr} {ol : Obj} (F : Fr h₀ L h (fun y => if y = Str.ofString "colours" then some (.ref C) else m y)) (N : News h₀ L h [(C, W.listOf #[.ref D0, .ref D1, .ref D2, .ref D3, .ref D4, .ref D5] k), (D5, o5), (D4, o4), (D3, o3), (D2, o2), (D1, o1), (D0, o0), (l, ol)])
    (i0 : IsTrip o0 (2 * c0) (2 * c1) (2 * c2)) (i1 : IsTrip o1 (c0 + 32) (c1 + 32) (c2 + 32)) (i2 : IsTrip o2 (2 * c3) (2 * c4) (2 * c5)) (i3 : IsTrip o3 c3 c4 c5) (i4 : IsTrip o4 (2 * c6) (2 * c7) (2 * c8)) (i5 : IsTrip o5 (64 - 2 * c6) (64 - 2 * c7) (64 - 2 * c8)) : ColEnd h₀ L m c0 c1 c2 c3 c4 c5 c6 c7 c8 s .next { s with heap := h, toks := tk } :=
  ⟨rfl, h, tk, C, k, D0, D1, D2, D3, D4, D5, o0, o1, o2, o3, o4, o5, rfl, F, fun p hp => N p (by simp only [List.mem_cons, List.not_mem_nil, or_false] at hp ⊢; rcases hp with h | h | h | h | h | h | h <;> simp [h]), i0, i1, i2, i3, i4, i5⟩
set_option maxRecDepth 100000 in
set_option maxHeartbeats 8000000 in
theorem colours_step (w : World) (p : Program) (loose : List Str) (mean : ExcName → Option Value) (mg mb : Str → Option Value) (fa : Addr) (cd : Value) (h₀ : Heap) (L : Addr) (l : Addr) (dd : Option Addr) (sl : Array (Option Value)) (n : Nat) (m : Str → Option Value) (s : Shared) (E : Value → Shared → Prop)
    (c0 c1 c2 c3 c4 c5 c6 c7 c8 : Int) (t0 t1 t2 t3 t4 t5 t6 t7 t8 : Tok) (X : (hd.heap_39 w.params).In h₀) (T : Top p loose mean mg mb h₀) (B : Below callerA h₀ [] h₀)
    (F : Fr h₀ L s.heap (fun y => if y = Str.ofString "cells" then some (.ref l) else m y))
    (N : News h₀ L s.heap [(l, nineObj dd sl n c0 c1 c2 c3 c4 c5 c6 c7 c8 t0 t1 t2 t3 t4 t5 t6 t7 t8)]) :
    wpAny (model PySem.Challenge.rw_sh0005_01.row.prog w) (callerA.deeper (lawEnv L fa cd)) (exec (lawBody.getD 3 (.Pass ⟨0, 0, 0, 0⟩)) (lawEnv L fa cd)) (fun f s' => ColEnd h₀ L (fun y => if y = Str.ofString "cells" then some (.ref l) else m y) c0 c1 c2 c3 c4 c5 c6 c7 c8 s f s') E s := by
  k_fill
  with_unfolding_all change wpAny _ (callerA.deeper (envOf _ (Scope.mk _ _ _ _ _) _ _ _)) (exec (Stmt.Assign _ _ _) (envOf _ (Scope.mk _ _ _ _ _) _ _ _)) _ _ _
  k_steps
  exact colEnd_of (by assumption) (by assumption) ⟨_, _, _, _, rfl⟩ ⟨_, _, _, _, rfl⟩ ⟨_, _, _, _, rfl⟩ ⟨_, _, _, _, rfl⟩ ⟨_, _, _, _, rfl⟩ ⟨_, _, _, _, rfl⟩
end Mine

/-! part W5 -/
namespace Mine
theorem calmW5 : True := by
  w_top off
  trivial

/-- a part of 64 as the program reckons it -/
noncomputable abbrev cf (r : Int) : UInt64 := Float64.ofFrac (decide (r < 0) != decide ((64 : Int) < 0)) r.natAbs (Int.natAbs 64)
/-- a statement that goes on, what it leaves behind -/
structure StepE {α : Type} (h₀ : Heap) (L : Addr) (P : α → Prop) (mk : α → Str → Option Value) (led : α → List (Addr × Obj)) (s : Shared) (f : Flow) (s' : Shared) : Prop where
  next : f = .next
  here : ∃ a h tk, s' = { s with heap := h, toks := tk } ∧ Fr h₀ L h (mk a) ∧ News h₀ L h (led a) ∧ P a
theorem stepE_of {α : Type} {h₀ h : Heap} {L : Addr} {P : α → Prop} {mk : α → Str → Option Value} {led : α → List (Addr × Obj)} {s : Shared} {tk : Nat} (a : α) (F : Fr h₀ L h (mk a)) (N : News h₀ L h (led a)) (p : P a) : StepE h₀ L P mk led s .next { s with heap := h, toks := tk } :=
  ⟨rfl, a, h, tk, rfl, F, N, p⟩
theorem drop_mid {h₀ h : Heap} {L : Addr} {a b : Addr × Obj} {r : List (Addr × Obj)} (N : News h₀ L h (a :: b :: r)) : News h₀ L h (a :: r) := fun p hp => N p (by
  rcases List.mem_cons.mp hp with rfl | hp
  · exact .head _
  · exact .tail _ (.tail _ hp))
theorem min_is {x r g b : Int} (h : (x = r ∨ x = g ∨ x = b) ∧ x ≤ r ∧ x ≤ g ∧ x ≤ b) : x = min r (min g b) := by
  obtain ⟨h, h1, h2, h3⟩ := h
  refine Int.le_antisymm (Int.le_min.mpr ⟨h1, Int.le_min.mpr ⟨h2, h3⟩⟩) ?_
  rcases h with h | h | h <;> rw [h]
  · exact Int.min_le_left _ _
  · exact Int.le_trans (Int.min_le_right _ _) (Int.min_le_left _ _)
  · exact Int.le_trans (Int.min_le_right _ _) (Int.min_le_right _ _)
theorem max_is {x r g b : Int} (h : (x = r ∨ x = g ∨ x = b) ∧ r ≤ x ∧ g ≤ x ∧ b ≤ x) : x = max r (max g b) := by
  obtain ⟨h, h1, h2, h3⟩ := h
  refine Int.le_antisymm ?_ (Int.max_le.mpr ⟨h1, Int.max_le.mpr ⟨h2, h3⟩⟩)
  rcases h with h | h | h <;> rw [h]
  · exact Int.le_max_left _ _
  · exact Int.le_trans (Int.le_max_left _ _) (Int.le_max_right _ _)
  · exact Int.le_trans (Int.le_max_right _ _) (Int.le_max_right _ _)
theorem levels_of {r g b : Int} {v' : List Value} {n' : List Int} (i : IntsAre v' n') (e : n'.length = 0 + 1 + 1 + 1)
    (hb : (n'.getD (Int.toNat 0) 0 = r ∨ n'.getD (Int.toNat 0) 0 = g ∨ n'.getD (Int.toNat 0) 0 = b) ∧ n'.getD (Int.toNat 0) 0 ≤ r ∧ n'.getD (Int.toNat 0) 0 ≤ g ∧ n'.getD (Int.toNat 0) 0 ≤ b)
    (ht : (n'.getD (Int.toNat 2) 0 = r ∨ n'.getD (Int.toNat 2) 0 = g ∨ n'.getD (Int.toNat 2) 0 = b) ∧ r ≤ n'.getD (Int.toNat 2) 0 ∧ g ≤ n'.getD (Int.toNat 2) 0 ∧ b ≤ n'.getD (Int.toNat 2) 0) :
    ∃ mid t u v, v' = [.int (min r (min g b)) t, .int mid u, .int (max r (max g b)) v] := by
  match n', e with
  | [x, y, z], _ =>
    cases i with | cons _ t i =>
    cases i with | cons _ u i =>
    cases i with | cons _ v i =>
    cases i
    have hb' : (x = r ∨ x = g ∨ x = b) ∧ x ≤ r ∧ x ≤ g ∧ x ≤ b := hb
    have ht' : (z = r ∨ z = g ∨ z = b) ∧ r ≤ z ∧ g ≤ z ∧ b ≤ z := ht
    have e1 := min_is hb'
    have e2 := max_is ht'
    exact ⟨y, t, u, v, by rw [← e1, ← e2]⟩
local macro_rules | `(tactic| walk_at "call ref") => `(tactic| (k_here; (first | (with_unfolding_all refine' use_claim (far_fi _ _ _ _ ?hH) rfl rfl ?k1 ?k2 ?k3 ?k4 ?k5 ?k6 ?k7 ?k8 ?_) | (with_unfolding_all refine' use_claim (far_ff _ _ _ _) rfl rfl ?k1 ?k2 ?k3 ?k4 ?k5 ?k6 ?k7 ?k8 ?_) | (with_unfolding_all refine' use_claim (yiqr_call _ _ _ _ _ _) rfl rfl ?k1 ?k2 ?k3 ?k4 ?k5 ?k6 ?k7 ?k8 ?_) | (with_unfolding_all refine' use_claim (hlsr_call _ _ _ _ _ _) rfl rfl ?k1 ?k2 ?k3 ?k4 ?k5 ?k6 ?k7 ?k8 ?_) | (with_unfolding_all refine' use_claim (hsvr_call _ _ _ _ _ _ ?hH) rfl rfl ?k1 ?k2 ?k3 ?k4 ?k5 ?k6 ?k7 ?k8 ?_) | (with_unfolding_all refine' use_claim (hls_call _ _ _ _ _ _ ?hH) rfl rfl ?k1 ?k2 ?k3 ?k4 ?k5 ?k6 ?k7 ?k8 ?_) | (with_unfolding_all refine' use_claim (hsv_call _ _ _ _ _ _ ?hH) rfl rfl ?k1 ?k2 ?k3 ?k4 ?k5 ?k6 ?k7 ?k8 ?_) | (with_unfolding_all refine' use_claim (yiq_call _ _ _ _ _ _) rfl rfl ?k1 ?k2 ?k3 ?k4 ?k5 ?k6 ?k7 ?k8 ?_)); (case k1 | k2 | k3 | k4 | k5 => k_asm); (case k6 => first | exact rfl | assumption); (case k7 => ktr_room); (case k8 => ktr_units); (try (case hH => first | assumption | omega)); (first | (intro D' t1' t2' t3' n' h' tk' F' N' l1; (try dsimp only); (try k_lt l1)) | (intro h' tk' F' N'; (try dsimp only))); (try k_fold)))

set_option maxRecDepth 100000 in
set_option maxHeartbeats 8000000 in
theorem st0 (w : World) (p : Program) (loose : List Str) (mean : ExcName → Option Value) (mg mb : Str → Option Value) (fa : Addr) (cd : Value) (h₀ : Heap) (L : Addr) (m : Str → Option Value) (own : List (Addr × Obj)) (s : Shared) (E : Value → Shared → Prop) (r g b : Int) (tr tg tb : Tok) (D : Addr) (n : Nat) (vs : List Value) (hr : 0 ≤ r ∧ r ≤ 64) (hg : 0 ≤ g ∧ g ≤ 64) (hb : 0 ≤ b ∧ b ≤ 64)
    (h1 : eqF (min3F (cf r) (cf g) (cf b)) (max3F (cf r) (cf g) (cf b)) = false → Float64.isZero (max3F (cf r) (cf g) (cf b)) = false ∧ Float64.isZero (Float64.sub (max3F (cf r) (cf g) (cf b)) (min3F (cf r) (cf g) (cf b))) = false)
    (X : (hd.heap_39 w.params).In h₀) (T : Top p loose mean mg mb h₀) (B : Below callerA h₀ [] h₀)
    (F : Fr h₀ L s.heap (fun y => if y = Str.ofString "blue" then some (.int b tb) else if y = Str.ofString "green" then some (.int g tg) else if y = Str.ofString "red" then some (.int r tr) else if y = Str.ofString "told" then some (.ref D) else m y)) (N : News h₀ L s.heap ((D, W.listOf (List.toArray vs) n) :: own)) :
    wpAny (model PySem.Challenge.rw_sh0005_01.row.prog w) (callerA.deeper (lawEnv L fa cd)) (exec (turnBody.getD 0 (.Pass ⟨0, 0, 0, 0⟩)) (lawEnv L fa cd)) (fun f s' => StepE h₀ L (fun (a : Tok × Tok × Tok) => True) (fun (a : Tok × Tok × Tok) => (fun y => if y = Str.ofString "value" then some (.float (hsvF (cf r) (cf g) (cf b)).2.2 a.2.2) else if y = Str.ofString "share" then some (.float (hsvF (cf r) (cf g) (cf b)).2.1 a.2.1) else if y = Str.ofString "hue" then some (.float (hsvF (cf r) (cf g) (cf b)).1 a.1) else if y = Str.ofString "blue" then some (.int b tb) else if y = Str.ofString "green" then some (.int g tg) else if y = Str.ofString "red" then some (.int r tr) else if y = Str.ofString "told" then some (.ref D) else m y)) (fun (a : Tok × Tok × Tok) => ((D, W.listOf (List.toArray vs) n) :: own)) s f s') E s := by
  revert X
  k_fill
  intro X
  with_unfolding_all change wpAny _ (callerA.deeper (envOf _ (Scope.mk _ _ _ _ _) _ _ _)) (exec (Stmt.Assign _ _ _) (envOf _ (Scope.mk _ _ _ _ _) _ _ _)) _ _ _
  dsimp only
  obtain ⟨hr1, hr2⟩ := hr
  obtain ⟨hg1, hg2⟩ := hg
  obtain ⟨hb1, hb2⟩ := hb
  k_steps
  exact stepE_of (_, _, _) (by assumption) (less_news (by assumption)) trivial

set_option maxRecDepth 100000 in
set_option maxHeartbeats 8000000 in
theorem st1 (w : World) (p : Program) (loose : List Str) (mean : ExcName → Option Value) (mg mb : Str → Option Value) (fa : Addr) (cd : Value) (h₀ : Heap) (L : Addr) (m : Str → Option Value) (own : List (Addr × Obj)) (s : Shared) (E : Value → Shared → Prop) (r g b : Int) (tr tg tb : Tok) (D : Addr) (n : Nat) (vs : List Value) (hu sh va : UInt64) (thu tsh tva : Tok)  (hr : 0 ≤ r ∧ r ≤ 64) (hg : 0 ≤ g ∧ g ≤ 64) (hb : 0 ≤ b ∧ b ≤ 64)
    (h2 : eqF (min3F (cf r) (cf g) (cf b)) (max3F (cf r) (cf g) (cf b)) = false → Float64.isZero (Float64.sub (max3F (cf r) (cf g) (cf b)) (min3F (cf r) (cf g) (cf b))) = false ∧ Float64.isZero (Float64.add (max3F (cf r) (cf g) (cf b)) (min3F (cf r) (cf g) (cf b))) = false ∧ (leF (lightF (cf r) (cf g) (cf b)) 4602678819172646912 = false → Float64.isZero (Float64.sub (Float64.sub 4611686018427387904 (max3F (cf r) (cf g) (cf b))) (min3F (cf r) (cf g) (cf b))) = false))
    (X : (hd.heap_39 w.params).In h₀) (T : Top p loose mean mg mb h₀) (B : Below callerA h₀ [] h₀)
    (F : Fr h₀ L s.heap (fun y => if y = Str.ofString "value" then some (.float va tva) else if y = Str.ofString "share" then some (.float sh tsh) else if y = Str.ofString "hue" then some (.float hu thu) else if y = Str.ofString "blue" then some (.int b tb) else if y = Str.ofString "green" then some (.int g tg) else if y = Str.ofString "red" then some (.int r tr) else if y = Str.ofString "told" then some (.ref D) else m y)) (N : News h₀ L s.heap ((D, W.listOf (List.toArray vs) n) :: own)) :
    wpAny (model PySem.Challenge.rw_sh0005_01.row.prog w) (callerA.deeper (lawEnv L fa cd)) (exec (turnBody.getD 1 (.Pass ⟨0, 0, 0, 0⟩)) (lawEnv L fa cd)) (fun f s' => StepE h₀ L (fun (a : Tok × Tok × Tok) => True) (fun (a : Tok × Tok × Tok) => (fun y => if y = Str.ofString "depth" then some (.float (hlsF (cf r) (cf g) (cf b)).2.2 a.2.2) else if y = Str.ofString "light" then some (.float (hlsF (cf r) (cf g) (cf b)).2.1 a.2.1) else if y = Str.ofString "same_hue" then some (.float (hlsF (cf r) (cf g) (cf b)).1 a.1) else if y = Str.ofString "value" then some (.float va tva) else if y = Str.ofString "share" then some (.float sh tsh) else if y = Str.ofString "hue" then some (.float hu thu) else if y = Str.ofString "blue" then some (.int b tb) else if y = Str.ofString "green" then some (.int g tg) else if y = Str.ofString "red" then some (.int r tr) else if y = Str.ofString "told" then some (.ref D) else m y)) (fun (a : Tok × Tok × Tok) => ((D, W.listOf (List.toArray vs) n) :: own)) s f s') E s := by
  revert X
  k_fill
  intro X
  with_unfolding_all change wpAny _ (callerA.deeper (envOf _ (Scope.mk _ _ _ _ _) _ _ _)) (exec (Stmt.Assign _ _ _) (envOf _ (Scope.mk _ _ _ _ _) _ _ _)) _ _ _
  dsimp only
  obtain ⟨hr1, hr2⟩ := hr
  obtain ⟨hg1, hg2⟩ := hg
  obtain ⟨hb1, hb2⟩ := hb
  k_steps
  exact stepE_of (_, _, _) (by assumption) (less_news (by assumption)) trivial

set_option maxRecDepth 100000 in
set_option maxHeartbeats 8000000 in
theorem st2 (w : World) (p : Program) (loose : List Str) (mean : ExcName → Option Value) (mg mb : Str → Option Value) (fa : Addr) (cd : Value) (h₀ : Heap) (L : Addr) (m : Str → Option Value) (own : List (Addr × Obj)) (s : Shared) (E : Value → Shared → Prop) (r g b : Int) (tr tg tb : Tok) (D : Addr) (n : Nat) (vs : List Value) (hu sh va : UInt64) (thu tsh tva : Tok) (sa li de : UInt64) (tsa tli tde : Tok)  (hr : 0 ≤ r ∧ r ≤ 64) (hg : 0 ≤ g ∧ g ≤ 64) (hb : 0 ≤ b ∧ b ≤ 64)
    (X : (hd.heap_39 w.params).In h₀) (T : Top p loose mean mg mb h₀) (B : Below callerA h₀ [] h₀)
    (F : Fr h₀ L s.heap (fun y => if y = Str.ofString "depth" then some (.float de tde) else if y = Str.ofString "light" then some (.float li tli) else if y = Str.ofString "same_hue" then some (.float sa tsa) else if y = Str.ofString "value" then some (.float va tva) else if y = Str.ofString "share" then some (.float sh tsh) else if y = Str.ofString "hue" then some (.float hu thu) else if y = Str.ofString "blue" then some (.int b tb) else if y = Str.ofString "green" then some (.int g tg) else if y = Str.ofString "red" then some (.int r tr) else if y = Str.ofString "told" then some (.ref D) else m y)) (N : News h₀ L s.heap ((D, W.listOf (List.toArray vs) n) :: own)) :
    wpAny (model PySem.Challenge.rw_sh0005_01.row.prog w) (callerA.deeper (lawEnv L fa cd)) (exec (turnBody.getD 2 (.Pass ⟨0, 0, 0, 0⟩)) (lawEnv L fa cd)) (fun f s' => StepE h₀ L (fun (a : Tok × Tok × Tok) => True) (fun (a : Tok × Tok × Tok) => (fun y => if y = Str.ofString "second_axis" then some (.float (yiqF (cf r) (cf g) (cf b)).2.2 a.2.2) else if y = Str.ofString "first_axis" then some (.float (yiqF (cf r) (cf g) (cf b)).2.1 a.2.1) else if y = Str.ofString "luma" then some (.float (yiqF (cf r) (cf g) (cf b)).1 a.1) else if y = Str.ofString "depth" then some (.float de tde) else if y = Str.ofString "light" then some (.float li tli) else if y = Str.ofString "same_hue" then some (.float sa tsa) else if y = Str.ofString "value" then some (.float va tva) else if y = Str.ofString "share" then some (.float sh tsh) else if y = Str.ofString "hue" then some (.float hu thu) else if y = Str.ofString "blue" then some (.int b tb) else if y = Str.ofString "green" then some (.int g tg) else if y = Str.ofString "red" then some (.int r tr) else if y = Str.ofString "told" then some (.ref D) else m y)) (fun (a : Tok × Tok × Tok) => ((D, W.listOf (List.toArray vs) n) :: own)) s f s') E s := by
  revert X
  k_fill
  intro X
  with_unfolding_all change wpAny _ (callerA.deeper (envOf _ (Scope.mk _ _ _ _ _) _ _ _)) (exec (Stmt.Assign _ _ _) (envOf _ (Scope.mk _ _ _ _ _) _ _ _)) _ _ _
  dsimp only
  obtain ⟨hr1, hr2⟩ := hr
  obtain ⟨hg1, hg2⟩ := hg
  obtain ⟨hb1, hb2⟩ := hb
  k_steps
  exact stepE_of (_, _, _) (by assumption) (less_news (by assumption)) trivial

set_option maxRecDepth 100000 in
set_option maxHeartbeats 8000000 in
theorem st3 (w : World) (p : Program) (loose : List Str) (mean : ExcName → Option Value) (mg mb : Str → Option Value) (fa : Addr) (cd : Value) (h₀ : Heap) (L : Addr) (m : Str → Option Value) (own : List (Addr × Obj)) (s : Shared) (E : Value → Shared → Prop) (r g b : Int) (tr tg tb : Tok) (D : Addr) (n : Nat) (vs : List Value) (hu sh va : UInt64) (thu tsh tva : Tok) (sa li de : UInt64) (tsa tli tde : Tok) (lu ia qa : UInt64) (tlu tia tqa : Tok)  (hr : 0 ≤ r ∧ r ≤ 64) (hg : 0 ≤ g ∧ g ≤ 64) (hb : 0 ≤ b ∧ b ≤ 64)
    (X : (hd.heap_39 w.params).In h₀) (T : Top p loose mean mg mb h₀) (B : Below callerA h₀ [] h₀)
    (F : Fr h₀ L s.heap (fun y => if y = Str.ofString "second_axis" then some (.float qa tqa) else if y = Str.ofString "first_axis" then some (.float ia tia) else if y = Str.ofString "luma" then some (.float lu tlu) else if y = Str.ofString "depth" then some (.float de tde) else if y = Str.ofString "light" then some (.float li tli) else if y = Str.ofString "same_hue" then some (.float sa tsa) else if y = Str.ofString "value" then some (.float va tva) else if y = Str.ofString "share" then some (.float sh tsh) else if y = Str.ofString "hue" then some (.float hu thu) else if y = Str.ofString "blue" then some (.int b tb) else if y = Str.ofString "green" then some (.int g tg) else if y = Str.ofString "red" then some (.int r tr) else if y = Str.ofString "told" then some (.ref D) else m y)) (N : News h₀ L s.heap ((D, W.listOf (List.toArray vs) n) :: own)) :
    wpAny (model PySem.Challenge.rw_sh0005_01.row.prog w) (callerA.deeper (lawEnv L fa cd)) (exec (turnBody.getD 3 (.Pass ⟨0, 0, 0, 0⟩)) (lawEnv L fa cd)) (fun f s' => StepE h₀ L (fun (a : Addr × Int × Tok × Tok × Tok × Nat) => @Ne Nat a.1 D) (fun (a : Addr × Int × Tok × Tok × Tok × Nat) => (fun y => if y = Str.ofString "levels" then some (.ref a.1) else if y = Str.ofString "second_axis" then some (.float qa tqa) else if y = Str.ofString "first_axis" then some (.float ia tia) else if y = Str.ofString "luma" then some (.float lu tlu) else if y = Str.ofString "depth" then some (.float de tde) else if y = Str.ofString "light" then some (.float li tli) else if y = Str.ofString "same_hue" then some (.float sa tsa) else if y = Str.ofString "value" then some (.float va tva) else if y = Str.ofString "share" then some (.float sh tsh) else if y = Str.ofString "hue" then some (.float hu thu) else if y = Str.ofString "blue" then some (.int b tb) else if y = Str.ofString "green" then some (.int g tg) else if y = Str.ofString "red" then some (.int r tr) else if y = Str.ofString "told" then some (.ref D) else m y)) (fun (a : Addr × Int × Tok × Tok × Tok × Nat) => ((a.1, W.listOf (List.toArray [Value.int (min r (min g b)) a.2.2.1, .int a.2.1 a.2.2.2.1, .int (max r (max g b)) a.2.2.2.2.1]) a.2.2.2.2.2) :: (D, W.listOf (List.toArray vs) n) :: own)) s f s') E s := by
  revert X
  k_fill
  intro X
  with_unfolding_all change wpAny _ (callerA.deeper (envOf _ (Scope.mk _ _ _ _ _) _ _ _)) (exec (Stmt.Assign _ _ _) (envOf _ (Scope.mk _ _ _ _ _) _ _ _)) _ _ _
  dsimp only
  obtain ⟨hr1, hr2⟩ := hr
  obtain ⟨hg1, hg2⟩ := hg
  obtain ⟨hb1, hb2⟩ := hb
  k_steps
  obtain ⟨mid, t, u, v, rfl⟩ := levels_of (r := r) (g := g) (b := b) (by assumption) (by assumption) (by assumption) (by assumption)
  exact stepE_of (_, mid, t, u, v, _) (by assumption) (drop_mid (by assumption)) (by show @Ne Nat _ _; omega)

set_option maxRecDepth 100000 in
set_option maxHeartbeats 8000000 in
theorem st4 (w : World) (p : Program) (loose : List Str) (mean : ExcName → Option Value) (mg mb : Str → Option Value) (fa : Addr) (cd : Value) (h₀ : Heap) (L : Addr) (m : Str → Option Value) (own : List (Addr × Obj)) (s : Shared) (E : Value → Shared → Prop) (r g b : Int) (tr tg tb : Tok) (D : Addr) (n : Nat) (vs : List Value) (hu sh va : UInt64) (thu tsh tva : Tok) (sa li de : UInt64) (tsa tli tde : Tok) (lu ia qa : UInt64) (tlu tia tqa : Tok) (LV : Addr) (mid : Int) (tl1 tl2 tl3 : Tok) (nl : Nat)  (hr : 0 ≤ r ∧ r ≤ 64) (hg : 0 ≤ g ∧ g ≤ 64) (hb : 0 ≤ b ∧ b ≤ 64)
    (X : (hd.heap_39 w.params).In h₀) (T : Top p loose mean mg mb h₀) (B : Below callerA h₀ [] h₀)
    (F : Fr h₀ L s.heap (fun y => if y = Str.ofString "levels" then some (.ref LV) else if y = Str.ofString "second_axis" then some (.float qa tqa) else if y = Str.ofString "first_axis" then some (.float ia tia) else if y = Str.ofString "luma" then some (.float lu tlu) else if y = Str.ofString "depth" then some (.float de tde) else if y = Str.ofString "light" then some (.float li tli) else if y = Str.ofString "same_hue" then some (.float sa tsa) else if y = Str.ofString "value" then some (.float va tva) else if y = Str.ofString "share" then some (.float sh tsh) else if y = Str.ofString "hue" then some (.float hu thu) else if y = Str.ofString "blue" then some (.int b tb) else if y = Str.ofString "green" then some (.int g tg) else if y = Str.ofString "red" then some (.int r tr) else if y = Str.ofString "told" then some (.ref D) else m y)) (N : News h₀ L s.heap ((LV, W.listOf (List.toArray [Value.int (min r (min g b)) tl1, .int mid tl2, .int (max r (max g b)) tl3]) nl) :: (D, W.listOf (List.toArray vs) n) :: own)) :
    wpAny (model PySem.Challenge.rw_sh0005_01.row.prog w) (callerA.deeper (lawEnv L fa cd)) (exec (turnBody.getD 4 (.Pass ⟨0, 0, 0, 0⟩)) (lawEnv L fa cd)) (fun f s' => StepE h₀ L (fun (a : Tok) => True) (fun (a : Tok) => (fun y => if y = Str.ofString "around" then some (.int (((if r - g < 0 then -(r - g) else r - g) + (if g - b < 0 then -(g - b) else g - b)) + (if b - r < 0 then -(b - r) else b - r)) a) else if y = Str.ofString "levels" then some (.ref LV) else if y = Str.ofString "second_axis" then some (.float qa tqa) else if y = Str.ofString "first_axis" then some (.float ia tia) else if y = Str.ofString "luma" then some (.float lu tlu) else if y = Str.ofString "depth" then some (.float de tde) else if y = Str.ofString "light" then some (.float li tli) else if y = Str.ofString "same_hue" then some (.float sa tsa) else if y = Str.ofString "value" then some (.float va tva) else if y = Str.ofString "share" then some (.float sh tsh) else if y = Str.ofString "hue" then some (.float hu thu) else if y = Str.ofString "blue" then some (.int b tb) else if y = Str.ofString "green" then some (.int g tg) else if y = Str.ofString "red" then some (.int r tr) else if y = Str.ofString "told" then some (.ref D) else m y)) (fun (a : Tok) => ((LV, W.listOf (List.toArray [Value.int (min r (min g b)) tl1, .int mid tl2, .int (max r (max g b)) tl3]) nl) :: (D, W.listOf (List.toArray vs) n) :: own)) s f s') E s := by
  revert X
  k_fill
  intro X
  with_unfolding_all change wpAny _ (callerA.deeper (envOf _ (Scope.mk _ _ _ _ _) _ _ _)) (exec (Stmt.Assign _ _ _) (envOf _ (Scope.mk _ _ _ _ _) _ _ _)) _ _ _
  dsimp only
  obtain ⟨hr1, hr2⟩ := hr
  obtain ⟨hg1, hg2⟩ := hg
  obtain ⟨hb1, hb2⟩ := hb
  k_steps
  exact stepE_of _ (by assumption) (by assumption) trivial

/-! part W6 -/
theorem calmW6 : True := by
  w_top off
  trivial

set_option maxRecDepth 100000 in
set_option maxHeartbeats 8000000 in
theorem st5 (w : World) (p : Program) (loose : List Str) (mean : ExcName → Option Value) (mg mb : Str → Option Value) (fa : Addr) (cd : Value) (h₀ : Heap) (L : Addr) (m : Str → Option Value) (own : List (Addr × Obj)) (s : Shared) (E : Value → Shared → Prop) (r g b : Int) (tr tg tb : Tok) (D : Addr) (n : Nat) (vs : List Value) (hu sh va : UInt64) (thu tsh tva : Tok) (sa li de : UInt64) (tsa tli tde : Tok) (lu ia qa : UInt64) (tlu tia tqa : Tok) (LV : Addr) (mid : Int) (tl1 tl2 tl3 : Tok) (nl : Nat) (ar : Int) (tar : Tok)  (hr : 0 ≤ r ∧ r ≤ 64) (hg : 0 ≤ g ∧ g ≤ 64) (hb : 0 ≤ b ∧ b ≤ 64)
    (e1 : (Float64.cmp hu sa != some Ordering.eq) = false) (e2 : (Float64.cmpInt hu 0 == some Ordering.lt) = false) (e3 : (Float64.cmpInt hu 1 == some Ordering.gt || Float64.cmpInt hu 1 == some Ordering.eq) = false)
    (X : (hd.heap_39 w.params).In h₀) (T : Top p loose mean mg mb h₀) (B : Below callerA h₀ [] h₀)
    (F : Fr h₀ L s.heap (fun y => if y = Str.ofString "around" then some (.int ar tar) else if y = Str.ofString "levels" then some (.ref LV) else if y = Str.ofString "second_axis" then some (.float qa tqa) else if y = Str.ofString "first_axis" then some (.float ia tia) else if y = Str.ofString "luma" then some (.float lu tlu) else if y = Str.ofString "depth" then some (.float de tde) else if y = Str.ofString "light" then some (.float li tli) else if y = Str.ofString "same_hue" then some (.float sa tsa) else if y = Str.ofString "value" then some (.float va tva) else if y = Str.ofString "share" then some (.float sh tsh) else if y = Str.ofString "hue" then some (.float hu thu) else if y = Str.ofString "blue" then some (.int b tb) else if y = Str.ofString "green" then some (.int g tg) else if y = Str.ofString "red" then some (.int r tr) else if y = Str.ofString "told" then some (.ref D) else m y)) (N : News h₀ L s.heap ((LV, W.listOf (List.toArray [Value.int (min r (min g b)) tl1, .int mid tl2, .int (max r (max g b)) tl3]) nl) :: (D, W.listOf (List.toArray vs) n) :: own)) :
    wpAny (model PySem.Challenge.rw_sh0005_01.row.prog w) (callerA.deeper (lawEnv L fa cd)) (exec (turnBody.getD 5 (.Pass ⟨0, 0, 0, 0⟩)) (lawEnv L fa cd)) (fun f s' => StepE h₀ L (fun (a : Unit) => True) (fun (a : Unit) => (fun y => if y = Str.ofString "around" then some (.int ar tar) else if y = Str.ofString "levels" then some (.ref LV) else if y = Str.ofString "second_axis" then some (.float qa tqa) else if y = Str.ofString "first_axis" then some (.float ia tia) else if y = Str.ofString "luma" then some (.float lu tlu) else if y = Str.ofString "depth" then some (.float de tde) else if y = Str.ofString "light" then some (.float li tli) else if y = Str.ofString "same_hue" then some (.float sa tsa) else if y = Str.ofString "value" then some (.float va tva) else if y = Str.ofString "share" then some (.float sh tsh) else if y = Str.ofString "hue" then some (.float hu thu) else if y = Str.ofString "blue" then some (.int b tb) else if y = Str.ofString "green" then some (.int g tg) else if y = Str.ofString "red" then some (.int r tr) else if y = Str.ofString "told" then some (.ref D) else m y)) (fun (a : Unit) => ((LV, W.listOf (List.toArray [Value.int (min r (min g b)) tl1, .int mid tl2, .int (max r (max g b)) tl3]) nl) :: (D, W.listOf (List.toArray vs) n) :: own)) s f s') E s := by
  revert X
  k_fill
  intro X
  with_unfolding_all change wpAny _ (callerA.deeper (envOf _ (Scope.mk _ _ _ _ _) _ _ _)) (exec (Stmt.If _ _ _ _) (envOf _ (Scope.mk _ _ _ _ _) _ _ _)) _ _ _
  dsimp only
  obtain ⟨hr1, hr2⟩ := hr
  obtain ⟨hg1, hg2⟩ := hg
  obtain ⟨hb1, hb2⟩ := hb
  k_steps
  all_goals first | exact stepE_of () (by assumption) (by assumption) trivial | (exfalso; exact Bool.noConfusion ((Eq.symm e1).trans (by assumption))) | (exfalso; exact Bool.noConfusion ((Eq.symm e2).trans (by assumption))) | (exfalso; exact Bool.noConfusion ((Eq.symm e3).trans (by assumption)))

set_option maxRecDepth 100000 in
set_option maxHeartbeats 8000000 in
theorem st6 (w : World) (p : Program) (loose : List Str) (mean : ExcName → Option Value) (mg mb : Str → Option Value) (fa : Addr) (cd : Value) (h₀ : Heap) (L : Addr) (m : Str → Option Value) (own : List (Addr × Obj)) (s : Shared) (E : Value → Shared → Prop) (r g b : Int) (tr tg tb : Tok) (D : Addr) (n : Nat) (vs : List Value) (hu sh va : UInt64) (thu tsh tva : Tok) (sa li de : UInt64) (tsa tli tde : Tok) (lu ia qa : UInt64) (tlu tia tqa : Tok) (LV : Addr) (mid : Int) (tl1 tl2 tl3 : Tok) (nl : Nat) (ar : Int) (tar : Tok)  (hr : 0 ≤ r ∧ r ≤ 64) (hg : 0 ≤ g ∧ g ≤ 64) (hb : 0 ≤ b ∧ b ≤ 64)
    (e1 : ar = 0 → (Float64.cmpInt hu 0 != some Ordering.eq) = false) (e2 : ar = 0 → (Float64.cmpInt sh 0 != some Ordering.eq) = false) (e3 : ar = 0 → (Float64.cmpInt de 0 != some Ordering.eq) = false)
    (X : (hd.heap_39 w.params).In h₀) (T : Top p loose mean mg mb h₀) (B : Below callerA h₀ [] h₀)
    (F : Fr h₀ L s.heap (fun y => if y = Str.ofString "around" then some (.int ar tar) else if y = Str.ofString "levels" then some (.ref LV) else if y = Str.ofString "second_axis" then some (.float qa tqa) else if y = Str.ofString "first_axis" then some (.float ia tia) else if y = Str.ofString "luma" then some (.float lu tlu) else if y = Str.ofString "depth" then some (.float de tde) else if y = Str.ofString "light" then some (.float li tli) else if y = Str.ofString "same_hue" then some (.float sa tsa) else if y = Str.ofString "value" then some (.float va tva) else if y = Str.ofString "share" then some (.float sh tsh) else if y = Str.ofString "hue" then some (.float hu thu) else if y = Str.ofString "blue" then some (.int b tb) else if y = Str.ofString "green" then some (.int g tg) else if y = Str.ofString "red" then some (.int r tr) else if y = Str.ofString "told" then some (.ref D) else m y)) (N : News h₀ L s.heap ((LV, W.listOf (List.toArray [Value.int (min r (min g b)) tl1, .int mid tl2, .int (max r (max g b)) tl3]) nl) :: (D, W.listOf (List.toArray vs) n) :: own)) :
    wpAny (model PySem.Challenge.rw_sh0005_01.row.prog w) (callerA.deeper (lawEnv L fa cd)) (exec (turnBody.getD 6 (.Pass ⟨0, 0, 0, 0⟩)) (lawEnv L fa cd)) (fun f s' => StepE h₀ L (fun (a : Unit) => True) (fun (a : Unit) => (fun y => if y = Str.ofString "around" then some (.int ar tar) else if y = Str.ofString "levels" then some (.ref LV) else if y = Str.ofString "second_axis" then some (.float qa tqa) else if y = Str.ofString "first_axis" then some (.float ia tia) else if y = Str.ofString "luma" then some (.float lu tlu) else if y = Str.ofString "depth" then some (.float de tde) else if y = Str.ofString "light" then some (.float li tli) else if y = Str.ofString "same_hue" then some (.float sa tsa) else if y = Str.ofString "value" then some (.float va tva) else if y = Str.ofString "share" then some (.float sh tsh) else if y = Str.ofString "hue" then some (.float hu thu) else if y = Str.ofString "blue" then some (.int b tb) else if y = Str.ofString "green" then some (.int g tg) else if y = Str.ofString "red" then some (.int r tr) else if y = Str.ofString "told" then some (.ref D) else m y)) (fun (a : Unit) => ((LV, W.listOf (List.toArray [Value.int (min r (min g b)) tl1, .int mid tl2, .int (max r (max g b)) tl3]) nl) :: (D, W.listOf (List.toArray vs) n) :: own)) s f s') E s := by
  revert X
  k_fill
  intro X
  with_unfolding_all change wpAny _ (callerA.deeper (envOf _ (Scope.mk _ _ _ _ _) _ _ _)) (exec (Stmt.If _ _ _ _) (envOf _ (Scope.mk _ _ _ _ _) _ _ _)) _ _ _
  dsimp only
  obtain ⟨hr1, hr2⟩ := hr
  obtain ⟨hg1, hg2⟩ := hg
  obtain ⟨hb1, hb2⟩ := hb
  k_steps
  all_goals first | exact stepE_of () (by assumption) (by assumption) trivial | (exfalso; exact Bool.noConfusion ((Eq.symm (e1 (by assumption))).trans (by assumption))) | (exfalso; exact Bool.noConfusion ((Eq.symm (e2 (by assumption))).trans (by assumption))) | (exfalso; exact Bool.noConfusion ((Eq.symm (e3 (by assumption))).trans (by assumption)))

set_option maxRecDepth 100000 in
set_option maxHeartbeats 8000000 in
theorem st7 (w : World) (p : Program) (loose : List Str) (mean : ExcName → Option Value) (mg mb : Str → Option Value) (fa : Addr) (cd : Value) (h₀ : Heap) (L : Addr) (m : Str → Option Value) (own : List (Addr × Obj)) (s : Shared) (E : Value → Shared → Prop) (r g b : Int) (tr tg tb : Tok) (D : Addr) (n : Nat) (vs : List Value) (hu sh va : UInt64) (thu tsh tva : Tok) (sa li de : UInt64) (tsa tli tde : Tok) (lu ia qa : UInt64) (tlu tia tqa : Tok) (LV : Addr) (mid : Int) (tl1 tl2 tl3 : Tok) (nl : Nat) (ar : Int) (tar : Tok)  (hr : 0 ≤ r ∧ r ≤ 64) (hg : 0 ≤ g ∧ g ≤ 64) (hb : 0 ≤ b ∧ b ≤ 64)
    (e1 : (Float64.cmpInt (Float64.mul va (Float64.ofInt 64)) ([min r (min g b), mid, max r (max g b)].getD (Int.toNat 2) 0) != some Ordering.eq) = false) (e2 : (Float64.cmpInt (Float64.mul li (Float64.ofInt 128)) ([min r (min g b), mid, max r (max g b)].getD (Int.toNat 0) 0 + [min r (min g b), mid, max r (max g b)].getD (Int.toNat 2) 0) != some Ordering.eq) = false)
    (X : (hd.heap_39 w.params).In h₀) (T : Top p loose mean mg mb h₀) (B : Below callerA h₀ [] h₀)
    (F : Fr h₀ L s.heap (fun y => if y = Str.ofString "around" then some (.int ar tar) else if y = Str.ofString "levels" then some (.ref LV) else if y = Str.ofString "second_axis" then some (.float qa tqa) else if y = Str.ofString "first_axis" then some (.float ia tia) else if y = Str.ofString "luma" then some (.float lu tlu) else if y = Str.ofString "depth" then some (.float de tde) else if y = Str.ofString "light" then some (.float li tli) else if y = Str.ofString "same_hue" then some (.float sa tsa) else if y = Str.ofString "value" then some (.float va tva) else if y = Str.ofString "share" then some (.float sh tsh) else if y = Str.ofString "hue" then some (.float hu thu) else if y = Str.ofString "blue" then some (.int b tb) else if y = Str.ofString "green" then some (.int g tg) else if y = Str.ofString "red" then some (.int r tr) else if y = Str.ofString "told" then some (.ref D) else m y)) (N : News h₀ L s.heap ((LV, W.listOf (List.toArray [Value.int (min r (min g b)) tl1, .int mid tl2, .int (max r (max g b)) tl3]) nl) :: (D, W.listOf (List.toArray vs) n) :: own)) :
    wpAny (model PySem.Challenge.rw_sh0005_01.row.prog w) (callerA.deeper (lawEnv L fa cd)) (exec (turnBody.getD 7 (.Pass ⟨0, 0, 0, 0⟩)) (lawEnv L fa cd)) (fun f s' => StepE h₀ L (fun (a : Unit) => True) (fun (a : Unit) => (fun y => if y = Str.ofString "around" then some (.int ar tar) else if y = Str.ofString "levels" then some (.ref LV) else if y = Str.ofString "second_axis" then some (.float qa tqa) else if y = Str.ofString "first_axis" then some (.float ia tia) else if y = Str.ofString "luma" then some (.float lu tlu) else if y = Str.ofString "depth" then some (.float de tde) else if y = Str.ofString "light" then some (.float li tli) else if y = Str.ofString "same_hue" then some (.float sa tsa) else if y = Str.ofString "value" then some (.float va tva) else if y = Str.ofString "share" then some (.float sh tsh) else if y = Str.ofString "hue" then some (.float hu thu) else if y = Str.ofString "blue" then some (.int b tb) else if y = Str.ofString "green" then some (.int g tg) else if y = Str.ofString "red" then some (.int r tr) else if y = Str.ofString "told" then some (.ref D) else m y)) (fun (a : Unit) => ((LV, W.listOf (List.toArray [Value.int (min r (min g b)) tl1, .int mid tl2, .int (max r (max g b)) tl3]) nl) :: (D, W.listOf (List.toArray vs) n) :: own)) s f s') E s := by
  revert X
  k_fill
  intro X
  with_unfolding_all change wpAny _ (callerA.deeper (envOf _ (Scope.mk _ _ _ _ _) _ _ _)) (exec (Stmt.If _ _ _ _) (envOf _ (Scope.mk _ _ _ _ _) _ _ _)) _ _ _
  dsimp only
  obtain ⟨hr1, hr2⟩ := hr
  obtain ⟨hg1, hg2⟩ := hg
  obtain ⟨hb1, hb2⟩ := hb
  k_steps
  all_goals first | exact stepE_of () (by assumption) (by assumption) trivial | (exfalso; exact Bool.noConfusion ((Eq.symm e1).trans (by assumption))) | (exfalso; exact Bool.noConfusion ((Eq.symm e2).trans (by assumption)))

set_option maxRecDepth 100000 in
set_option maxHeartbeats 8000000 in
theorem st8 (w : World) (p : Program) (loose : List Str) (mean : ExcName → Option Value) (mg mb : Str → Option Value) (fa : Addr) (cd : Value) (h₀ : Heap) (L : Addr) (m : Str → Option Value) (own : List (Addr × Obj)) (s : Shared) (E : Value → Shared → Prop) (r g b : Int) (tr tg tb : Tok) (D : Addr) (n : Nat) (vs : List Value) (hu sh va : UInt64) (thu tsh tva : Tok) (sa li de : UInt64) (tsa tli tde : Tok) (lu ia qa : UInt64) (tlu tia tqa : Tok) (LV : Addr) (mid : Int) (tl1 tl2 tl3 : Tok) (nl : Nat) (ar : Int) (tar : Tok)  (hr : 0 ≤ r ∧ r ≤ 64) (hg : 0 ≤ g ∧ g ≤ 64) (hb : 0 ≤ b ∧ b ≤ 64)
    (har1 : 0 ≤ ar) (har2 : ar ≤ 1000) (e1 : farFI (Float64.mul (Float64.mul sh va) (Float64.ofInt 128)) ar = false) (e2 : farFI (Float64.mul (Float64.mul de (Float64.sub (Float64.ofInt 1) (Float64.abs (Float64.sub (Float64.mul (Float64.ofInt 2) li) (Float64.ofInt 1))))) (Float64.ofInt 128)) ar = false)
    (X : (hd.heap_39 w.params).In h₀) (T : Top p loose mean mg mb h₀) (B : Below callerA h₀ [] h₀)
    (F : Fr h₀ L s.heap (fun y => if y = Str.ofString "around" then some (.int ar tar) else if y = Str.ofString "levels" then some (.ref LV) else if y = Str.ofString "second_axis" then some (.float qa tqa) else if y = Str.ofString "first_axis" then some (.float ia tia) else if y = Str.ofString "luma" then some (.float lu tlu) else if y = Str.ofString "depth" then some (.float de tde) else if y = Str.ofString "light" then some (.float li tli) else if y = Str.ofString "same_hue" then some (.float sa tsa) else if y = Str.ofString "value" then some (.float va tva) else if y = Str.ofString "share" then some (.float sh tsh) else if y = Str.ofString "hue" then some (.float hu thu) else if y = Str.ofString "blue" then some (.int b tb) else if y = Str.ofString "green" then some (.int g tg) else if y = Str.ofString "red" then some (.int r tr) else if y = Str.ofString "told" then some (.ref D) else m y)) (N : News h₀ L s.heap ((LV, W.listOf (List.toArray [Value.int (min r (min g b)) tl1, .int mid tl2, .int (max r (max g b)) tl3]) nl) :: (D, W.listOf (List.toArray vs) n) :: own)) :
    wpAny (model PySem.Challenge.rw_sh0005_01.row.prog w) (callerA.deeper (lawEnv L fa cd)) (exec (turnBody.getD 8 (.Pass ⟨0, 0, 0, 0⟩)) (lawEnv L fa cd)) (fun f s' => StepE h₀ L (fun (a : Unit) => True) (fun (a : Unit) => (fun y => if y = Str.ofString "around" then some (.int ar tar) else if y = Str.ofString "levels" then some (.ref LV) else if y = Str.ofString "second_axis" then some (.float qa tqa) else if y = Str.ofString "first_axis" then some (.float ia tia) else if y = Str.ofString "luma" then some (.float lu tlu) else if y = Str.ofString "depth" then some (.float de tde) else if y = Str.ofString "light" then some (.float li tli) else if y = Str.ofString "same_hue" then some (.float sa tsa) else if y = Str.ofString "value" then some (.float va tva) else if y = Str.ofString "share" then some (.float sh tsh) else if y = Str.ofString "hue" then some (.float hu thu) else if y = Str.ofString "blue" then some (.int b tb) else if y = Str.ofString "green" then some (.int g tg) else if y = Str.ofString "red" then some (.int r tr) else if y = Str.ofString "told" then some (.ref D) else m y)) (fun (a : Unit) => ((LV, W.listOf (List.toArray [Value.int (min r (min g b)) tl1, .int mid tl2, .int (max r (max g b)) tl3]) nl) :: (D, W.listOf (List.toArray vs) n) :: own)) s f s') E s := by
  revert X
  k_fill
  intro X
  with_unfolding_all change wpAny _ (callerA.deeper (envOf _ (Scope.mk _ _ _ _ _) _ _ _)) (exec (Stmt.If _ _ _ _) (envOf _ (Scope.mk _ _ _ _ _) _ _ _)) _ _ _
  dsimp only
  obtain ⟨hr1, hr2⟩ := hr
  obtain ⟨hg1, hg2⟩ := hg
  obtain ⟨hb1, hb2⟩ := hb
  k_steps
  all_goals first | exact stepE_of () (by assumption) (by assumption) trivial | (exfalso; exact Bool.noConfusion ((Eq.symm e1).trans (by assumption))) | (exfalso; exact Bool.noConfusion ((Eq.symm e2).trans (by assumption)))

set_option maxRecDepth 100000 in
set_option maxHeartbeats 8000000 in
theorem st9 (w : World) (p : Program) (loose : List Str) (mean : ExcName → Option Value) (mg mb : Str → Option Value) (fa : Addr) (cd : Value) (h₀ : Heap) (L : Addr) (m : Str → Option Value) (own : List (Addr × Obj)) (s : Shared) (E : Value → Shared → Prop) (r g b : Int) (tr tg tb : Tok) (D : Addr) (n : Nat) (vs : List Value) (hu sh va : UInt64) (thu tsh tva : Tok) (sa li de : UInt64) (tsa tli tde : Tok) (lu ia qa : UInt64) (tlu tia tqa : Tok) (LV : Addr) (mid : Int) (tl1 tl2 tl3 : Tok) (nl : Nat) (ar : Int) (tar : Tok)  (hr : 0 ≤ r ∧ r ≤ 64) (hg : 0 ≤ g ∧ g ≤ 64) (hb : 0 ≤ b ∧ b ≤ 64)
    (e1 : farFI (Float64.mul lu (Float64.ofInt 6400)) (30 * r + 59 * g + 11 * b) = false)
    (X : (hd.heap_39 w.params).In h₀) (T : Top p loose mean mg mb h₀) (B : Below callerA h₀ [] h₀)
    (F : Fr h₀ L s.heap (fun y => if y = Str.ofString "around" then some (.int ar tar) else if y = Str.ofString "levels" then some (.ref LV) else if y = Str.ofString "second_axis" then some (.float qa tqa) else if y = Str.ofString "first_axis" then some (.float ia tia) else if y = Str.ofString "luma" then some (.float lu tlu) else if y = Str.ofString "depth" then some (.float de tde) else if y = Str.ofString "light" then some (.float li tli) else if y = Str.ofString "same_hue" then some (.float sa tsa) else if y = Str.ofString "value" then some (.float va tva) else if y = Str.ofString "share" then some (.float sh tsh) else if y = Str.ofString "hue" then some (.float hu thu) else if y = Str.ofString "blue" then some (.int b tb) else if y = Str.ofString "green" then some (.int g tg) else if y = Str.ofString "red" then some (.int r tr) else if y = Str.ofString "told" then some (.ref D) else m y)) (N : News h₀ L s.heap ((LV, W.listOf (List.toArray [Value.int (min r (min g b)) tl1, .int mid tl2, .int (max r (max g b)) tl3]) nl) :: (D, W.listOf (List.toArray vs) n) :: own)) :
    wpAny (model PySem.Challenge.rw_sh0005_01.row.prog w) (callerA.deeper (lawEnv L fa cd)) (exec (turnBody.getD 9 (.Pass ⟨0, 0, 0, 0⟩)) (lawEnv L fa cd)) (fun f s' => StepE h₀ L (fun (a : Unit) => True) (fun (a : Unit) => (fun y => if y = Str.ofString "around" then some (.int ar tar) else if y = Str.ofString "levels" then some (.ref LV) else if y = Str.ofString "second_axis" then some (.float qa tqa) else if y = Str.ofString "first_axis" then some (.float ia tia) else if y = Str.ofString "luma" then some (.float lu tlu) else if y = Str.ofString "depth" then some (.float de tde) else if y = Str.ofString "light" then some (.float li tli) else if y = Str.ofString "same_hue" then some (.float sa tsa) else if y = Str.ofString "value" then some (.float va tva) else if y = Str.ofString "share" then some (.float sh tsh) else if y = Str.ofString "hue" then some (.float hu thu) else if y = Str.ofString "blue" then some (.int b tb) else if y = Str.ofString "green" then some (.int g tg) else if y = Str.ofString "red" then some (.int r tr) else if y = Str.ofString "told" then some (.ref D) else m y)) (fun (a : Unit) => ((LV, W.listOf (List.toArray [Value.int (min r (min g b)) tl1, .int mid tl2, .int (max r (max g b)) tl3]) nl) :: (D, W.listOf (List.toArray vs) n) :: own)) s f s') E s := by
  revert X
  k_fill
  intro X
  with_unfolding_all change wpAny _ (callerA.deeper (envOf _ (Scope.mk _ _ _ _ _) _ _ _)) (exec (Stmt.If _ _ _ _) (envOf _ (Scope.mk _ _ _ _ _) _ _ _)) _ _ _
  dsimp only
  obtain ⟨hr1, hr2⟩ := hr
  obtain ⟨hg1, hg2⟩ := hg
  obtain ⟨hb1, hb2⟩ := hb
  k_steps
  all_goals first | exact stepE_of () (by assumption) (by assumption) trivial | (exfalso; exact Bool.noConfusion ((Eq.symm e1).trans (by assumption)))

noncomputable def backStmt : Stmt := (forBody (turnBody.getD 10 (.Pass ⟨0, 0, 0, 0⟩))).getD 0 (.Pass ⟨0, 0, 0, 0⟩)
noncomputable abbrev backFrm (D3 : Addr) (r g b : Int) (tr tg tb : Tok) (m : Str → Option Value) : Str → Option Value := (fun y => if y = Str.ofString "back" then some (.ref D3) else if y = Str.ofString "blue" then some (.int b tb) else if y = Str.ofString "green" then some (.int g tg) else if y = Str.ofString "red" then some (.int r tr) else m y)
theorem backFrm_eq {D3 : Addr} {r g b : Int} {tr tg tb : Tok} {m : Str → Option Value} (h1 : m (Str.ofString "back") = some (.ref D3)) (h2 : m (Str.ofString "blue") = some (.int b tb)) (h3 : m (Str.ofString "green") = some (.int g tg)) (h4 : m (Str.ofString "red") = some (.int r tr)) : backFrm D3 r g b tr tg tb m = m := by
  funext y
  show (if y = Str.ofString "back" then _ else if y = Str.ofString "blue" then _ else if y = Str.ofString "green" then _ else if y = Str.ofString "red" then _ else _) = _
  by_cases e1 : y = Str.ofString "back"
  · rw [if_pos e1, e1, h1]
  rw [if_neg e1]
  by_cases e2 : y = Str.ofString "blue"
  · rw [if_pos e2, e2, h2]
  rw [if_neg e2]
  by_cases e3 : y = Str.ofString "green"
  · rw [if_pos e3, e3, h3]
  rw [if_neg e3]
  by_cases e4 : y = Str.ofString "red"
  · rw [if_pos e4, e4, h4]
  rw [if_neg e4]
set_option maxRecDepth 100000 in
set_option maxHeartbeats 8000000 in
theorem back_if (w : World) (p : Program) (loose : List Str) (mean : ExcName → Option Value) (mg mb : Str → Option Value) (fa : Addr) (cd : Value) (h₀ : Heap) (L : Addr) (m : Str → Option Value) (news : List (Addr × Obj)) (s : Shared) (Q : Flow → Shared → Prop) (E : Value → Shared → Prop) (r g b : Int) (tr tg tb : Tok) (D3 : Addr) (x1 x2 x3 : UInt64) (t1 t2 t3 : Tok) (k : Nat)
    (hr : 0 ≤ r ∧ r ≤ 64) (hg : 0 ≤ g ∧ g ≤ 64) (hb : 0 ≤ b ∧ b ≤ 64) (e1 : farFI (Float64.mul x1 (Float64.ofInt 64)) r = false) (e2 : farFI (Float64.mul x2 (Float64.ofInt 64)) g = false) (e3 : farFI (Float64.mul x3 (Float64.ofInt 64)) b = false)
    (X : (hd.heap_39 w.params).In h₀) (T : Top p loose mean mg mb h₀) (B : Below callerA h₀ [] h₀) (F : Fr h₀ L s.heap m) (N : News h₀ L s.heap news) (hm : (D3, tup3 (.float x1 t1) (.float x2 t2) (.float x3 t3) k) ∈ news)
    (m1 : m (Str.ofString "back") = some (.ref D3)) (m2 : m (Str.ofString "blue") = some (.int b tb)) (m3 : m (Str.ofString "green") = some (.int g tg)) (m4 : m (Str.ofString "red") = some (.int r tr))
    (hret : ∀ h' tk', Fr h₀ L h' m → News h₀ L h' news → Q .next { s with heap := h', toks := tk' }) :
    wpAny (model PySem.Challenge.rw_sh0005_01.row.prog w) (callerA.deeper (lawEnv L fa cd)) (exec backStmt (lawEnv L fa cd)) Q E s := by
  have q := backFrm_eq m1 m2 m3 m4
  have F2 : Fr h₀ L s.heap (backFrm D3 r g b tr tg tb m) := by rw [q]; exact F
  have hret2 : ∀ h' tk', Fr h₀ L h' (backFrm D3 r g b tr tg tb m) → News h₀ L h' ((D3, tup3 (.float x1 t1) (.float x2 t2) (.float x3 t3) k) :: news) → Q .next { s with heap := h', toks := tk' } := fun h' tk' F N => hret h' tk' (by rw [q] at F; exact F) (less_news N)
  have N2 := more_news N hm
  clear F N hm hret q m1 m2 m3 m4
  obtain ⟨hr1, hr2⟩ := hr
  obtain ⟨hg1, hg2⟩ := hg
  obtain ⟨hb1, hb2⟩ := hb
  revert X
  k_fill
  intro X
  with_unfolding_all change wpAny _ (callerA.deeper (envOf _ (Scope.mk _ _ _ _ _) _ _ _)) (exec (Stmt.If _ _ _ _) (envOf _ (Scope.mk _ _ _ _ _) _ _ _)) _ _ _
  dsimp only
  unfold backFrm at *
  k_steps
  all_goals first | exact hret2 _ _ (by assumption) (by assumption) | (exfalso; exact Bool.noConfusion ((Eq.symm e1).trans (by assumption))) | (exfalso; exact Bool.noConfusion ((Eq.symm e2).trans (by assumption))) | (exfalso; exact Bool.noConfusion ((Eq.symm e3).trans (by assumption)))

/-! part W7b -/
theorem calmW7b : True := by
  w_top off
  trivial

noncomputable abbrev tup4 (a b c d : Value) (n : Nat) : Obj := { cls := .type "tuple", data := .seq #[a, b, c, d] n }
/-- what the law keeps of a colour -/
noncomputable def Entry (hu ia qa : UInt64) (wx wy hx hy : Int) (T : Addr) (es : List (Addr × Obj)) : Prop :=
  ∃ (W H A : Addr) (t1 t2 t3 t4 t5 t6 t7 : Tok) (k1 k2 k3 k4 : Nat), es = [(T, tup4 (.float hu t1) (.ref W) (.ref H) (.ref A) k1), (A, tup2 (.float ia t2) (.float qa t3) k2), (H, tup2 (.int hx t4) (.int hy t5) k3), (W, tup2 (.int wx t6) (.int wy t7) k4)]
theorem entry_mk {hu ia qa : UInt64} {wx wy hx hy x y : Int} {T W H A : Addr} {t1 t2 t3 t4 t5 t6 t7 : Tok} {k1 k2 k3 k4 : Nat} (e1 : hx = x) (e2 : hy = y) :
    Entry hu ia qa wx wy hx hy T [(T, tup4 (.float hu t1) (.ref W) (.ref H) (.ref A) k1), (A, tup2 (.float ia t2) (.float qa t3) k2), (H, tup2 (.int x t4) (.int y t5) k3), (W, tup2 (.int wx t6) (.int wy t7) k4)] := by
  subst e1; subst e2
  exact ⟨_, _, _, _, _, _, _, _, _, _, _, _, _, _, rfl⟩
theorem off4 {T A H W D : Addr} {o1 o2 o3 o4 : Obj} (h1 : @Ne Nat T D) (h2 : @Ne Nat A D) (h3 : @Ne Nat H D) (h4 : @Ne Nat W D) : OwnOff [(T, o1), (A, o2), (H, o3), (W, o4)] [D] := by
  intro p hp b hb
  rw [List.mem_singleton.mp hb]
  simp only [List.mem_cons, List.not_mem_nil, or_false] at hp
  rcases hp with rfl | rfl | rfl | rfl <;> assumption
theorem reord1 {h₀ h : Heap} {L T A W LV D : Addr} {o1 o2 o4 o5 o6 : Obj} {own : List (Addr × Obj)} (N : News h₀ L h ((T, o1) :: (A, o2) :: (W, o4) :: (LV, o5) :: (D, o6) :: own)) : News h₀ L h ((D, o6) :: ([(T, o1), (A, o2), (W, o4), (W, o4)] ++ own)) := fun p hp => N p (by
  simp only [List.mem_cons, List.mem_append, List.not_mem_nil, or_false] at hp ⊢
  rcases hp with h | (h | h | h | h) | h <;> simp [h])
theorem reord2 {h₀ h : Heap} {L T A H W LV D : Addr} {o1 o2 o3 o4 o5 o6 : Obj} {own : List (Addr × Obj)} (N : News h₀ L h ((T, o1) :: (A, o2) :: (H, o3) :: (W, o4) :: (LV, o5) :: (D, o6) :: own)) : News h₀ L h ((D, o6) :: ([(T, o1), (A, o2), (H, o3), (W, o4)] ++ own)) := fun p hp => N p (by
  simp only [List.mem_cons, List.mem_append, List.not_mem_nil, or_false] at hp ⊢
  rcases hp with h | (h | h | h | h) | h <;> simp [h])

set_option maxRecDepth 100000 in
set_option maxHeartbeats 8000000 in
theorem st11 (w : World) (p : Program) (loose : List Str) (mean : ExcName → Option Value) (mg mb : Str → Option Value) (fa : Addr) (cd : Value) (h₀ : Heap) (L : Addr) (m : Str → Option Value) (own : List (Addr × Obj)) (s : Shared) (E : Value → Shared → Prop) (r g b : Int) (tr tg tb : Tok) (D : Addr) (n : Nat) (vs : List Value) (hu sh va : UInt64) (thu tsh tva : Tok) (sa li de : UInt64) (tsa tli tde : Tok) (lu ia qa : UInt64) (tlu tia tqa : Tok) (LV : Addr) (mid : Int) (tl1 tl2 tl3 : Tok) (nl : Nat) (ar : Int) (tar : Tok) (bk : Value)  (hr : 0 ≤ r ∧ r ≤ 64) (hg : 0 ≤ g ∧ g ≤ 64) (hb : 0 ≤ b ∧ b ≤ 64) (hLD : @Ne Nat LV D)
    (X : (hd.heap_39 w.params).In h₀) (T : Top p loose mean mg mb h₀) (B : Below callerA h₀ [] h₀)
    (F : Fr h₀ L s.heap (fun y => if y = Str.ofString "back" then some (bk) else if y = Str.ofString "around" then some (.int ar tar) else if y = Str.ofString "levels" then some (.ref LV) else if y = Str.ofString "second_axis" then some (.float qa tqa) else if y = Str.ofString "first_axis" then some (.float ia tia) else if y = Str.ofString "luma" then some (.float lu tlu) else if y = Str.ofString "depth" then some (.float de tde) else if y = Str.ofString "light" then some (.float li tli) else if y = Str.ofString "same_hue" then some (.float sa tsa) else if y = Str.ofString "value" then some (.float va tva) else if y = Str.ofString "share" then some (.float sh tsh) else if y = Str.ofString "hue" then some (.float hu thu) else if y = Str.ofString "blue" then some (.int b tb) else if y = Str.ofString "green" then some (.int g tg) else if y = Str.ofString "red" then some (.int r tr) else if y = Str.ofString "told" then some (.ref D) else m y)) (N : News h₀ L s.heap ((LV, W.listOf (List.toArray [Value.int (min r (min g b)) tl1, .int mid tl2, .int (max r (max g b)) tl3]) nl) :: (D, W.listOf (List.toArray vs) n) :: own)) :
    wpAny (model PySem.Challenge.rw_sh0005_01.row.prog w) (callerA.deeper (lawEnv L fa cd)) (exec (turnBody.getD 11 (.Pass ⟨0, 0, 0, 0⟩)) (lawEnv L fa cd)) (fun f s' => StepE h₀ L (fun (a : Addr × Tok × Tok) => @Ne Nat a.1 D) (fun (a : Addr × Tok × Tok) => (fun y => if y = Str.ofString "way" then some (.ref a.1) else if y = Str.ofString "back" then some (bk) else if y = Str.ofString "around" then some (.int ar tar) else if y = Str.ofString "levels" then some (.ref LV) else if y = Str.ofString "second_axis" then some (.float qa tqa) else if y = Str.ofString "first_axis" then some (.float ia tia) else if y = Str.ofString "luma" then some (.float lu tlu) else if y = Str.ofString "depth" then some (.float de tde) else if y = Str.ofString "light" then some (.float li tli) else if y = Str.ofString "same_hue" then some (.float sa tsa) else if y = Str.ofString "value" then some (.float va tva) else if y = Str.ofString "share" then some (.float sh tsh) else if y = Str.ofString "hue" then some (.float hu thu) else if y = Str.ofString "blue" then some (.int b tb) else if y = Str.ofString "green" then some (.int g tg) else if y = Str.ofString "red" then some (.int r tr) else if y = Str.ofString "told" then some (.ref D) else m y)) (fun (a : Addr × Tok × Tok) => ((a.1, tup2 (.int (2 * r - g - b) a.2.1) (.int (g - b) a.2.2) 0) :: (LV, W.listOf (List.toArray [Value.int (min r (min g b)) tl1, .int mid tl2, .int (max r (max g b)) tl3]) nl) :: (D, W.listOf (List.toArray vs) n) :: own)) s f s') E s := by
  revert X
  k_fill
  intro X
  with_unfolding_all change wpAny _ (callerA.deeper (envOf _ (Scope.mk _ _ _ _ _) _ _ _)) (exec (Stmt.Assign _ _ _) (envOf _ (Scope.mk _ _ _ _ _) _ _ _)) _ _ _
  dsimp only
  obtain ⟨hr1, hr2⟩ := hr
  obtain ⟨hg1, hg2⟩ := hg
  obtain ⟨hb1, hb2⟩ := hb
  k_steps
  exact stepE_of (_, _, _) (by assumption) (by assumption) (by show @Ne Nat _ _; omega)

set_option maxRecDepth 100000 in
set_option maxHeartbeats 8000000 in
theorem st12 (w : World) (p : Program) (loose : List Str) (mean : ExcName → Option Value) (mg mb : Str → Option Value) (fa : Addr) (cd : Value) (h₀ : Heap) (L : Addr) (m : Str → Option Value) (own : List (Addr × Obj)) (s : Shared) (E : Value → Shared → Prop) (r g b : Int) (tr tg tb : Tok) (D : Addr) (n : Nat) (vs : List Value) (hu sh va : UInt64) (thu tsh tva : Tok) (sa li de : UInt64) (tsa tli tde : Tok) (lu ia qa : UInt64) (tlu tia tqa : Tok) (LV : Addr) (mid : Int) (tl1 tl2 tl3 : Tok) (nl : Nat) (ar : Int) (tar : Tok) (bk : Value) (Wy : Addr) (tw1 tw2 : Tok)  (hr : 0 ≤ r ∧ r ≤ 64) (hg : 0 ≤ g ∧ g ≤ 64) (hb : 0 ≤ b ∧ b ≤ 64) (hvs : vs.length < 1000) (hLD : @Ne Nat LV D) (hWD : @Ne Nat Wy D) (hown : OwnOff own [D])
    (X : (hd.heap_39 w.params).In h₀) (T : Top p loose mean mg mb h₀) (B : Below callerA h₀ [] h₀)
    (F : Fr h₀ L s.heap (fun y => if y = Str.ofString "way" then some (.ref Wy) else if y = Str.ofString "back" then some (bk) else if y = Str.ofString "around" then some (.int ar tar) else if y = Str.ofString "levels" then some (.ref LV) else if y = Str.ofString "second_axis" then some (.float qa tqa) else if y = Str.ofString "first_axis" then some (.float ia tia) else if y = Str.ofString "luma" then some (.float lu tlu) else if y = Str.ofString "depth" then some (.float de tde) else if y = Str.ofString "light" then some (.float li tli) else if y = Str.ofString "same_hue" then some (.float sa tsa) else if y = Str.ofString "value" then some (.float va tva) else if y = Str.ofString "share" then some (.float sh tsh) else if y = Str.ofString "hue" then some (.float hu thu) else if y = Str.ofString "blue" then some (.int b tb) else if y = Str.ofString "green" then some (.int g tg) else if y = Str.ofString "red" then some (.int r tr) else if y = Str.ofString "told" then some (.ref D) else m y)) (N : News h₀ L s.heap ((Wy, tup2 (.int (2 * r - g - b) tw1) (.int (g - b) tw2) 0) :: (LV, W.listOf (List.toArray [Value.int (min r (min g b)) tl1, .int mid tl2, .int (max r (max g b)) tl3]) nl) :: (D, W.listOf (List.toArray vs) n) :: own)) :
    wpAny (model PySem.Challenge.rw_sh0005_01.row.prog w) (callerA.deeper (lawEnv L fa cd)) (exec (turnBody.getD 12 (.Pass ⟨0, 0, 0, 0⟩)) (lawEnv L fa cd)) (fun f s' => StepE h₀ L (fun (a : Addr × List (Addr × Obj)) => Entry hu ia qa (2 * r - g - b) (g - b) (if 0 < ar then 2 * r - g - b else 1) (if 0 < ar then g - b else 0) a.1 a.2 ∧ OwnOff a.2 [D]) (fun (a : Addr × List (Addr × Obj)) => (fun y => if y = Str.ofString "way" then some (.ref Wy) else if y = Str.ofString "back" then some (bk) else if y = Str.ofString "around" then some (.int ar tar) else if y = Str.ofString "levels" then some (.ref LV) else if y = Str.ofString "second_axis" then some (.float qa tqa) else if y = Str.ofString "first_axis" then some (.float ia tia) else if y = Str.ofString "luma" then some (.float lu tlu) else if y = Str.ofString "depth" then some (.float de tde) else if y = Str.ofString "light" then some (.float li tli) else if y = Str.ofString "same_hue" then some (.float sa tsa) else if y = Str.ofString "value" then some (.float va tva) else if y = Str.ofString "share" then some (.float sh tsh) else if y = Str.ofString "hue" then some (.float hu thu) else if y = Str.ofString "blue" then some (.int b tb) else if y = Str.ofString "green" then some (.int g tg) else if y = Str.ofString "red" then some (.int r tr) else if y = Str.ofString "told" then some (.ref D) else m y)) (fun (a : Addr × List (Addr × Obj)) => ((D, W.listOf (List.toArray (vs ++ [.ref a.1])) (n + 1)) :: (a.2 ++ own))) s f s') E s := by
  revert X
  k_fill
  intro X
  with_unfolding_all change wpAny _ (callerA.deeper (envOf _ (Scope.mk _ _ _ _ _) _ _ _)) (exec (Stmt.Expr _ _) (envOf _ (Scope.mk _ _ _ _ _) _ _ _)) _ _ _
  dsimp only
  obtain ⟨hr1, hr2⟩ := hr
  obtain ⟨hg1, hg2⟩ := hg
  obtain ⟨hb1, hb2⟩ := hb
  k_steps
  all_goals simp only [List.push_toArray] at *
  · rename 0 < ar => hp
    exact stepE_of (_, [_, _, _, _]) (by assumption) (reord1 (by assumption)) ⟨entry_mk (if_pos hp) (if_pos hp), (off4 (by show @Ne Nat _ _; omega) (by show @Ne Nat _ _; omega) (by show @Ne Nat _ _; omega) (by show @Ne Nat _ _; omega))⟩
  · rename ¬0 < ar => hp
    exact stepE_of (_, [_, _, _, _]) (by assumption) (reord2 (by assumption)) ⟨entry_mk (if_neg hp) (if_neg hp), (off4 (by show @Ne Nat _ _; omega) (by show @Ne Nat _ _; omega) (by show @Ne Nat _ _; omega) (by show @Ne Nat _ _; omega))⟩

/-! part W7a -/
theorem calmW7a : True := by
  w_top off
  trivial

theorem frDup3 {h₀ h : Heap} {L : Addr} {x : Str} {a b c : Value} {m : Str → Option Value} (F : Fr h₀ L h (fun y => if y = x then some a else if y = x then some b else if y = x then some c else m y)) : Fr h₀ L h (fun y => if y = x then some a else m y) := by
  have e : (fun y => if y = x then some a else if y = x then some b else if y = x then some c else m y) = fun y => if y = x then some a else m y := by
    funext y
    by_cases hy : y = x
    · rw [if_pos hy, if_pos hy]
    · rw [if_neg hy, if_neg hy, if_neg hy, if_neg hy]
  rw [← e]; exact F
/-- kept out of the walk's sight -/
structure PO (M : Model) (A : Around) (env : Env) (E : Value → Shared → Prop) : Prop where
  out : PassesOwn M A env E
theorem drop4 {h₀ h : Heap} {L : Addr} {r : List (Addr × Obj)} {a b c d : Addr × Obj} (N : News h₀ L h (a :: b :: c :: d :: r)) : News h₀ L h r := fun p hp => N p (.tail _ (.tail _ (.tail _ (.tail _ hp))))
local macro_rules | `(tactic| walk_at "exec If") => `(tactic| (k_here; ((with_unfolding_all refine' back_if _ _ _ _ _ _ _ _ _ _ _ _ _ _ _ _ _ _ _ _ _ _ _ _ _ _ _ _ _  ?hr ?hg ?hb ?e1 ?e2 ?e3 ?kX ?kT ?kB ?kF ?kN ?km ?m1 ?m2 ?m3 ?m4 ?_); (case kX | kT | kB | kF | kN => k_asm); (case m1 | m2 | m3 | m4 => with_unfolding_all rfl); (case km => k_dflt k_mem); (case hr | hg | hb => exact ⟨by assumption, by assumption⟩); (case e1 | e2 | e3 => assumption); intro h' tk' F' N'; (try dsimp only); (try k_fold))))

set_option maxRecDepth 100000 in
set_option maxHeartbeats 8000000 in
theorem st10 (w : World) (p : Program) (loose : List Str) (mean : ExcName → Option Value) (mg mb : Str → Option Value) (fa : Addr) (cd : Value) (h₀ : Heap) (L : Addr) (m : Str → Option Value) (own : List (Addr × Obj)) (s : Shared) (E : Value → Shared → Prop) (r g b : Int) (tr tg tb : Tok) (D : Addr) (n : Nat) (vs : List Value) (hu sh va : UInt64) (thu tsh tva : Tok) (sa li de : UInt64) (tsa tli tde : Tok) (lu ia qa : UInt64) (tlu tia tqa : Tok) (LV : Addr) (mid : Int) (tl1 tl2 tl3 : Tok) (nl : Nat) (ar : Int) (tar : Tok)  (hr : 0 ≤ r ∧ r ≤ 64) (hg : 0 ≤ g ∧ g ≤ 64) (hb : 0 ≤ b ∧ b ≤ 64)
    (hPO : PO (model PySem.Challenge.rw_sh0005_01.row.prog w) (callerA.deeper (lawEnv L fa cd)) (lawEnv L fa cd) E)
    (h3 : eqF sh 0 = false → Float64.isFinite (Float64.mul hu 4618441417868443648) = true ∧ 0 ≤ hsvrI hu ∧ hsvrI hu ≤ 5)(e0 : (farFI (Float64.mul ((hsvrF hu sh va).1) (Float64.ofInt 64)) r) = false) (e1 : (farFI (Float64.mul ((hsvrF hu sh va).2.1) (Float64.ofInt 64)) g) = false) (e2 : (farFI (Float64.mul ((hsvrF hu sh va).2.2) (Float64.ofInt 64)) b) = false) (e3 : (farFI (Float64.mul ((hlsrF hu li de).1) (Float64.ofInt 64)) r) = false) (e4 : (farFI (Float64.mul ((hlsrF hu li de).2.1) (Float64.ofInt 64)) g) = false) (e5 : (farFI (Float64.mul ((hlsrF hu li de).2.2) (Float64.ofInt 64)) b) = false) (e6 : (farFI (Float64.mul ((yiqrF lu ia qa).1) (Float64.ofInt 64)) r) = false) (e7 : (farFI (Float64.mul ((yiqrF lu ia qa).2.1) (Float64.ofInt 64)) g) = false) (e8 : (farFI (Float64.mul ((yiqrF lu ia qa).2.2) (Float64.ofInt 64)) b) = false)
    (X : (hd.heap_39 w.params).In h₀) (T : Top p loose mean mg mb h₀) (B : Below callerA h₀ [] h₀)
    (F : Fr h₀ L s.heap (fun y => if y = Str.ofString "around" then some (.int ar tar) else if y = Str.ofString "levels" then some (.ref LV) else if y = Str.ofString "second_axis" then some (.float qa tqa) else if y = Str.ofString "first_axis" then some (.float ia tia) else if y = Str.ofString "luma" then some (.float lu tlu) else if y = Str.ofString "depth" then some (.float de tde) else if y = Str.ofString "light" then some (.float li tli) else if y = Str.ofString "same_hue" then some (.float sa tsa) else if y = Str.ofString "value" then some (.float va tva) else if y = Str.ofString "share" then some (.float sh tsh) else if y = Str.ofString "hue" then some (.float hu thu) else if y = Str.ofString "blue" then some (.int b tb) else if y = Str.ofString "green" then some (.int g tg) else if y = Str.ofString "red" then some (.int r tr) else if y = Str.ofString "told" then some (.ref D) else m y)) (N : News h₀ L s.heap ((LV, W.listOf (List.toArray [Value.int (min r (min g b)) tl1, .int mid tl2, .int (max r (max g b)) tl3]) nl) :: (D, W.listOf (List.toArray vs) n) :: own)) :
    wpAny (model PySem.Challenge.rw_sh0005_01.row.prog w) (callerA.deeper (lawEnv L fa cd)) (exec (turnBody.getD 10 (.Pass ⟨0, 0, 0, 0⟩)) (lawEnv L fa cd)) (fun f s' => StepE h₀ L (fun (a : Value) => True) (fun (a : Value) => (fun y => if y = Str.ofString "back" then some (a) else if y = Str.ofString "around" then some (.int ar tar) else if y = Str.ofString "levels" then some (.ref LV) else if y = Str.ofString "second_axis" then some (.float qa tqa) else if y = Str.ofString "first_axis" then some (.float ia tia) else if y = Str.ofString "luma" then some (.float lu tlu) else if y = Str.ofString "depth" then some (.float de tde) else if y = Str.ofString "light" then some (.float li tli) else if y = Str.ofString "same_hue" then some (.float sa tsa) else if y = Str.ofString "value" then some (.float va tva) else if y = Str.ofString "share" then some (.float sh tsh) else if y = Str.ofString "hue" then some (.float hu thu) else if y = Str.ofString "blue" then some (.int b tb) else if y = Str.ofString "green" then some (.int g tg) else if y = Str.ofString "red" then some (.int r tr) else if y = Str.ofString "told" then some (.ref D) else m y)) (fun (a : Value) => ((LV, W.listOf (List.toArray [Value.int (min r (min g b)) tl1, .int mid tl2, .int (max r (max g b)) tl3]) nl) :: (D, W.listOf (List.toArray vs) n) :: own)) s f s') E s := by
  revert X
  k_fill
  intro X
  with_unfolding_all change wpAny _ (callerA.deeper (envOf _ (Scope.mk _ _ _ _ _) _ _ _)) (exec (Stmt.For _ _ _ _ _) (envOf _ (Scope.mk _ _ _ _ _) _ _ _)) _ _ _
  dsimp only
  obtain ⟨hr1, hr2⟩ := hr
  obtain ⟨hg1, hg2⟩ := hg
  obtain ⟨hb1, hb2⟩ := hb
  k_steps
  all_goals first | exact stepE_of _ (frDup3 (by assumption)) (drop4 (by assumption)) trivial | exact hPO.out

/-! part W8 -/
theorem calmW8 : True := by
  w_top off
  trivial

/-- a statement that goes on, and the rest -/
theorem step_cut {α : Type} {prog : Program} {w : World} {A : Around} {env : Env} {st : Stmt} {rest : List Stmt} {Q : Flow → Shared → Prop} {E : Value → Shared → Prop} {s : Shared} {h₀ : Heap} {L : Addr} {P : α → Prop} {mk : α → Str → Option Value} {led : α → List (Addr × Obj)}
    (h : wpAny (model prog w) A (exec st env) (fun f s' => StepE h₀ L P mk led s f s') E s)
    (k : ∀ (a : α) (h : Heap) (tk : Nat), Fr h₀ L h (mk a) → News h₀ L h (led a) → P a → wpAny (model prog w) A (execs rest env) Q E { s with heap := h, toks := tk }) :
    wpAny (model prog w) A (execs (st :: rest) env) Q E s := by
  refine wpAny_execs_cons (wpAny_mono h (fun f s' hf => ?_) fun _ _ e => e)
  obtain ⟨rfl, a, h, tk, rfl, F, N, p⟩ := hf
  exact k a h tk F N p
noncomputable def aroundI (r g b : Int) : Int := ((if r - g < 0 then -(r - g) else r - g) + (if g - b < 0 then -(g - b) else g - b)) + (if b - r < 0 then -(b - r) else b - r)
/-- all that the law asks of one colour -/
structure ColourP (x y z : UInt64) (r g b : Int) : Prop where
  h1 : eqF (min3F x y z) (max3F x y z) = false → Float64.isZero (max3F x y z) = false ∧ Float64.isZero (Float64.sub (max3F x y z) (min3F x y z)) = false
  h2 : eqF (min3F x y z) (max3F x y z) = false → Float64.isZero (Float64.sub (max3F x y z) (min3F x y z)) = false ∧ Float64.isZero (Float64.add (max3F x y z) (min3F x y z)) = false ∧ (leF (lightF x y z) 4602678819172646912 = false → Float64.isZero (Float64.sub (Float64.sub 4611686018427387904 (max3F x y z)) (min3F x y z)) = false)
  h3 : eqF ((hsvF x y z).2.1) 0 = false → Float64.isFinite (Float64.mul ((hsvF x y z).1) 4618441417868443648) = true ∧ 0 ≤ hsvrI ((hsvF x y z).1) ∧ hsvrI ((hsvF x y z).1) ≤ 5
  f5a : (Float64.cmp ((hsvF x y z).1) ((hlsF x y z).1) != some Ordering.eq) = false
  f5b : (Float64.cmpInt ((hsvF x y z).1) 0 == some Ordering.lt) = false
  f5c : (Float64.cmpInt ((hsvF x y z).1) 1 == some Ordering.gt || Float64.cmpInt ((hsvF x y z).1) 1 == some Ordering.eq) = false
  f6a : ((aroundI r g b)) = 0 → (Float64.cmpInt ((hsvF x y z).1) 0 != some Ordering.eq) = false
  f6b : ((aroundI r g b)) = 0 → (Float64.cmpInt ((hsvF x y z).2.1) 0 != some Ordering.eq) = false
  f6c : ((aroundI r g b)) = 0 → (Float64.cmpInt ((hlsF x y z).2.2) 0 != some Ordering.eq) = false
  f7a : (Float64.cmpInt (Float64.mul ((hsvF x y z).2.2) (Float64.ofInt 64)) (max r (max g b)) != some Ordering.eq) = false
  f7b : (Float64.cmpInt (Float64.mul ((hlsF x y z).2.1) (Float64.ofInt 128)) (min r (min g b) + max r (max g b)) != some Ordering.eq) = false
  f8a : farFI (Float64.mul (Float64.mul ((hsvF x y z).2.1) ((hsvF x y z).2.2)) (Float64.ofInt 128)) ((aroundI r g b)) = false
  f8b : farFI (Float64.mul (Float64.mul ((hlsF x y z).2.2) (Float64.sub (Float64.ofInt 1) (Float64.abs (Float64.sub (Float64.mul (Float64.ofInt 2) ((hlsF x y z).2.1)) (Float64.ofInt 1))))) (Float64.ofInt 128)) ((aroundI r g b)) = false
  f9 : farFI (Float64.mul ((yiqF x y z).1) (Float64.ofInt 6400)) (30 * r + 59 * g + 11 * b) = false
  g0 : (farFI (Float64.mul ((hsvrF ((hsvF x y z).1) ((hsvF x y z).2.1) ((hsvF x y z).2.2)).1) (Float64.ofInt 64)) r) = false
  g1 : (farFI (Float64.mul ((hsvrF ((hsvF x y z).1) ((hsvF x y z).2.1) ((hsvF x y z).2.2)).2.1) (Float64.ofInt 64)) g) = false
  g2 : (farFI (Float64.mul ((hsvrF ((hsvF x y z).1) ((hsvF x y z).2.1) ((hsvF x y z).2.2)).2.2) (Float64.ofInt 64)) b) = false
  g3 : (farFI (Float64.mul ((hlsrF ((hsvF x y z).1) ((hlsF x y z).2.1) ((hlsF x y z).2.2)).1) (Float64.ofInt 64)) r) = false
  g4 : (farFI (Float64.mul ((hlsrF ((hsvF x y z).1) ((hlsF x y z).2.1) ((hlsF x y z).2.2)).2.1) (Float64.ofInt 64)) g) = false
  g5 : (farFI (Float64.mul ((hlsrF ((hsvF x y z).1) ((hlsF x y z).2.1) ((hlsF x y z).2.2)).2.2) (Float64.ofInt 64)) b) = false
  g6 : (farFI (Float64.mul ((yiqrF ((yiqF x y z).1) ((yiqF x y z).2.1) ((yiqF x y z).2.2)).1) (Float64.ofInt 64)) r) = false
  g7 : (farFI (Float64.mul ((yiqrF ((yiqF x y z).1) ((yiqF x y z).2.1) ((yiqF x y z).2.2)).2.1) (Float64.ofInt 64)) g) = false
  g8 : (farFI (Float64.mul ((yiqrF ((yiqF x y z).1) ((yiqF x y z).2.1) ((yiqF x y z).2.2)).2.2) (Float64.ofInt 64)) b) = false
noncomputable abbrev ColourOK (r g b : Int) : Prop := ColourP (cf r) (cf g) (cf b) r g b

theorem around_bounds {r g b : Int} (hr : 0 ≤ r ∧ r ≤ 64) (hg : 0 ≤ g ∧ g ≤ 64) (hb : 0 ≤ b ∧ b ≤ 64) : 0 ≤ aroundI r g b ∧ aroundI r g b ≤ 1000 := by
  unfold aroundI
  omega
noncomputable def headX (r g b : Int) : Int := if 0 < aroundI r g b then 2 * r - g - b else 1
noncomputable def headY (r g b : Int) : Int := if 0 < aroundI r g b then g - b else 0
noncomputable def EntryOf (r g b : Int) (T : Addr) (es : List (Addr × Obj)) : Prop := Entry (hsvF (cf r) (cf g) (cf b)).1 (yiqF (cf r) (cf g) (cf b)).2.1 (yiqF (cf r) (cf g) (cf b)).2.2 (2 * r - g - b) (g - b) (headX r g b) (headY r g b) T es
structure TurnEnd (h₀ : Heap) (L D : Addr) (n : Nat) (vs : List Value) (r g b : Int) (own : List (Addr × Obj)) (s : Shared) (f : Flow) (s' : Shared) : Prop where
  next : f = .next
  here : ∃ h tk m' T es, s' = { s with heap := h, toks := tk } ∧ Fr h₀ L h m' ∧ m' (Str.ofString "told") = some (.ref D) ∧ News h₀ L h ((D, W.listOf (List.toArray (vs ++ [.ref T])) (n + 1)) :: (es ++ own)) ∧ EntryOf r g b T es ∧ OwnOff es [D]

set_option maxRecDepth 100000 in
theorem turn_ok (w : World) (p : Program) (loose : List Str) (mean : ExcName → Option Value) (mg mb : Str → Option Value) (fa : Addr) (cd : Value) (h₀ : Heap) (L : Addr) (m : Str → Option Value) (own : List (Addr × Obj)) (s : Shared) (E : Value → Shared → Prop) (r g b : Int) (tr tg tb : Tok) (D : Addr) (n : Nat) (vs : List Value)
    (hr : 0 ≤ r ∧ r ≤ 64) (hg : 0 ≤ g ∧ g ≤ 64) (hb : 0 ≤ b ∧ b ≤ 64) (C : ColourOK r g b) (hvs : vs.length < 1000) (hown : OwnOff own [D])
    (hPO : PO (model PySem.Challenge.rw_sh0005_01.row.prog w) (callerA.deeper (lawEnv L fa cd)) (lawEnv L fa cd) E)
    (X : (hd.heap_39 w.params).In h₀) (T : Top p loose mean mg mb h₀) (B : Below callerA h₀ [] h₀)
    (F : Fr h₀ L s.heap (fun y => if y = Str.ofString "blue" then some (.int b tb) else if y = Str.ofString "green" then some (.int g tg) else if y = Str.ofString "red" then some (.int r tr) else if y = Str.ofString "told" then some (.ref D) else m y)) (N : News h₀ L s.heap ((D, W.listOf (List.toArray vs) n) :: own)) :
    wpAny (model PySem.Challenge.rw_sh0005_01.row.prog w) (callerA.deeper (lawEnv L fa cd)) (execs turnBody (lawEnv L fa cd)) (fun f s' => TurnEnd h₀ L D n vs r g b own s f s') E s := by
  have har := around_bounds hr hg hb
  have eb : turnBody = [turnBody.getD 0 (.Pass ⟨0, 0, 0, 0⟩), turnBody.getD 1 (.Pass ⟨0, 0, 0, 0⟩), turnBody.getD 2 (.Pass ⟨0, 0, 0, 0⟩), turnBody.getD 3 (.Pass ⟨0, 0, 0, 0⟩), turnBody.getD 4 (.Pass ⟨0, 0, 0, 0⟩), turnBody.getD 5 (.Pass ⟨0, 0, 0, 0⟩), turnBody.getD 6 (.Pass ⟨0, 0, 0, 0⟩), turnBody.getD 7 (.Pass ⟨0, 0, 0, 0⟩), turnBody.getD 8 (.Pass ⟨0, 0, 0, 0⟩), turnBody.getD 9 (.Pass ⟨0, 0, 0, 0⟩), turnBody.getD 10 (.Pass ⟨0, 0, 0, 0⟩), turnBody.getD 11 (.Pass ⟨0, 0, 0, 0⟩), turnBody.getD 12 (.Pass ⟨0, 0, 0, 0⟩)] := rfl
  rw [eb]
  refine step_cut (st0 w p loose mean mg mb fa cd h₀ L m own _ E r g b tr tg tb D n vs hr hg hb C.h1 X T B F N) (fun z0 h0 tk0 F0 N0 p0 => ?_)
  refine step_cut (st1 w p loose mean mg mb fa cd h₀ L m own _ E r g b tr tg tb D n vs (hsvF (cf r) (cf g) (cf b)).1 (hsvF (cf r) (cf g) (cf b)).2.1 (hsvF (cf r) (cf g) (cf b)).2.2 z0.1 z0.2.1 z0.2.2 hr hg hb C.h2 X T B F0 N0) (fun z1 h1 tk1 F1 N1 p1 => ?_)
  refine step_cut (st2 w p loose mean mg mb fa cd h₀ L m own _ E r g b tr tg tb D n vs (hsvF (cf r) (cf g) (cf b)).1 (hsvF (cf r) (cf g) (cf b)).2.1 (hsvF (cf r) (cf g) (cf b)).2.2 z0.1 z0.2.1 z0.2.2 (hlsF (cf r) (cf g) (cf b)).1 (hlsF (cf r) (cf g) (cf b)).2.1 (hlsF (cf r) (cf g) (cf b)).2.2 z1.1 z1.2.1 z1.2.2 hr hg hb X T B F1 N1) (fun z2 h2 tk2 F2 N2 p2 => ?_)
  refine step_cut (st3 w p loose mean mg mb fa cd h₀ L m own _ E r g b tr tg tb D n vs (hsvF (cf r) (cf g) (cf b)).1 (hsvF (cf r) (cf g) (cf b)).2.1 (hsvF (cf r) (cf g) (cf b)).2.2 z0.1 z0.2.1 z0.2.2 (hlsF (cf r) (cf g) (cf b)).1 (hlsF (cf r) (cf g) (cf b)).2.1 (hlsF (cf r) (cf g) (cf b)).2.2 z1.1 z1.2.1 z1.2.2 (yiqF (cf r) (cf g) (cf b)).1 (yiqF (cf r) (cf g) (cf b)).2.1 (yiqF (cf r) (cf g) (cf b)).2.2 z2.1 z2.2.1 z2.2.2 hr hg hb X T B F2 N2) (fun z3 h3 tk3 F3 N3 p3 => ?_)
  refine step_cut (st4 w p loose mean mg mb fa cd h₀ L m own _ E r g b tr tg tb D n vs (hsvF (cf r) (cf g) (cf b)).1 (hsvF (cf r) (cf g) (cf b)).2.1 (hsvF (cf r) (cf g) (cf b)).2.2 z0.1 z0.2.1 z0.2.2 (hlsF (cf r) (cf g) (cf b)).1 (hlsF (cf r) (cf g) (cf b)).2.1 (hlsF (cf r) (cf g) (cf b)).2.2 z1.1 z1.2.1 z1.2.2 (yiqF (cf r) (cf g) (cf b)).1 (yiqF (cf r) (cf g) (cf b)).2.1 (yiqF (cf r) (cf g) (cf b)).2.2 z2.1 z2.2.1 z2.2.2 z3.1 z3.2.1 z3.2.2.1 z3.2.2.2.1 z3.2.2.2.2.1 z3.2.2.2.2.2 hr hg hb X T B F3 N3) (fun z4 h4 tk4 F4 N4 p4 => ?_)
  refine step_cut (st5 w p loose mean mg mb fa cd h₀ L m own _ E r g b tr tg tb D n vs (hsvF (cf r) (cf g) (cf b)).1 (hsvF (cf r) (cf g) (cf b)).2.1 (hsvF (cf r) (cf g) (cf b)).2.2 z0.1 z0.2.1 z0.2.2 (hlsF (cf r) (cf g) (cf b)).1 (hlsF (cf r) (cf g) (cf b)).2.1 (hlsF (cf r) (cf g) (cf b)).2.2 z1.1 z1.2.1 z1.2.2 (yiqF (cf r) (cf g) (cf b)).1 (yiqF (cf r) (cf g) (cf b)).2.1 (yiqF (cf r) (cf g) (cf b)).2.2 z2.1 z2.2.1 z2.2.2 z3.1 z3.2.1 z3.2.2.1 z3.2.2.2.1 z3.2.2.2.2.1 z3.2.2.2.2.2 (aroundI r g b) z4 hr hg hb C.f5a C.f5b C.f5c X T B F4 N4) (fun z5 h5 tk5 F5 N5 p5 => ?_)
  refine step_cut (st6 w p loose mean mg mb fa cd h₀ L m own _ E r g b tr tg tb D n vs (hsvF (cf r) (cf g) (cf b)).1 (hsvF (cf r) (cf g) (cf b)).2.1 (hsvF (cf r) (cf g) (cf b)).2.2 z0.1 z0.2.1 z0.2.2 (hlsF (cf r) (cf g) (cf b)).1 (hlsF (cf r) (cf g) (cf b)).2.1 (hlsF (cf r) (cf g) (cf b)).2.2 z1.1 z1.2.1 z1.2.2 (yiqF (cf r) (cf g) (cf b)).1 (yiqF (cf r) (cf g) (cf b)).2.1 (yiqF (cf r) (cf g) (cf b)).2.2 z2.1 z2.2.1 z2.2.2 z3.1 z3.2.1 z3.2.2.1 z3.2.2.2.1 z3.2.2.2.2.1 z3.2.2.2.2.2 (aroundI r g b) z4 hr hg hb C.f6a C.f6b C.f6c X T B F5 N5) (fun z6 h6 tk6 F6 N6 p6 => ?_)
  refine step_cut (st7 w p loose mean mg mb fa cd h₀ L m own _ E r g b tr tg tb D n vs (hsvF (cf r) (cf g) (cf b)).1 (hsvF (cf r) (cf g) (cf b)).2.1 (hsvF (cf r) (cf g) (cf b)).2.2 z0.1 z0.2.1 z0.2.2 (hlsF (cf r) (cf g) (cf b)).1 (hlsF (cf r) (cf g) (cf b)).2.1 (hlsF (cf r) (cf g) (cf b)).2.2 z1.1 z1.2.1 z1.2.2 (yiqF (cf r) (cf g) (cf b)).1 (yiqF (cf r) (cf g) (cf b)).2.1 (yiqF (cf r) (cf g) (cf b)).2.2 z2.1 z2.2.1 z2.2.2 z3.1 z3.2.1 z3.2.2.1 z3.2.2.2.1 z3.2.2.2.2.1 z3.2.2.2.2.2 (aroundI r g b) z4 hr hg hb C.f7a C.f7b X T B F6 N6) (fun z7 h7 tk7 F7 N7 p7 => ?_)
  refine step_cut (st8 w p loose mean mg mb fa cd h₀ L m own _ E r g b tr tg tb D n vs (hsvF (cf r) (cf g) (cf b)).1 (hsvF (cf r) (cf g) (cf b)).2.1 (hsvF (cf r) (cf g) (cf b)).2.2 z0.1 z0.2.1 z0.2.2 (hlsF (cf r) (cf g) (cf b)).1 (hlsF (cf r) (cf g) (cf b)).2.1 (hlsF (cf r) (cf g) (cf b)).2.2 z1.1 z1.2.1 z1.2.2 (yiqF (cf r) (cf g) (cf b)).1 (yiqF (cf r) (cf g) (cf b)).2.1 (yiqF (cf r) (cf g) (cf b)).2.2 z2.1 z2.2.1 z2.2.2 z3.1 z3.2.1 z3.2.2.1 z3.2.2.2.1 z3.2.2.2.2.1 z3.2.2.2.2.2 (aroundI r g b) z4 hr hg hb har.1 har.2 C.f8a C.f8b X T B F7 N7) (fun z8 h8 tk8 F8 N8 p8 => ?_)
  refine step_cut (st9 w p loose mean mg mb fa cd h₀ L m own _ E r g b tr tg tb D n vs (hsvF (cf r) (cf g) (cf b)).1 (hsvF (cf r) (cf g) (cf b)).2.1 (hsvF (cf r) (cf g) (cf b)).2.2 z0.1 z0.2.1 z0.2.2 (hlsF (cf r) (cf g) (cf b)).1 (hlsF (cf r) (cf g) (cf b)).2.1 (hlsF (cf r) (cf g) (cf b)).2.2 z1.1 z1.2.1 z1.2.2 (yiqF (cf r) (cf g) (cf b)).1 (yiqF (cf r) (cf g) (cf b)).2.1 (yiqF (cf r) (cf g) (cf b)).2.2 z2.1 z2.2.1 z2.2.2 z3.1 z3.2.1 z3.2.2.1 z3.2.2.2.1 z3.2.2.2.2.1 z3.2.2.2.2.2 (aroundI r g b) z4 hr hg hb C.f9 X T B F8 N8) (fun z9 h9 tk9 F9 N9 p9 => ?_)
  refine step_cut (st10 w p loose mean mg mb fa cd h₀ L m own _ E r g b tr tg tb D n vs (hsvF (cf r) (cf g) (cf b)).1 (hsvF (cf r) (cf g) (cf b)).2.1 (hsvF (cf r) (cf g) (cf b)).2.2 z0.1 z0.2.1 z0.2.2 (hlsF (cf r) (cf g) (cf b)).1 (hlsF (cf r) (cf g) (cf b)).2.1 (hlsF (cf r) (cf g) (cf b)).2.2 z1.1 z1.2.1 z1.2.2 (yiqF (cf r) (cf g) (cf b)).1 (yiqF (cf r) (cf g) (cf b)).2.1 (yiqF (cf r) (cf g) (cf b)).2.2 z2.1 z2.2.1 z2.2.2 z3.1 z3.2.1 z3.2.2.1 z3.2.2.2.1 z3.2.2.2.2.1 z3.2.2.2.2.2 (aroundI r g b) z4 hr hg hb hPO C.h3 C.g0 C.g1 C.g2 C.g3 C.g4 C.g5 C.g6 C.g7 C.g8 X T B F9 N9) (fun z10 h10 tk10 F10 N10 p10 => ?_)
  refine step_cut (st11 w p loose mean mg mb fa cd h₀ L m own _ E r g b tr tg tb D n vs (hsvF (cf r) (cf g) (cf b)).1 (hsvF (cf r) (cf g) (cf b)).2.1 (hsvF (cf r) (cf g) (cf b)).2.2 z0.1 z0.2.1 z0.2.2 (hlsF (cf r) (cf g) (cf b)).1 (hlsF (cf r) (cf g) (cf b)).2.1 (hlsF (cf r) (cf g) (cf b)).2.2 z1.1 z1.2.1 z1.2.2 (yiqF (cf r) (cf g) (cf b)).1 (yiqF (cf r) (cf g) (cf b)).2.1 (yiqF (cf r) (cf g) (cf b)).2.2 z2.1 z2.2.1 z2.2.2 z3.1 z3.2.1 z3.2.2.1 z3.2.2.2.1 z3.2.2.2.2.1 z3.2.2.2.2.2 (aroundI r g b) z4 z10 hr hg hb p3 X T B F10 N10) (fun z11 h11 tk11 F11 N11 p11 => ?_)
  refine step_cut (st12 w p loose mean mg mb fa cd h₀ L m own _ E r g b tr tg tb D n vs (hsvF (cf r) (cf g) (cf b)).1 (hsvF (cf r) (cf g) (cf b)).2.1 (hsvF (cf r) (cf g) (cf b)).2.2 z0.1 z0.2.1 z0.2.2 (hlsF (cf r) (cf g) (cf b)).1 (hlsF (cf r) (cf g) (cf b)).2.1 (hlsF (cf r) (cf g) (cf b)).2.2 z1.1 z1.2.1 z1.2.2 (yiqF (cf r) (cf g) (cf b)).1 (yiqF (cf r) (cf g) (cf b)).2.1 (yiqF (cf r) (cf g) (cf b)).2.2 z2.1 z2.2.1 z2.2.2 z3.1 z3.2.1 z3.2.2.1 z3.2.2.2.1 z3.2.2.2.2.1 z3.2.2.2.2.2 (aroundI r g b) z4 z10 z11.1 z11.2.1 z11.2.2 hr hg hb hvs p3 p11 hown X T B F11 N11) (fun z12 h12 tk12 F12 N12 p12 => ?_)
  refine wpAny_execs_nil ?_
  exact ⟨rfl, h12, tk12, _, z12.1, z12.2, rfl, F12, (by with_unfolding_all rfl), N12, p12.1, p12.2⟩

/-! part W9 -/
theorem calmW9 : True := by
  w_top off
  trivial
local macro_rules | `(tactic| walk_at "call ref") => `(tactic| (k_here; (with_unfolding_all refine' use_claim (sign_f _ _) rfl rfl ?k1 ?k2 ?k3 ?k4 ?k5 ?k6 ?k7 ?k8 ?_); (case k1 | k2 | k3 | k4 | k5 => k_asm); (case k6 => first | exact rfl | assumption); (case k7 => ktr_room); (case k8 => ktr_units); (try (case m1 | m2 => k_dflt k_mem)); (try (case b1 | b2 | b3 | b4 => exact ⟨by assumption, by assumption⟩)); (first | intro t1' h' tk' F' N' | intro h' tk' F' N'); (try dsimp only); (try k_fold)))
local macro_rules | `(tactic| walk_at "call ref") => `(tactic| (k_here; (with_unfolding_all refine' use_claim (cross_ff _ _ _ _ _ _) rfl rfl ?k1 ?k2 ?k3 ?k4 ?k5 ?k6 ?k7 ?k8 ⟨⟨_, _, _, ?m1⟩, ⟨_, _, _, ?m2⟩, ?_⟩); (case k1 | k2 | k3 | k4 | k5 => k_asm); (case k6 => first | exact rfl | assumption); (case k7 => ktr_room); (case k8 => ktr_units); (try (case m1 | m2 => k_dflt k_mem)); (try (case b1 | b2 | b3 | b4 => exact ⟨by assumption, by assumption⟩)); (first | intro t1' h' tk' F' N' | intro h' tk' F' N'); (try dsimp only); (try k_fold)))
local macro_rules | `(tactic| walk_at "call ref") => `(tactic| (k_here; (with_unfolding_all refine' use_claim (cross_ii _ _ _ _ _ _ ?b1 ?b2 ?b3 ?b4) rfl rfl ?k1 ?k2 ?k3 ?k4 ?k5 ?k6 ?k7 ?k8 ⟨⟨_, _, _, ?m1⟩, ⟨_, _, _, ?m2⟩, ?_⟩); (case k1 | k2 | k3 | k4 | k5 => k_asm); (case k6 => first | exact rfl | assumption); (case k7 => ktr_room); (case k8 => ktr_units); (try (case m1 | m2 => k_dflt k_mem)); (try (case b1 | b2 | b3 | b4 => exact ⟨by assumption, by assumption⟩)); (first | intro t1' h' tk' F' N' | intro h' tk' F' N'); (try dsimp only); (try k_fold)))
local macro_rules | `(tactic| walk_at "call ref") => `(tactic| (k_here; (with_unfolding_all refine' use_claim (order_i _ _ _ _ _ _ ?b1 ?b2 ?b3 ?b4) rfl rfl ?k1 ?k2 ?k3 ?k4 ?k5 ?k6 ?k7 ?k8 ⟨⟨_, _, _, ?m1⟩, ⟨_, _, _, ?m2⟩, ?_⟩); (case k1 | k2 | k3 | k4 | k5 => k_asm); (case k6 => first | exact rfl | assumption); (case k7 => ktr_room); (case k8 => ktr_units); (try (case m1 | m2 => k_dflt k_mem)); (try (case b1 | b2 | b3 | b4 => exact ⟨by assumption, by assumption⟩)); (first | intro t1' h' tk' F' N' | intro h' tk' F' N'); (try dsimp only); (try k_fold)))

set_option maxRecDepth 100000 in
set_option maxHeartbeats 8000000 in
theorem pr1 (w : World) (p : Program) (loose : List Str) (mean : ExcName → Option Value) (mg mb : Str → Option Value) (fa : Addr) (cd : Value) (h₀ : Heap) (L : Addr) (m : Str → Option Value) (own : List (Addr × Obj)) (s : Shared) (E : Value → Shared → Prop) (D : Addr) (n : Nat) (vs : List Value) (j : Int) (tj : Tok) (T1 T2 A1 A2 W1 W2 H1 H2 : Addr) (hu1 hu2 i1 i2 q1 q2 : UInt64) (wx1 wy1 wx2 wy2 hx1 hy1 hx2 hy2 : Int) (y1 y2 y3 y4 y5 y6 y7 y8 y9 y10 y11 y12 y13 y14 y15 : Tok) (k1 k2 k3 k4 k5 k6 k7 : Nat) (zwx11 : -1000 ≤ wx1) (zwx12 : wx1 ≤ 1000) (zwy11 : -1000 ≤ wy1) (zwy12 : wy1 ≤ 1000) (zwx21 : -1000 ≤ wx2) (zwx22 : wx2 ≤ 1000) (zwy21 : -1000 ≤ wy2) (zwy22 : wy2 ≤ 1000) (zhx11 : -1000 ≤ hx1) (zhx12 : hx1 ≤ 1000) (zhy11 : -1000 ≤ hy1) (zhy12 : hy1 ≤ 1000) (zhx21 : -1000 ≤ hx2) (zhx22 : hx2 ≤ 1000) (zhy21 : -1000 ≤ hy2) (zhy22 : hy2 ≤ 1000) (hcr : (crossI wx1 wy1 wx2 wy2).natAbs ≤ 1000000) (e1 : farFF (Float64.mul (crossF i1 q1 i2 q2) (Float64.ofInt 4096)) (Float64.mul (Float64.neg 4593770158677752786) (Float64.ofInt (crossI wx1 wy1 wx2 wy2))) = false)
    (X : (hd.heap_39 w.params).In h₀) (T : Top p loose mean mg mb h₀) (B : Below callerA h₀ [] h₀)
    (F : Fr h₀ L s.heap (fun y => if y = Str.ofString "other_axes" then some (.ref A2) else if y = Str.ofString "other_heading" then some (.ref H2) else if y = Str.ofString "other_way" then some (.ref W2) else if y = Str.ofString "other_hue" then some (.float hu2 y2) else if y = Str.ofString "earlier" then some (.int j tj) else if y = Str.ofString "axes" then some (.ref A1) else if y = Str.ofString "heading" then some (.ref H1) else if y = Str.ofString "way" then some (.ref W1) else if y = Str.ofString "hue" then some (.float hu1 y1) else if y = Str.ofString "told" then some (.ref D) else m y)) (N : News h₀ L s.heap ((D, W.listOf (List.toArray vs) n) :: (T2, tup4 (.float hu2 y2) (.ref W2) (.ref H2) (.ref A2) k1) :: (A1, tup2 (.float i1 y3) (.float q1 y4) k2) :: (A2, tup2 (.float i2 y5) (.float q2 y6) k3) :: (W1, tup2 (.int wx1 y7) (.int wy1 y8) k4) :: (W2, tup2 (.int wx2 y9) (.int wy2 y10) k5) :: (H1, tup2 (.int hx1 y11) (.int hy1 y12) k6) :: (H2, tup2 (.int hx2 y13) (.int hy2 y14) k7) :: own)) :
    wpAny (model PySem.Challenge.rw_sh0005_01.row.prog w) (callerA.deeper (lawEnv L fa cd)) (exec (pairBody.getD 1 (.Pass ⟨0, 0, 0, 0⟩)) (lawEnv L fa cd)) (fun f s' => StepE h₀ L (fun (a : Unit) => True) (fun (a : Unit) => (fun y => if y = Str.ofString "other_axes" then some (.ref A2) else if y = Str.ofString "other_heading" then some (.ref H2) else if y = Str.ofString "other_way" then some (.ref W2) else if y = Str.ofString "other_hue" then some (.float hu2 y2) else if y = Str.ofString "earlier" then some (.int j tj) else if y = Str.ofString "axes" then some (.ref A1) else if y = Str.ofString "heading" then some (.ref H1) else if y = Str.ofString "way" then some (.ref W1) else if y = Str.ofString "hue" then some (.float hu1 y1) else if y = Str.ofString "told" then some (.ref D) else m y)) (fun (a : Unit) => ((D, W.listOf (List.toArray vs) n) :: (T2, tup4 (.float hu2 y2) (.ref W2) (.ref H2) (.ref A2) k1) :: (A1, tup2 (.float i1 y3) (.float q1 y4) k2) :: (A2, tup2 (.float i2 y5) (.float q2 y6) k3) :: (W1, tup2 (.int wx1 y7) (.int wy1 y8) k4) :: (W2, tup2 (.int wx2 y9) (.int wy2 y10) k5) :: (H1, tup2 (.int hx1 y11) (.int hy1 y12) k6) :: (H2, tup2 (.int hx2 y13) (.int hy2 y14) k7) :: own)) s f s') E s := by
  revert X
  k_fill
  intro X
  with_unfolding_all change wpAny _ (callerA.deeper (envOf _ (Scope.mk _ _ _ _ _) _ _ _)) (exec (Stmt.If _ _ _ _) (envOf _ (Scope.mk _ _ _ _ _) _ _ _)) _ _ _
  dsimp only
  k_steps
  all_goals first | exact stepE_of () (by assumption) (by assumption) trivial | (exfalso; exact not_big (by assumption) (by omega)) | (exfalso; exact Bool.noConfusion ((Eq.symm e1).trans (by assumption)))

set_option maxRecDepth 100000 in
set_option maxHeartbeats 8000000 in
theorem pr2 (w : World) (p : Program) (loose : List Str) (mean : ExcName → Option Value) (mg mb : Str → Option Value) (fa : Addr) (cd : Value) (h₀ : Heap) (L : Addr) (m : Str → Option Value) (own : List (Addr × Obj)) (s : Shared) (E : Value → Shared → Prop) (D : Addr) (n : Nat) (vs : List Value) (j : Int) (tj : Tok) (T1 T2 A1 A2 W1 W2 H1 H2 : Addr) (hu1 hu2 i1 i2 q1 q2 : UInt64) (wx1 wy1 wx2 wy2 hx1 hy1 hx2 hy2 : Int) (y1 y2 y3 y4 y5 y6 y7 y8 y9 y10 y11 y12 y13 y14 y15 : Tok) (k1 k2 k3 k4 k5 k6 k7 : Nat) (zwx11 : -1000 ≤ wx1) (zwx12 : wx1 ≤ 1000) (zwy11 : -1000 ≤ wy1) (zwy12 : wy1 ≤ 1000) (zwx21 : -1000 ≤ wx2) (zwx22 : wx2 ≤ 1000) (zwy21 : -1000 ≤ wy2) (zwy22 : wy2 ≤ 1000) (zhx11 : -1000 ≤ hx1) (zhx12 : hx1 ≤ 1000) (zhy11 : -1000 ≤ hy1) (zhy12 : hy1 ≤ 1000) (zhx21 : -1000 ≤ hx2) (zhx22 : hx2 ≤ 1000) (zhy21 : -1000 ≤ hy2) (zhy22 : hy2 ≤ 1000)
    (X : (hd.heap_39 w.params).In h₀) (T : Top p loose mean mg mb h₀) (B : Below callerA h₀ [] h₀)
    (F : Fr h₀ L s.heap (fun y => if y = Str.ofString "other_axes" then some (.ref A2) else if y = Str.ofString "other_heading" then some (.ref H2) else if y = Str.ofString "other_way" then some (.ref W2) else if y = Str.ofString "other_hue" then some (.float hu2 y2) else if y = Str.ofString "earlier" then some (.int j tj) else if y = Str.ofString "axes" then some (.ref A1) else if y = Str.ofString "heading" then some (.ref H1) else if y = Str.ofString "way" then some (.ref W1) else if y = Str.ofString "hue" then some (.float hu1 y1) else if y = Str.ofString "told" then some (.ref D) else m y)) (N : News h₀ L s.heap ((D, W.listOf (List.toArray vs) n) :: (T2, tup4 (.float hu2 y2) (.ref W2) (.ref H2) (.ref A2) k1) :: (A1, tup2 (.float i1 y3) (.float q1 y4) k2) :: (A2, tup2 (.float i2 y5) (.float q2 y6) k3) :: (W1, tup2 (.int wx1 y7) (.int wy1 y8) k4) :: (W2, tup2 (.int wx2 y9) (.int wy2 y10) k5) :: (H1, tup2 (.int hx1 y11) (.int hy1 y12) k6) :: (H2, tup2 (.int hx2 y13) (.int hy2 y14) k7) :: own)) :
    wpAny (model PySem.Challenge.rw_sh0005_01.row.prog w) (callerA.deeper (lawEnv L fa cd)) (exec (pairBody.getD 2 (.Pass ⟨0, 0, 0, 0⟩)) (lawEnv L fa cd)) (fun f s' => StepE h₀ L (fun (a : Tok) => True) (fun (a : Tok) => (fun y => if y = Str.ofString "order" then some (.int (orderI hx1 hy1 hx2 hy2) a) else if y = Str.ofString "other_axes" then some (.ref A2) else if y = Str.ofString "other_heading" then some (.ref H2) else if y = Str.ofString "other_way" then some (.ref W2) else if y = Str.ofString "other_hue" then some (.float hu2 y2) else if y = Str.ofString "earlier" then some (.int j tj) else if y = Str.ofString "axes" then some (.ref A1) else if y = Str.ofString "heading" then some (.ref H1) else if y = Str.ofString "way" then some (.ref W1) else if y = Str.ofString "hue" then some (.float hu1 y1) else if y = Str.ofString "told" then some (.ref D) else m y)) (fun (a : Tok) => ((D, W.listOf (List.toArray vs) n) :: (T2, tup4 (.float hu2 y2) (.ref W2) (.ref H2) (.ref A2) k1) :: (A1, tup2 (.float i1 y3) (.float q1 y4) k2) :: (A2, tup2 (.float i2 y5) (.float q2 y6) k3) :: (W1, tup2 (.int wx1 y7) (.int wy1 y8) k4) :: (W2, tup2 (.int wx2 y9) (.int wy2 y10) k5) :: (H1, tup2 (.int hx1 y11) (.int hy1 y12) k6) :: (H2, tup2 (.int hx2 y13) (.int hy2 y14) k7) :: own)) s f s') E s := by
  revert X
  k_fill
  intro X
  with_unfolding_all change wpAny _ (callerA.deeper (envOf _ (Scope.mk _ _ _ _ _) _ _ _)) (exec (Stmt.Assign _ _ _) (envOf _ (Scope.mk _ _ _ _ _) _ _ _)) _ _ _
  dsimp only
  k_steps
  all_goals exact stepE_of _ (by assumption) (by assumption) trivial

set_option maxRecDepth 100000 in
set_option maxHeartbeats 8000000 in
theorem pr3 (w : World) (p : Program) (loose : List Str) (mean : ExcName → Option Value) (mg mb : Str → Option Value) (fa : Addr) (cd : Value) (h₀ : Heap) (L : Addr) (m : Str → Option Value) (own : List (Addr × Obj)) (s : Shared) (E : Value → Shared → Prop) (D : Addr) (n : Nat) (vs : List Value) (j : Int) (tj : Tok) (T1 T2 A1 A2 W1 W2 H1 H2 : Addr) (hu1 hu2 i1 i2 q1 q2 : UInt64) (wx1 wy1 wx2 wy2 hx1 hy1 hx2 hy2 : Int) (y1 y2 y3 y4 y5 y6 y7 y8 y9 y10 y11 y12 y13 y14 y15 : Tok) (k1 k2 k3 k4 k5 k6 k7 : Nat) (od : Int) (tod : Tok) (zwx11 : -1000 ≤ wx1) (zwx12 : wx1 ≤ 1000) (zwy11 : -1000 ≤ wy1) (zwy12 : wy1 ≤ 1000) (zwx21 : -1000 ≤ wx2) (zwx22 : wx2 ≤ 1000) (zwy21 : -1000 ≤ wy2) (zwy22 : wy2 ≤ 1000) (zhx11 : -1000 ≤ hx1) (zhx12 : hx1 ≤ 1000) (zhy11 : -1000 ≤ hy1) (zhy12 : hy1 ≤ 1000) (zhx21 : -1000 ≤ hx2) (zhx22 : hx2 ≤ 1000) (zhy21 : -1000 ≤ hy2) (zhy22 : hy2 ≤ 1000) (e1 : signF (Float64.sub hu2 hu1) = od)
    (X : (hd.heap_39 w.params).In h₀) (T : Top p loose mean mg mb h₀) (B : Below callerA h₀ [] h₀)
    (F : Fr h₀ L s.heap (fun y => if y = Str.ofString "order" then some (.int od tod) else if y = Str.ofString "other_axes" then some (.ref A2) else if y = Str.ofString "other_heading" then some (.ref H2) else if y = Str.ofString "other_way" then some (.ref W2) else if y = Str.ofString "other_hue" then some (.float hu2 y2) else if y = Str.ofString "earlier" then some (.int j tj) else if y = Str.ofString "axes" then some (.ref A1) else if y = Str.ofString "heading" then some (.ref H1) else if y = Str.ofString "way" then some (.ref W1) else if y = Str.ofString "hue" then some (.float hu1 y1) else if y = Str.ofString "told" then some (.ref D) else m y)) (N : News h₀ L s.heap ((D, W.listOf (List.toArray vs) n) :: (T2, tup4 (.float hu2 y2) (.ref W2) (.ref H2) (.ref A2) k1) :: (A1, tup2 (.float i1 y3) (.float q1 y4) k2) :: (A2, tup2 (.float i2 y5) (.float q2 y6) k3) :: (W1, tup2 (.int wx1 y7) (.int wy1 y8) k4) :: (W2, tup2 (.int wx2 y9) (.int wy2 y10) k5) :: (H1, tup2 (.int hx1 y11) (.int hy1 y12) k6) :: (H2, tup2 (.int hx2 y13) (.int hy2 y14) k7) :: own)) :
    wpAny (model PySem.Challenge.rw_sh0005_01.row.prog w) (callerA.deeper (lawEnv L fa cd)) (exec (pairBody.getD 3 (.Pass ⟨0, 0, 0, 0⟩)) (lawEnv L fa cd)) (fun f s' => StepE h₀ L (fun (a : Unit) => True) (fun (a : Unit) => (fun y => if y = Str.ofString "order" then some (.int od tod) else if y = Str.ofString "other_axes" then some (.ref A2) else if y = Str.ofString "other_heading" then some (.ref H2) else if y = Str.ofString "other_way" then some (.ref W2) else if y = Str.ofString "other_hue" then some (.float hu2 y2) else if y = Str.ofString "earlier" then some (.int j tj) else if y = Str.ofString "axes" then some (.ref A1) else if y = Str.ofString "heading" then some (.ref H1) else if y = Str.ofString "way" then some (.ref W1) else if y = Str.ofString "hue" then some (.float hu1 y1) else if y = Str.ofString "told" then some (.ref D) else m y)) (fun (a : Unit) => ((D, W.listOf (List.toArray vs) n) :: (T2, tup4 (.float hu2 y2) (.ref W2) (.ref H2) (.ref A2) k1) :: (A1, tup2 (.float i1 y3) (.float q1 y4) k2) :: (A2, tup2 (.float i2 y5) (.float q2 y6) k3) :: (W1, tup2 (.int wx1 y7) (.int wy1 y8) k4) :: (W2, tup2 (.int wx2 y9) (.int wy2 y10) k5) :: (H1, tup2 (.int hx1 y11) (.int hy1 y12) k6) :: (H2, tup2 (.int hx2 y13) (.int hy2 y14) k7) :: own)) s f s') E s := by
  revert X
  k_fill
  intro X
  with_unfolding_all change wpAny _ (callerA.deeper (envOf _ (Scope.mk _ _ _ _ _) _ _ _)) (exec (Stmt.If _ _ _ _) (envOf _ (Scope.mk _ _ _ _ _) _ _ _)) _ _ _
  dsimp only
  k_steps
  all_goals first | exact stepE_of () (by assumption) (by assumption) trivial | (exfalso; exact absurd e1 (by assumption))

set_option maxRecDepth 100000 in
set_option maxHeartbeats 8000000 in
theorem pr4 (w : World) (p : Program) (loose : List Str) (mean : ExcName → Option Value) (mg mb : Str → Option Value) (fa : Addr) (cd : Value) (h₀ : Heap) (L : Addr) (m : Str → Option Value) (own : List (Addr × Obj)) (s : Shared) (E : Value → Shared → Prop) (D : Addr) (n : Nat) (vs : List Value) (j : Int) (tj : Tok) (T1 T2 A1 A2 W1 W2 H1 H2 : Addr) (hu1 hu2 i1 i2 q1 q2 : UInt64) (wx1 wy1 wx2 wy2 hx1 hy1 hx2 hy2 : Int) (y1 y2 y3 y4 y5 y6 y7 y8 y9 y10 y11 y12 y13 y14 y15 : Tok) (k1 k2 k3 k4 k5 k6 k7 : Nat) (od : Int) (tod : Tok) (zwx11 : -1000 ≤ wx1) (zwx12 : wx1 ≤ 1000) (zwy11 : -1000 ≤ wy1) (zwy12 : wy1 ≤ 1000) (zwx21 : -1000 ≤ wx2) (zwx22 : wx2 ≤ 1000) (zwy21 : -1000 ≤ wy2) (zwy22 : wy2 ≤ 1000) (zhx11 : -1000 ≤ hx1) (zhx12 : hx1 ≤ 1000) (zhy11 : -1000 ≤ hy1) (zhy12 : hy1 ≤ 1000) (zhx21 : -1000 ≤ hx2) (zhx22 : hx2 ≤ 1000) (zhy21 : -1000 ≤ hy2) (zhy22 : hy2 ≤ 1000) (e1 : od ≠ 0 → crossI hx1 hy1 hx2 hy2 = 0 → farFF (Float64.abs (Float64.sub hu2 hu1)) 4602678819172646912 = false)
    (X : (hd.heap_39 w.params).In h₀) (T : Top p loose mean mg mb h₀) (B : Below callerA h₀ [] h₀)
    (F : Fr h₀ L s.heap (fun y => if y = Str.ofString "order" then some (.int od tod) else if y = Str.ofString "other_axes" then some (.ref A2) else if y = Str.ofString "other_heading" then some (.ref H2) else if y = Str.ofString "other_way" then some (.ref W2) else if y = Str.ofString "other_hue" then some (.float hu2 y2) else if y = Str.ofString "earlier" then some (.int j tj) else if y = Str.ofString "axes" then some (.ref A1) else if y = Str.ofString "heading" then some (.ref H1) else if y = Str.ofString "way" then some (.ref W1) else if y = Str.ofString "hue" then some (.float hu1 y1) else if y = Str.ofString "told" then some (.ref D) else m y)) (N : News h₀ L s.heap ((D, W.listOf (List.toArray vs) n) :: (T2, tup4 (.float hu2 y2) (.ref W2) (.ref H2) (.ref A2) k1) :: (A1, tup2 (.float i1 y3) (.float q1 y4) k2) :: (A2, tup2 (.float i2 y5) (.float q2 y6) k3) :: (W1, tup2 (.int wx1 y7) (.int wy1 y8) k4) :: (W2, tup2 (.int wx2 y9) (.int wy2 y10) k5) :: (H1, tup2 (.int hx1 y11) (.int hy1 y12) k6) :: (H2, tup2 (.int hx2 y13) (.int hy2 y14) k7) :: own)) :
    wpAny (model PySem.Challenge.rw_sh0005_01.row.prog w) (callerA.deeper (lawEnv L fa cd)) (exec (pairBody.getD 4 (.Pass ⟨0, 0, 0, 0⟩)) (lawEnv L fa cd)) (fun f s' => StepE h₀ L (fun (a : Unit) => True) (fun (a : Unit) => (fun y => if y = Str.ofString "order" then some (.int od tod) else if y = Str.ofString "other_axes" then some (.ref A2) else if y = Str.ofString "other_heading" then some (.ref H2) else if y = Str.ofString "other_way" then some (.ref W2) else if y = Str.ofString "other_hue" then some (.float hu2 y2) else if y = Str.ofString "earlier" then some (.int j tj) else if y = Str.ofString "axes" then some (.ref A1) else if y = Str.ofString "heading" then some (.ref H1) else if y = Str.ofString "way" then some (.ref W1) else if y = Str.ofString "hue" then some (.float hu1 y1) else if y = Str.ofString "told" then some (.ref D) else m y)) (fun (a : Unit) => ((D, W.listOf (List.toArray vs) n) :: (T2, tup4 (.float hu2 y2) (.ref W2) (.ref H2) (.ref A2) k1) :: (A1, tup2 (.float i1 y3) (.float q1 y4) k2) :: (A2, tup2 (.float i2 y5) (.float q2 y6) k3) :: (W1, tup2 (.int wx1 y7) (.int wy1 y8) k4) :: (W2, tup2 (.int wx2 y9) (.int wy2 y10) k5) :: (H1, tup2 (.int hx1 y11) (.int hy1 y12) k6) :: (H2, tup2 (.int hx2 y13) (.int hy2 y14) k7) :: own)) s f s') E s := by
  revert X
  k_fill
  intro X
  with_unfolding_all change wpAny _ (callerA.deeper (envOf _ (Scope.mk _ _ _ _ _) _ _ _)) (exec (Stmt.If _ _ _ _) (envOf _ (Scope.mk _ _ _ _ _) _ _ _)) _ _ _
  dsimp only
  k_steps
  all_goals first | exact stepE_of () (by assumption) (by assumption) trivial | (exfalso; exact not_big (by assumption) (by omega)) | (exfalso; exact Bool.noConfusion ((Eq.symm (e1 (by assumption) (by assumption))).trans (by assumption)))
local macro_rules | `(tactic| walk_at "subscriptTail") => `(tactic| (k_here; (with_reducible show wpAny _ _ (subscriptTail _ _ (Value.ref _) (Value.int _ _)) _ _ _); (rename News _ _ _ _ => N'); (with_unfolding_all refine kim_list N' (by exact List.Mem.head _) (by rfl) (by rfl) (by assumption) (by omega) (by assumption) ?_)))

set_option maxRecDepth 100000 in
set_option maxHeartbeats 8000000 in
theorem pr0 (w : World) (p : Program) (loose : List Str) (mean : ExcName → Option Value) (mg mb : Str → Option Value) (fa : Addr) (cd : Value) (h₀ : Heap) (L : Addr) (m : Str → Option Value) (own : List (Addr × Obj)) (s : Shared) (E : Value → Shared → Prop) (D : Addr) (n : Nat) (vs : List Value) (j : Int) (tj : Tok) (T1 T2 A1 A2 W1 W2 H1 H2 : Addr) (hu1 hu2 i1 i2 q1 q2 : UInt64) (wx1 wy1 wx2 wy2 hx1 hy1 hx2 hy2 : Int) (y1 y2 y3 y4 y5 y6 y7 y8 y9 y10 y11 y12 y13 y14 y15 : Tok) (k1 k2 k3 k4 k5 k6 k7 : Nat) (hj0 : 0 ≤ j) (hj1 : j < 1000) (hjv : vs[j.toNat]? = some (.ref T2))
    (X : (hd.heap_39 w.params).In h₀) (T : Top p loose mean mg mb h₀) (B : Below callerA h₀ [] h₀)
    (F : Fr h₀ L s.heap (fun y => if y = Str.ofString "earlier" then some (.int j tj) else if y = Str.ofString "axes" then some (.ref A1) else if y = Str.ofString "heading" then some (.ref H1) else if y = Str.ofString "way" then some (.ref W1) else if y = Str.ofString "hue" then some (.float hu1 y1) else if y = Str.ofString "told" then some (.ref D) else m y)) (N : News h₀ L s.heap ((D, W.listOf (List.toArray vs) n) :: (T2, tup4 (.float hu2 y2) (.ref W2) (.ref H2) (.ref A2) k1) :: (A1, tup2 (.float i1 y3) (.float q1 y4) k2) :: (A2, tup2 (.float i2 y5) (.float q2 y6) k3) :: (W1, tup2 (.int wx1 y7) (.int wy1 y8) k4) :: (W2, tup2 (.int wx2 y9) (.int wy2 y10) k5) :: (H1, tup2 (.int hx1 y11) (.int hy1 y12) k6) :: (H2, tup2 (.int hx2 y13) (.int hy2 y14) k7) :: own)) :
    wpAny (model PySem.Challenge.rw_sh0005_01.row.prog w) (callerA.deeper (lawEnv L fa cd)) (exec (pairBody.getD 0 (.Pass ⟨0, 0, 0, 0⟩)) (lawEnv L fa cd)) (fun f s' => StepE h₀ L (fun (a : Unit) => True) (fun (a : Unit) => (fun y => if y = Str.ofString "other_axes" then some (.ref A2) else if y = Str.ofString "other_heading" then some (.ref H2) else if y = Str.ofString "other_way" then some (.ref W2) else if y = Str.ofString "other_hue" then some (.float hu2 y2) else if y = Str.ofString "earlier" then some (.int j tj) else if y = Str.ofString "axes" then some (.ref A1) else if y = Str.ofString "heading" then some (.ref H1) else if y = Str.ofString "way" then some (.ref W1) else if y = Str.ofString "hue" then some (.float hu1 y1) else if y = Str.ofString "told" then some (.ref D) else m y)) (fun (a : Unit) => ((D, W.listOf (List.toArray vs) n) :: (T2, tup4 (.float hu2 y2) (.ref W2) (.ref H2) (.ref A2) k1) :: (A1, tup2 (.float i1 y3) (.float q1 y4) k2) :: (A2, tup2 (.float i2 y5) (.float q2 y6) k3) :: (W1, tup2 (.int wx1 y7) (.int wy1 y8) k4) :: (W2, tup2 (.int wx2 y9) (.int wy2 y10) k5) :: (H1, tup2 (.int hx1 y11) (.int hy1 y12) k6) :: (H2, tup2 (.int hx2 y13) (.int hy2 y14) k7) :: own)) s f s') E s := by
  revert X
  k_fill
  intro X
  with_unfolding_all change wpAny _ (callerA.deeper (envOf _ (Scope.mk _ _ _ _ _) _ _ _)) (exec (Stmt.Assign _ _ _) (envOf _ (Scope.mk _ _ _ _ _) _ _ _)) _ _ _
  dsimp only
  k_steps
  all_goals exact stepE_of () (by assumption) (by assumption) trivial

set_option maxRecDepth 100000 in
set_option maxHeartbeats 8000000 in
theorem la0 (w : World) (p : Program) (loose : List Str) (mean : ExcName → Option Value) (mg mb : Str → Option Value) (fa : Addr) (cd : Value) (h₀ : Heap) (L : Addr) (m : Str → Option Value) (own : List (Addr × Obj)) (s : Shared) (E : Value → Shared → Prop) (D : Addr) (n : Nat) (vs : List Value) (j : Int) (tj : Tok) (T1 A1 W1 H1 : Addr) (hu1 : UInt64) (y1 : Tok) (k1 : Nat) (hj0 : 0 ≤ j) (hj1 : j < 1000) (hjv : vs[j.toNat]? = some (.ref T1))
    (X : (hd.heap_39 w.params).In h₀) (T : Top p loose mean mg mb h₀) (B : Below callerA h₀ [] h₀)
    (F : Fr h₀ L s.heap (fun y => if y = Str.ofString "later" then some (.int j tj) else if y = Str.ofString "told" then some (.ref D) else m y)) (N : News h₀ L s.heap ((D, W.listOf (List.toArray vs) n) :: (T1, tup4 (.float hu1 y1) (.ref W1) (.ref H1) (.ref A1) k1) :: own)) :
    wpAny (model PySem.Challenge.rw_sh0005_01.row.prog w) (callerA.deeper (lawEnv L fa cd)) (exec (laterBody.getD 0 (.Pass ⟨0, 0, 0, 0⟩)) (lawEnv L fa cd)) (fun f s' => StepE h₀ L (fun (a : Unit) => True) (fun (a : Unit) => (fun y => if y = Str.ofString "axes" then some (.ref A1) else if y = Str.ofString "heading" then some (.ref H1) else if y = Str.ofString "way" then some (.ref W1) else if y = Str.ofString "hue" then some (.float hu1 y1) else if y = Str.ofString "later" then some (.int j tj) else if y = Str.ofString "told" then some (.ref D) else m y)) (fun (a : Unit) => ((D, W.listOf (List.toArray vs) n) :: (T1, tup4 (.float hu1 y1) (.ref W1) (.ref H1) (.ref A1) k1) :: own)) s f s') E s := by
  revert X
  k_fill
  intro X
  with_unfolding_all change wpAny _ (callerA.deeper (envOf _ (Scope.mk _ _ _ _ _) _ _ _)) (exec (Stmt.Assign _ _ _) (envOf _ (Scope.mk _ _ _ _ _) _ _ _)) _ _ _
  dsimp only
  k_steps
  all_goals exact stepE_of () (by assumption) (by assumption) trivial
end Mine

/-! part W10 -/
namespace Mine
theorem calmW10 : True := by
  w_top off
  trivial
theorem p0_eq {m : Str → Option Value} {D : Addr} {j : Int} {tj y1 : Tok} {A1 H1 W1 : Addr} {hu1 : UInt64} (e0 : m (Str.ofString "earlier") = some (.int j tj)) (e1 : m (Str.ofString "axes") = some (.ref A1)) (e2 : m (Str.ofString "heading") = some (.ref H1)) (e3 : m (Str.ofString "way") = some (.ref W1)) (e4 : m (Str.ofString "hue") = some (.float hu1 y1)) (e5 : m (Str.ofString "told") = some (.ref D)) : (fun y => if y = Str.ofString "earlier" then some (.int j tj) else if y = Str.ofString "axes" then some (.ref A1) else if y = Str.ofString "heading" then some (.ref H1) else if y = Str.ofString "way" then some (.ref W1) else if y = Str.ofString "hue" then some (.float hu1 y1) else if y = Str.ofString "told" then some (.ref D) else m y) = m := by
  funext y
  by_cases c0 : y = Str.ofString "earlier"
  · rw [if_pos c0, c0, e0]
  rw [if_neg c0]
  by_cases c1 : y = Str.ofString "axes"
  · rw [if_pos c1, c1, e1]
  rw [if_neg c1]
  by_cases c2 : y = Str.ofString "heading"
  · rw [if_pos c2, c2, e2]
  rw [if_neg c2]
  by_cases c3 : y = Str.ofString "way"
  · rw [if_pos c3, c3, e3]
  rw [if_neg c3]
  by_cases c4 : y = Str.ofString "hue"
  · rw [if_pos c4, c4, e4]
  rw [if_neg c4]
  by_cases c5 : y = Str.ofString "told"
  · rw [if_pos c5, c5, e5]
  rw [if_neg c5]

structure PairP (x1 y1 z1 x2 y2 z2 : UInt64) (r1 g1 b1 r2 g2 b2 : Int) : Prop where
  a : farFF (Float64.mul (crossF ((yiqF x1 y1 z1).2.1) ((yiqF x1 y1 z1).2.2) ((yiqF x2 y2 z2).2.1) ((yiqF x2 y2 z2).2.2)) (Float64.ofInt 4096)) (Float64.mul (Float64.neg 4593770158677752786) (Float64.ofInt (crossI (2 * r1 - g1 - b1) (g1 - b1) (2 * r2 - g2 - b2) (g2 - b2)))) = false
  b : signF (Float64.sub (hsvF x2 y2 z2).1 (hsvF x1 y1 z1).1) = orderI (headX r1 g1 b1) (headY r1 g1 b1) (headX r2 g2 b2) (headY r2 g2 b2)
  c : orderI (headX r1 g1 b1) (headY r1 g1 b1) (headX r2 g2 b2) (headY r2 g2 b2) ≠ 0 → crossI (headX r1 g1 b1) (headY r1 g1 b1) (headX r2 g2 b2) (headY r2 g2 b2) = 0 → farFF (Float64.abs (Float64.sub (hsvF x2 y2 z2).1 (hsvF x1 y1 z1).1)) 4602678819172646912 = false
noncomputable abbrev PairOK (r1 g1 b1 r2 g2 b2 : Int) : Prop := PairP (cf r1) (cf g1) (cf b1) (cf r2) (cf g2) (cf b2) r1 g1 b1 r2 g2 b2

theorem way_bounds {a b c : Int} (h1 : 0 ≤ a ∧ a ≤ 64) (h2 : 0 ≤ b ∧ b ≤ 64) (h3 : 0 ≤ c ∧ c ≤ 64) : -1000 ≤ 2 * a - b - c ∧ 2 * a - b - c ≤ 1000 ∧ -500 ≤ b - c ∧ b - c ≤ 500 ∧ -1000 ≤ b - c ∧ b - c ≤ 1000 := by
  refine ⟨?_, ?_, ?_, ?_, ?_, ?_⟩ <;> omega
theorem mul_bound {a b : Int} (ha : -1000 ≤ a ∧ a ≤ 1000) (hb : -500 ≤ b ∧ b ≤ 500) : (a * b).natAbs ≤ 500000 := by
  rw [Int.natAbs_mul]
  exact Nat.mul_le_mul (show a.natAbs ≤ 1000 by omega) (show b.natAbs ≤ 500 by omega)
theorem head_bounds {r g b : Int} (hr : 0 ≤ r ∧ r ≤ 64) (hg : 0 ≤ g ∧ g ≤ 64) (hb : 0 ≤ b ∧ b ≤ 64) : -1000 ≤ headX r g b ∧ headX r g b ≤ 1000 ∧ -1000 ≤ headY r g b ∧ headY r g b ≤ 1000 := by
  unfold headX headY
  split <;> omega
theorem cross_bound {x y x' y' : Int} (h : -1000 ≤ x ∧ x ≤ 1000 ∧ -500 ≤ y ∧ y ≤ 500 ∧ -1000 ≤ y ∧ y ≤ 1000) (h' : -1000 ≤ x' ∧ x' ≤ 1000 ∧ -500 ≤ y' ∧ y' ≤ 500 ∧ -1000 ≤ y' ∧ y' ≤ 1000) : (crossI x y x' y').natAbs ≤ 1000000 := by
  have e1 := mul_bound (a := x) (b := y') ⟨h.1, h.2.1⟩ ⟨h'.2.2.1, h'.2.2.2.1⟩
  have e2 := mul_bound (a := x') (b := y) ⟨h'.1, h'.2.1⟩ ⟨h.2.2.1, h.2.2.2.1⟩
  unfold crossI
  clear h h'
  generalize x * y' = u at *
  generalize x' * y = v at *
  omega
structure Kept (m : Str → Option Value) (D W1 H1 A1 : Addr) (hu1 : UInt64) (y1 : Tok) : Prop where
  told : m (Str.ofString "told") = some (.ref D)
  hue : m (Str.ofString "hue") = some (.float hu1 y1)
  way : m (Str.ofString "way") = some (.ref W1)
  heading : m (Str.ofString "heading") = some (.ref H1)
  axes : m (Str.ofString "axes") = some (.ref A1)
structure PairEnd (h₀ : Heap) (L D W1 H1 A1 : Addr) (hu1 : UInt64) (y1 : Tok) (news : List (Addr × Obj)) (s : Shared) (f : Flow) (s' : Shared) : Prop where
  next : f = .next
  here : ∃ h tk m', s' = { s with heap := h, toks := tk } ∧ Fr h₀ L h m' ∧ News h₀ L h news ∧ Kept m' D W1 H1 A1 hu1 y1

set_option maxRecDepth 100000 in
theorem pair_ok (w : World) (p : Program) (loose : List Str) (mean : ExcName → Option Value) (mg mb : Str → Option Value) (fa : Addr) (cd : Value) (h₀ : Heap) (L : Addr) (m : Str → Option Value) (news : List (Addr × Obj)) (s : Shared) (E : Value → Shared → Prop) (D : Addr) (n : Nat) (vs : List Value) (j : Int) (tj : Tok) (T2 A1 A2 W1 W2 H1 H2 : Addr) (y1 y2 y3 y4 y5 y6 y7 y8 y9 y10 y11 y12 y13 y14 : Tok) (k1 k2 k3 k4 k5 k6 k7 : Nat) (r1 g1 b1 r2 g2 b2 : Int)
    (hr1 : 0 ≤ r1 ∧ r1 ≤ 64) (hg1 : 0 ≤ g1 ∧ g1 ≤ 64) (hb1 : 0 ≤ b1 ∧ b1 ≤ 64) (hr2 : 0 ≤ r2 ∧ r2 ≤ 64) (hg2 : 0 ≤ g2 ∧ g2 ≤ 64) (hb2 : 0 ≤ b2 ∧ b2 ≤ 64) (C : PairOK r1 g1 b1 r2 g2 b2) (hj0 : 0 ≤ j) (hj1 : j < 1000) (hjv : vs[j.toNat]? = some (.ref T2))
    (q0 : (D, W.listOf (List.toArray vs) n) ∈ news) (q1 : (T2, tup4 (.float (hsvF (cf r2) (cf g2) (cf b2)).1 y2) (.ref W2) (.ref H2) (.ref A2) k1) ∈ news) (q2 : (A1, tup2 (.float ((yiqF (cf r1) (cf g1) (cf b1)).2.1) y3) (.float ((yiqF (cf r1) (cf g1) (cf b1)).2.2) y4) k2) ∈ news) (q3 : (A2, tup2 (.float ((yiqF (cf r2) (cf g2) (cf b2)).2.1) y5) (.float ((yiqF (cf r2) (cf g2) (cf b2)).2.2) y6) k3) ∈ news) (q4 : (W1, tup2 (.int (2 * r1 - g1 - b1) y7) (.int (g1 - b1) y8) k4) ∈ news) (q5 : (W2, tup2 (.int (2 * r2 - g2 - b2) y9) (.int (g2 - b2) y10) k5) ∈ news) (q6 : (H1, tup2 (.int (headX r1 g1 b1) y11) (.int (headY r1 g1 b1) y12) k6) ∈ news) (q7 : (H2, tup2 (.int (headX r2 g2 b2) y13) (.int (headY r2 g2 b2) y14) k7) ∈ news)
    (K : Kept m D W1 H1 A1 (hsvF (cf r1) (cf g1) (cf b1)).1 y1) (he : m (Str.ofString "earlier") = some (.int j tj))
    (X : (hd.heap_39 w.params).In h₀) (T : Top p loose mean mg mb h₀) (B : Below callerA h₀ [] h₀)
    (F : Fr h₀ L s.heap m) (N : News h₀ L s.heap news) :
    wpAny (model PySem.Challenge.rw_sh0005_01.row.prog w) (callerA.deeper (lawEnv L fa cd)) (execs pairBody (lawEnv L fa cd)) (fun f s' => PairEnd h₀ L D W1 H1 A1 (hsvF (cf r1) (cf g1) (cf b1)).1 y1 news s f s') E s := by
  have hh1 := head_bounds hr1 hg1 hb1
  have hh2 := head_bounds hr2 hg2 hb2
  have hw1 := way_bounds hr1 hg1 hb1
  have zwx11 := hw1.1
  have zwx12 := hw1.2.1
  have zwy11 := hw1.2.2.2.2.1
  have zwy12 := hw1.2.2.2.2.2
  have hw2 := way_bounds hr2 hg2 hb2
  have zwx21 := hw2.1
  have zwx22 := hw2.2.1
  have zwy21 := hw2.2.2.2.2.1
  have zwy22 := hw2.2.2.2.2.2
  have zhx11 := hh1.1
  have zhx12 := hh1.2.1
  have zhy11 := hh1.2.2.1
  have zhy12 := hh1.2.2.2
  have zhx21 := hh2.1
  have zhx22 := hh2.2.1
  have zhy21 := hh2.2.2.1
  have zhy22 := hh2.2.2.2
  have hcr := cross_bound hw1 hw2
  have eb : pairBody = [pairBody.getD 0 (.Pass ⟨0, 0, 0, 0⟩), pairBody.getD 1 (.Pass ⟨0, 0, 0, 0⟩), pairBody.getD 2 (.Pass ⟨0, 0, 0, 0⟩), pairBody.getD 3 (.Pass ⟨0, 0, 0, 0⟩), pairBody.getD 4 (.Pass ⟨0, 0, 0, 0⟩)] := rfl
  rw [eb]
  have q := p0_eq he K.axes K.heading K.way K.hue K.told
  rw [← q] at F
  have N8 := (more_news (more_news (more_news (more_news (more_news (more_news (more_news (more_news N q7) (.tail _ q6)) (.tail _ (.tail _ q5))) (.tail _ (.tail _ (.tail _ q4)))) (.tail _ (.tail _ (.tail _ (.tail _ q3))))) (.tail _ (.tail _ (.tail _ (.tail _ (.tail _ q2)))))) (.tail _ (.tail _ (.tail _ (.tail _ (.tail _ (.tail _ q1))))))) (.tail _ (.tail _ (.tail _ (.tail _ (.tail _ (.tail _ (.tail _ q0))))))))
  refine step_cut (pr0 w p loose mean mg mb fa cd h₀ L m news _ E D n vs j tj 0 T2 A1 A2 W1 W2 H1 H2 (hsvF (cf r1) (cf g1) (cf b1)).1 (hsvF (cf r2) (cf g2) (cf b2)).1 ((yiqF (cf r1) (cf g1) (cf b1)).2.1) ((yiqF (cf r2) (cf g2) (cf b2)).2.1) ((yiqF (cf r1) (cf g1) (cf b1)).2.2) ((yiqF (cf r2) (cf g2) (cf b2)).2.2) (2 * r1 - g1 - b1) (g1 - b1) (2 * r2 - g2 - b2) (g2 - b2) (headX r1 g1 b1) (headY r1 g1 b1) (headX r2 g2 b2) (headY r2 g2 b2) y1 y2 y3 y4 y5 y6 y7 y8 y9 y10 y11 y12 y13 y14 0 k1 k2 k3 k4 k5 k6 k7 hj0 hj1 hjv X T B F N8) (fun z0 h0 tk0 F0 M0 p0 => ?_)
  refine step_cut (pr1 w p loose mean mg mb fa cd h₀ L m news _ E D n vs j tj 0 T2 A1 A2 W1 W2 H1 H2 (hsvF (cf r1) (cf g1) (cf b1)).1 (hsvF (cf r2) (cf g2) (cf b2)).1 ((yiqF (cf r1) (cf g1) (cf b1)).2.1) ((yiqF (cf r2) (cf g2) (cf b2)).2.1) ((yiqF (cf r1) (cf g1) (cf b1)).2.2) ((yiqF (cf r2) (cf g2) (cf b2)).2.2) (2 * r1 - g1 - b1) (g1 - b1) (2 * r2 - g2 - b2) (g2 - b2) (headX r1 g1 b1) (headY r1 g1 b1) (headX r2 g2 b2) (headY r2 g2 b2) y1 y2 y3 y4 y5 y6 y7 y8 y9 y10 y11 y12 y13 y14 0 k1 k2 k3 k4 k5 k6 k7 zwx11 zwx12 zwy11 zwy12 zwx21 zwx22 zwy21 zwy22 zhx11 zhx12 zhy11 zhy12 zhx21 zhx22 zhy21 zhy22 hcr C.a X T B F0 M0) (fun z1 h1 tk1 F1 M1 p1 => ?_)
  refine step_cut (pr2 w p loose mean mg mb fa cd h₀ L m news _ E D n vs j tj 0 T2 A1 A2 W1 W2 H1 H2 (hsvF (cf r1) (cf g1) (cf b1)).1 (hsvF (cf r2) (cf g2) (cf b2)).1 ((yiqF (cf r1) (cf g1) (cf b1)).2.1) ((yiqF (cf r2) (cf g2) (cf b2)).2.1) ((yiqF (cf r1) (cf g1) (cf b1)).2.2) ((yiqF (cf r2) (cf g2) (cf b2)).2.2) (2 * r1 - g1 - b1) (g1 - b1) (2 * r2 - g2 - b2) (g2 - b2) (headX r1 g1 b1) (headY r1 g1 b1) (headX r2 g2 b2) (headY r2 g2 b2) y1 y2 y3 y4 y5 y6 y7 y8 y9 y10 y11 y12 y13 y14 0 k1 k2 k3 k4 k5 k6 k7 zwx11 zwx12 zwy11 zwy12 zwx21 zwx22 zwy21 zwy22 zhx11 zhx12 zhy11 zhy12 zhx21 zhx22 zhy21 zhy22 X T B F1 M1) (fun z2 h2 tk2 F2 M2 p2 => ?_)
  refine step_cut (pr3 w p loose mean mg mb fa cd h₀ L m news _ E D n vs j tj 0 T2 A1 A2 W1 W2 H1 H2 (hsvF (cf r1) (cf g1) (cf b1)).1 (hsvF (cf r2) (cf g2) (cf b2)).1 ((yiqF (cf r1) (cf g1) (cf b1)).2.1) ((yiqF (cf r2) (cf g2) (cf b2)).2.1) ((yiqF (cf r1) (cf g1) (cf b1)).2.2) ((yiqF (cf r2) (cf g2) (cf b2)).2.2) (2 * r1 - g1 - b1) (g1 - b1) (2 * r2 - g2 - b2) (g2 - b2) (headX r1 g1 b1) (headY r1 g1 b1) (headX r2 g2 b2) (headY r2 g2 b2) y1 y2 y3 y4 y5 y6 y7 y8 y9 y10 y11 y12 y13 y14 0 k1 k2 k3 k4 k5 k6 k7 (orderI (headX r1 g1 b1) (headY r1 g1 b1) (headX r2 g2 b2) (headY r2 g2 b2)) z2 zwx11 zwx12 zwy11 zwy12 zwx21 zwx22 zwy21 zwy22 zhx11 zhx12 zhy11 zhy12 zhx21 zhx22 zhy21 zhy22 C.b X T B F2 M2) (fun z3 h3 tk3 F3 M3 p3 => ?_)
  refine step_cut (pr4 w p loose mean mg mb fa cd h₀ L m news _ E D n vs j tj 0 T2 A1 A2 W1 W2 H1 H2 (hsvF (cf r1) (cf g1) (cf b1)).1 (hsvF (cf r2) (cf g2) (cf b2)).1 ((yiqF (cf r1) (cf g1) (cf b1)).2.1) ((yiqF (cf r2) (cf g2) (cf b2)).2.1) ((yiqF (cf r1) (cf g1) (cf b1)).2.2) ((yiqF (cf r2) (cf g2) (cf b2)).2.2) (2 * r1 - g1 - b1) (g1 - b1) (2 * r2 - g2 - b2) (g2 - b2) (headX r1 g1 b1) (headY r1 g1 b1) (headX r2 g2 b2) (headY r2 g2 b2) y1 y2 y3 y4 y5 y6 y7 y8 y9 y10 y11 y12 y13 y14 0 k1 k2 k3 k4 k5 k6 k7 (orderI (headX r1 g1 b1) (headY r1 g1 b1) (headX r2 g2 b2) (headY r2 g2 b2)) z2 zwx11 zwx12 zwy11 zwy12 zwx21 zwx22 zwy21 zwy22 zhx11 zhx12 zhy11 zhy12 zhx21 zhx22 zhy21 zhy22 C.c X T B F3 M3) (fun z4 h4 tk4 F4 M4 p4 => ?_)
  refine wpAny_execs_nil ?_
  exact ⟨rfl, h4, tk4, _, rfl, F4, less_news (less_news (less_news (less_news (less_news (less_news (less_news (less_news M4))))))), (by with_unfolding_all rfl), (by with_unfolding_all rfl), (by with_unfolding_all rfl), (by with_unfolding_all rfl), (by with_unfolding_all rfl)⟩
end Mine

/-! part W11 -/
namespace Mine
theorem calmW11 : True := by
  w_top off
  trivial

open PySem.Calls
noncomputable def EntryIn (news : List (Addr × Obj)) (T : Addr) (c : Int × Int × Int) : Prop := ∃ es, EntryOf c.1 c.2.1 c.2.2 T es ∧ ∀ p ∈ es, p ∈ news
noncomputable abbrev In64 (c : Int × Int × Int) : Prop := (0 ≤ c.1 ∧ c.1 ≤ 64) ∧ (0 ≤ c.2.1 ∧ c.2.1 ≤ 64) ∧ (0 ≤ c.2.2 ∧ c.2.2 ≤ 64)
/-- the told list: one entry a colour -/
structure ToldIn (news : List (Addr × Obj)) (vs : List Value) (cols : List (Int × Int × Int)) : Prop where
  len : vs.length = cols.length
  at_ : ∀ (i : Nat) c, cols[i]? = some c → ∃ T, vs[i]? = some (.ref T) ∧ EntryIn news T c
noncomputable def AllPairs : Prop := ∀ r1 g1 b1 r2 g2 b2 : Int, In64 (r1, g1, b1) → In64 (r2, g2, b2) → PairOK r1 g1 b1 r2 g2 b2
theorem small_six {j : Int} (h0 : 0 ≤ j) (h6 : j ≤ 6) : Builtin.Range.small 0 j 1 = true ∧ Builtin.Range.rangeSize 0 j 1 = ((j.toNat : Nat) : Int) := by
  have : j = 0 ∨ j = 1 ∨ j = 2 ∨ j = 3 ∨ j = 4 ∨ j = 5 ∨ j = 6 := by omega
  rcases this with rfl | rfl | rfl | rfl | rfl | rfl | rfl <;> exact ⟨by decide, by decide⟩

theorem inner_iter (w : World) (p : Program) (loose : List Str) (mean : ExcName → Option Value) (mg mb : Str → Option Value) (fa : Addr) (cd : Value) (h₀ : Heap) (L : Addr) (news : List (Addr × Obj)) (s : Shared) (Q : Flow → Shared → Prop) (E : Value → Shared → Prop) (j : Int) (hj0 : 0 ≤ j) (hj1 : j ≤ 6)
    (D : Addr) (n : Nat) (vs : List Value) (cols : List (Int × Int × Int)) (TI : ToldIn news vs cols) (hc : ∀ c ∈ cols, In64 c) (hjc : j ≤ (cols.length : Int)) (HP : AllPairs) (hD : (D, W.listOf (List.toArray vs) n) ∈ news)
    (c1 : Int × Int × Int) (hc1 : In64 c1) (T1 : Addr) (W1 H1 A1 : Addr) (y1 y3 y4 y7 y8 y11 y12 : Tok) (k1 k2 k4 k6 : Nat)
    (qa : (A1, tup2 (.float (yiqF (cf c1.1) (cf c1.2.1) (cf c1.2.2)).2.1 y3) (.float (yiqF (cf c1.1) (cf c1.2.1) (cf c1.2.2)).2.2 y4) k2) ∈ news)
    (qw : (W1, tup2 (.int (2 * c1.1 - c1.2.1 - c1.2.2) y7) (.int (c1.2.1 - c1.2.2) y8) k4) ∈ news)
    (qh : (H1, tup2 (.int (headX c1.1 c1.2.1 c1.2.2) y11) (.int (headY c1.1 c1.2.1 c1.2.2) y12) k6) ∈ news)
    (X : (hd.heap_39 w.params).In h₀) (T : Top p loose mean mg mb h₀) (B : Below callerA h₀ [] h₀) {r : Addr} {t0 u0 v0 : Tok} (hr : IsRange s.heap r 0 j 1 t0 u0 v0)
    (m : Str → Option Value) (F : Fr h₀ L s.heap m) (N : News h₀ L s.heap news) (K : Kept m D W1 H1 A1 (hsvF (cf c1.1) (cf c1.2.1) (cf c1.2.2)).1 y1)
    (done : ∀ h tk m', Fr h₀ L h m' → News h₀ L h news → Kept m' D W1 H1 A1 (hsvF (cf c1.1) (cf c1.2.1) (cf c1.2.2)).1 y1 → Q .next { s with heap := h, toks := tk }) :
    wpAny (model PySem.Challenge.rw_sh0005_01.row.prog w) (callerA.deeper (lawEnv L fa cd)) (pyIter (.ref r)) (fun it s₂ => LoopAtV PySem.Challenge.rw_sh0005_01.row.prog w (callerA.deeper (lawEnv L fa cd)) h₀ (lawEnv L fa cd) (Str.ofString "earlier") pairBody Q E it s₂) E s := by
  have hs := small_six hj0 hj1
  refine iter_rangeS (σ := Unit) (fun _ m₁ nx => nx = news ∧ Kept m₁ D W1 H1 A1 (hsvF (cf c1.1) (cf c1.2.1) (cf c1.2.2)).1 y1) (fun _ _ => ()) () rfl hr hs.1 hs.2 F N ⟨rfl, K⟩ ?_ ?_
  · rintro k t _ m₁ nx h tk own hk _ ⟨rfl, K'⟩ F' N'
    have hkb := mem_rangeKs hk
    have hlt : k.toNat < cols.length := by omega
    obtain ⟨T2, hv, es, ⟨W2, H2, A2, t1, t2, t3, t4, t5, t6, t7, l1, l2, l3, l4, rfl⟩, hes⟩ := TI.at_ k.toNat _ (List.getElem?_eq_getElem hlt)
    have hc2 := hc _ (List.getElem_mem hlt)
    generalize cols[k.toNat] = c2 at *
    have up : ∀ p ∈ nx, p ∈ nx ++ own := fun p hp => List.mem_append.mpr (.inl hp)
    have K2 : Kept (fun y => if y = Str.ofString "earlier" then some (.int k t) else m₁ y) D W1 H1 A1 (hsvF (cf c1.1) (cf c1.2.1) (cf c1.2.2)).1 y1 :=
      ⟨(if_neg (by decide)).trans K'.told, (if_neg (by decide)).trans K'.hue, (if_neg (by decide)).trans K'.way, (if_neg (by decide)).trans K'.heading, (if_neg (by decide)).trans K'.axes⟩
    refine wpAny_mono (pair_ok w p loose mean mg mb fa cd h₀ L _ (nx ++ own) { s with heap := h, toks := tk } E D n vs k t T2 A1 A2 W1 W2 H1 H2 y1 t1 y3 y4 t2 t3 y7 y8 t6 t7 y11 y12 t4 t5 l1 k2 l2 k4 l4 k6 l3 c1.1 c1.2.1 c1.2.2 c2.1 c2.2.1 c2.2.2
      hc1.1 hc1.2.1 hc1.2.2 hc2.1 hc2.2.1 hc2.2.2 (HP _ _ _ _ _ _ hc1 hc2) hkb.1 (by omega) hv (up _ hD) (up _ (hes _ (.head _))) (up _ qa) (up _ (hes _ (.tail _ (.head _)))) (up _ qw) (up _ (hes _ (.tail _ (.tail _ (.tail _ (.head _)))))) (up _ qh) (up _ (hes _ (.tail _ (.tail _ (.head _))))) K2 (if_pos rfl) X T B F' N') (fun f s' hf => ?_) fun _ _ e => e
    obtain ⟨rfl, h', tk', m', rfl, F2, N2, K3⟩ := hf
    exact ⟨h', tk', m', nx ++ own, nx, rfl, F2, N2, up, fun p hp => List.mem_append.mpr (.inr hp), rfl, rfl, K3⟩
  · rintro m₁ nx h tk ⟨rfl, K'⟩ F' N'
    exact done h tk m₁ F' N' K'

set_option maxRecDepth 100000 in
set_option maxHeartbeats 8000000 in
theorem inner_for (w : World) (p : Program) (loose : List Str) (mean : ExcName → Option Value) (mg mb : Str → Option Value) (fa : Addr) (cd : Value) (h₀ : Heap) (L : Addr) (news : List (Addr × Obj)) (s : Shared) (E : Value → Shared → Prop) (j : Int) (tj : Tok) (hj0 : 0 ≤ j) (hj1 : j ≤ 6) (hPO : PO (model PySem.Challenge.rw_sh0005_01.row.prog w) (callerA.deeper (lawEnv L fa cd)) (lawEnv L fa cd) E)
    (D : Addr) (n : Nat) (vs : List Value) (cols : List (Int × Int × Int)) (TI : ToldIn news vs cols) (hc : ∀ c ∈ cols, In64 c) (hjc : j ≤ (cols.length : Int)) (HP : AllPairs) (hD : (D, W.listOf (List.toArray vs) n) ∈ news)
    (c1 : Int × Int × Int) (hc1 : In64 c1) (T1 : Addr) (W1 H1 A1 : Addr) (y1 y3 y4 y7 y8 y11 y12 : Tok) (k1 k2 k4 k6 : Nat)
    (qa : (A1, tup2 (.float (yiqF (cf c1.1) (cf c1.2.1) (cf c1.2.2)).2.1 y3) (.float (yiqF (cf c1.1) (cf c1.2.1) (cf c1.2.2)).2.2 y4) k2) ∈ news)
    (qw : (W1, tup2 (.int (2 * c1.1 - c1.2.1 - c1.2.2) y7) (.int (c1.2.1 - c1.2.2) y8) k4) ∈ news)
    (qh : (H1, tup2 (.int (headX c1.1 c1.2.1 c1.2.2) y11) (.int (headY c1.1 c1.2.1 c1.2.2) y12) k6) ∈ news)
    (X : (hd.heap_39 w.params).In h₀) (T : Top p loose mean mg mb h₀) (B : Below callerA h₀ [] h₀) (m : Str → Option Value) (F : Fr h₀ L s.heap m) (hl : m (Str.ofString "later") = some (.int j tj)) (N : News h₀ L s.heap news) (K : Kept m D W1 H1 A1 (hsvF (cf c1.1) (cf c1.2.1) (cf c1.2.2)).1 y1) :
    wpAny (model PySem.Challenge.rw_sh0005_01.row.prog w) (callerA.deeper (lawEnv L fa cd)) (exec (laterBody.getD 1 (.Pass ⟨0, 0, 0, 0⟩)) (lawEnv L fa cd)) (fun f s' => PairEnd h₀ L D W1 H1 A1 (hsvF (cf c1.1) (cf c1.2.1) (cf c1.2.2)).1 y1 news s f s') E s := by
  have q : (fun y => if y = Str.ofString "later" then some (.int j tj) else m y) = m := by
    funext y
    by_cases hy : y = Str.ofString "later"
    · rw [if_pos hy, hy, hl]
    · rw [if_neg hy]
  rw [← q] at F
  rw [← q] at K
  clear q hl
  revert X
  k_fill
  intro X
  with_unfolding_all change wpAny _ (callerA.deeper (envOf _ (Scope.mk _ _ _ _ _) _ _ _)) (exec (Stmt.For _ _ _ _ _) (envOf _ (Scope.mk _ _ _ _ _) _ _ _)) _ _ _
  dsimp only
  refine For_invV h₀ (by rfl) (by rfl) ?_ (by intro _; with_unfolding_all rfl) hPO.out
  iterate 7 walk1
  refine inner_iter w p loose mean mg mb fa cd h₀ L news _ _ E j hj0 hj1 D n vs cols TI hc hjc HP hD c1 hc1 T1 W1 H1 A1 y1 y3 y4 y7 y8 y11 y12 k1 k2 k4 k6 qa qw qh X T B (by assumption) _ (by assumption) (by assumption) K ?_
  intro h tk m' F' N' K'
  exact ⟨rfl, h, tk, m', rfl, F', N', K'⟩
end Mine

/-! part W12 -/
namespace Mine
theorem calmW12 : True := by
  w_top off
  trivial

open PySem.Calls
structure OuterEnd (h₀ : Heap) (L : Addr) (news : List (Addr × Obj)) (s : Shared) (f : Flow) (s' : Shared) : Prop where
  next : f = .next
  here : ∃ h tk m', s' = { s with heap := h, toks := tk } ∧ Fr h₀ L h m' ∧ News h₀ L h news
theorem told_named {m : Str → Option Value} {D : Addr} {k : Int} {t : Tok} (e : m (Str.ofString "told") = some (.ref D)) : (fun y => if y = Str.ofString "later" then some (.int k t) else if y = Str.ofString "told" then some (.ref D) else m y) = fun y => if y = Str.ofString "later" then some (.int k t) else m y := by
  funext y
  by_cases h1 : y = Str.ofString "later"
  · rw [if_pos h1, if_pos h1]
  · rw [if_neg h1, if_neg h1]
    by_cases h2 : y = Str.ofString "told"
    · rw [if_pos h2, h2, e]
    · rw [if_neg h2]

set_option maxRecDepth 100000 in
theorem outer_iter (w : World) (p : Program) (loose : List Str) (mean : ExcName → Option Value) (mg mb : Str → Option Value) (fa : Addr) (cd : Value) (h₀ : Heap) (L : Addr) (news : List (Addr × Obj)) (s : Shared) (Q : Flow → Shared → Prop) (E : Value → Shared → Prop) (hPO : PO (model PySem.Challenge.rw_sh0005_01.row.prog w) (callerA.deeper (lawEnv L fa cd)) (lawEnv L fa cd) E)
    (D : Addr) (n : Nat) (vs : List Value) (cols : List (Int × Int × Int)) (TI : ToldIn news vs cols) (hc : ∀ c ∈ cols, In64 c) (hjc : cols.length = 6) (HP : AllPairs) (hD : (D, W.listOf (List.toArray vs) n) ∈ news)
    (X : (hd.heap_39 w.params).In h₀) (T : Top p loose mean mg mb h₀) (B : Below callerA h₀ [] h₀) {r : Addr} {t0 u0 v0 : Tok} (hr : IsRange s.heap r 0 6 1 t0 u0 v0)
    (m : Str → Option Value) (F : Fr h₀ L s.heap m) (N : News h₀ L s.heap news) (K : m (Str.ofString "told") = some (.ref D))
    (done : ∀ h tk m', Fr h₀ L h m' → News h₀ L h news → Q .next { s with heap := h, toks := tk }) :
    wpAny (model PySem.Challenge.rw_sh0005_01.row.prog w) (callerA.deeper (lawEnv L fa cd)) (pyIter (.ref r)) (fun it s₂ => LoopAtV PySem.Challenge.rw_sh0005_01.row.prog w (callerA.deeper (lawEnv L fa cd)) h₀ (lawEnv L fa cd) (Str.ofString "later") laterBody Q E it s₂) E s := by
  have hs := small_six (j := 6) (by decide) (by decide)
  refine iter_rangeS (σ := Unit) (n := 6) (fun _ m₁ nx => nx = news ∧ m₁ (Str.ofString "told") = some (.ref D)) (fun _ _ => ()) () rfl hr hs.1 hs.2 F N ⟨rfl, K⟩ ?_ ?_
  · rintro k t _ m₁ nx h tk own hk _ ⟨rfl, K'⟩ F' N'
    have hkb := mem_rangeKs hk
    have hlt : k.toNat < cols.length := by omega
    obtain ⟨T1, hv, es, ⟨W1, H1, A1, t1, t2, t3, t4, t5, t6, t7, l1, l2, l3, l4, rfl⟩, hes⟩ := TI.at_ k.toNat _ (List.getElem?_eq_getElem hlt)
    have hc1 := hc _ (List.getElem_mem hlt)
    generalize cols[k.toNat] = c1 at *
    have up : ∀ p ∈ nx, p ∈ nx ++ own := fun p hp => List.mem_append.mpr (.inl hp)
    have TI' : ToldIn (nx ++ own) vs cols := ⟨TI.len, fun i c hc => let ⟨T, a, es, b, d⟩ := TI.at_ i c hc; ⟨T, a, es, b, fun p hp => up p (d p hp)⟩⟩
    rw [← told_named K'] at F'
    have N8 := more_news (more_news N' (up _ (hes _ (.head _)))) (.tail _ (up _ hD))
    have eb : laterBody = [laterBody.getD 0 (.Pass ⟨0, 0, 0, 0⟩), laterBody.getD 1 (.Pass ⟨0, 0, 0, 0⟩)] := rfl
    rw [eb]
    refine wpAny_execs_cons (wpAny_mono (la0 w p loose mean mg mb fa cd h₀ L m₁ (nx ++ own) { s with heap := h, toks := tk } E D n vs k t T1 A1 W1 H1 (hsvF (cf c1.1) (cf c1.2.1) (cf c1.2.2)).1 t1 l1 hkb.1 (by omega) hv X T B F' N8) (fun f s' hf => ?_) fun _ _ e => e)
    obtain ⟨rfl, _, h0, tk0, rfl, F0, M0, p0⟩ := hf
    refine wpAny_execs_cons (wpAny_mono (inner_for w p loose mean mg mb fa cd h₀ L (nx ++ own) { s with heap := h0, toks := tk0 } E k t hkb.1 (by omega) hPO D n vs cols TI' hc (by omega) HP (up _ hD) c1 hc1 T1 W1 H1 A1 t1 t2 t3 t6 t7 t4 t5 l1 l2 l4 l3
      (up _ (hes _ (.tail _ (.head _)))) (up _ (hes _ (.tail _ (.tail _ (.tail _ (.head _)))))) (up _ (hes _ (.tail _ (.tail _ (.head _))))) X T B _ F0 (by with_unfolding_all rfl) (less_news (less_news M0)) ⟨by with_unfolding_all rfl, by with_unfolding_all rfl, by with_unfolding_all rfl, by with_unfolding_all rfl, by with_unfolding_all rfl⟩) (fun f s' hf => ?_) fun _ _ e => e)
    obtain ⟨rfl, h1, tk1, m', rfl, F1, M1, K1⟩ := hf
    refine wpAny_execs_nil ?_
    exact ⟨h1, tk1, m', nx ++ own, nx, rfl, F1, M1, up, fun p hp => List.mem_append.mpr (.inr hp), rfl, rfl, K1.told⟩
  · rintro m₁ nx h tk ⟨rfl, K'⟩ F' N'
    exact done h tk m₁ F' N'

set_option maxRecDepth 100000 in
set_option maxHeartbeats 8000000 in
theorem outer_for (w : World) (p : Program) (loose : List Str) (mean : ExcName → Option Value) (mg mb : Str → Option Value) (fa : Addr) (cd : Value) (h₀ : Heap) (L : Addr) (news : List (Addr × Obj)) (s : Shared) (E : Value → Shared → Prop) (hPO : PO (model PySem.Challenge.rw_sh0005_01.row.prog w) (callerA.deeper (lawEnv L fa cd)) (lawEnv L fa cd) E)
    (D : Addr) (n : Nat) (vs : List Value) (cols : List (Int × Int × Int)) (TI : ToldIn news vs cols) (hc : ∀ c ∈ cols, In64 c) (hjc : cols.length = 6) (HP : AllPairs) (hD : (D, W.listOf (List.toArray vs) n) ∈ news)
    (X : (hd.heap_39 w.params).In h₀) (T : Top p loose mean mg mb h₀) (B : Below callerA h₀ [] h₀) (m : Str → Option Value) (F : Fr h₀ L s.heap m) (N : News h₀ L s.heap news) (K : m (Str.ofString "told") = some (.ref D)) :
    wpAny (model PySem.Challenge.rw_sh0005_01.row.prog w) (callerA.deeper (lawEnv L fa cd)) (exec (lawBody.getD 6 (.Pass ⟨0, 0, 0, 0⟩)) (lawEnv L fa cd)) (fun f s' => OuterEnd h₀ L news s f s') E s := by
  revert X
  k_fill
  intro X
  with_unfolding_all change wpAny _ (callerA.deeper (envOf _ (Scope.mk _ _ _ _ _) _ _ _)) (exec (Stmt.For _ _ _ _ _) (envOf _ (Scope.mk _ _ _ _ _) _ _ _)) _ _ _
  dsimp only
  refine For_invV h₀ (by rfl) (by rfl) ?_ (by intro _; with_unfolding_all rfl) hPO.out
  iterate 7 walk1
  refine outer_iter w p loose mean mg mb fa cd h₀ L news _ _ E hPO D n vs cols TI hc hjc HP hD X T B (by assumption) _ (by assumption) (by assumption) K ?_
  intro h tk m' F' N'
  exact ⟨rfl, h, tk, m', rfl, F', N'⟩
end Mine

/-! part W13 -/
namespace Mine
theorem calmW13 : True := by
  w_top off
  trivial

open PySem.Calls
noncomputable def forTarget (s : Stmt) : Expr := match s with | .For t _ _ _ _ => t | _ => .Constant .none 0 ⟨0, 0, 0, 0⟩
set_option maxRecDepth 100000 in
set_option maxHeartbeats 8000000 in
theorem unpack3 (w : World) (p : Program) (loose : List Str) (mean : ExcName → Option Value) (mg mb : Str → Option Value) (fa : Addr) (cd : Value) (h₀ : Heap) (L : Addr) (m : Str → Option Value) (news : List (Addr × Obj)) (s : Shared) (Q : Unit → Shared → Prop) (E : Value → Shared → Prop) (d : Addr) (r g b : Int) (tr tg tb : Tok) (k : Nat)
    (X : (hd.heap_39 w.params).In h₀) (T : Top p loose mean mg mb h₀) (B : Below callerA h₀ [] h₀) (F : Fr h₀ L s.heap m) (N : News h₀ L s.heap news) (hm : (d, trip r g b tr tg tb k) ∈ news)
    (hret : ∀ h' tk', Fr h₀ L h' (fun y => if y = Str.ofString "blue" then some (.int b tb) else if y = Str.ofString "green" then some (.int g tg) else if y = Str.ofString "red" then some (.int r tr) else m y) → News h₀ L h' news → Q () { s with heap := h', toks := tk' }) :
    wpAny (model PySem.Challenge.rw_sh0005_01.row.prog w) (callerA.deeper (lawEnv L fa cd)) (assign (forTarget (lawBody.getD 5 (.Pass ⟨0, 0, 0, 0⟩))) (lawEnv L fa cd) (.ref d)) Q E s := by
  have N2 := more_news N hm
  have hret2 : ∀ h' tk', Fr h₀ L h' (fun y => if y = Str.ofString "blue" then some (.int b tb) else if y = Str.ofString "green" then some (.int g tg) else if y = Str.ofString "red" then some (.int r tr) else m y) → News h₀ L h' ((d, trip r g b tr tg tb k) :: news) → Q () { s with heap := h', toks := tk' } := fun h' tk' F N => hret h' tk' F (less_news N)
  clear N hm hret
  revert X
  k_fill
  intro X
  with_unfolding_all change wpAny _ (callerA.deeper (envOf _ (Scope.mk _ _ _ _ _) _ _ _)) (assign (Expr.Tuple _ _ _) (envOf _ (Scope.mk _ _ _ _ _) _ _ _) _) _ _ _
  dsimp only
  k_steps
  all_goals exact hret2 _ _ (by assumption) (by assumption)
end Mine

/-! part W14 -/
namespace Mine
theorem calmW14 : True := by
  w_top off
  trivial

open PySem.Calls
noncomputable def AllColours : Prop := ∀ r g b : Int, In64 (r, g, b) → ColourOK r g b
noncomputable def NoIter (news : List (Addr × Obj)) : Prop := ∀ p ∈ news, p.2.cls ≠ .type "list_iterator"
theorem its_off {h₀ h : Heap} {L : Addr} {its news : List (Addr × Obj)} (N : News h₀ L h (its ++ news)) (hi : ∀ q ∈ its, q.2.cls = .type "list_iterator") (hc : NoIter news) : ∀ p ∈ news, ∀ q ∈ its, p.1 ≠ q.1 := by
  intro p hp q hq e
  have h1 := (N p (List.mem_append.mpr (.inr hp))).1
  have h2 := (N q (List.mem_append.mpr (.inl hq))).1
  rw [e] at h1
  have h3 : p.2 = q.2 := Option.some.inj (h1.symm.trans h2)
  exact hc p hp (h3 ▸ hi q hq)
theorem tuple_ne : Value.type "tuple" ≠ .type "list_iterator" := by decide
theorem list_ne : Value.type "list" ≠ .type "list_iterator" := by decide
theorem entry_noIter {hu ia qa : UInt64} {wx wy hx hy : Int} {T : Addr} {es : List (Addr × Obj)} (h : Entry hu ia qa wx wy hx hy T es) : NoIter es := by
  obtain ⟨W1, H1, A1, t1, t2, t3, t4, t5, t6, t7, k1, k2, k3, k4, rfl⟩ := h
  intro p hp
  simp only [List.mem_cons, List.not_mem_nil, or_false] at hp
  rcases hp with rfl | rfl | rfl | rfl <;> exact tuple_ne
theorem told_named3 {m : Str → Option Value} {D : Addr} {r g b : Int} {tr tg tb : Tok} (e : m (Str.ofString "told") = some (.ref D)) : (fun y => if y = Str.ofString "blue" then some (.int b tb) else if y = Str.ofString "green" then some (.int g tg) else if y = Str.ofString "red" then some (.int r tr) else if y = Str.ofString "told" then some (.ref D) else m y) = (fun y => if y = Str.ofString "blue" then some (.int b tb) else if y = Str.ofString "green" then some (.int g tg) else if y = Str.ofString "red" then some (.int r tr) else m y) := by
  funext y
  by_cases h1 : y = Str.ofString "blue"
  · rw [if_pos h1, if_pos h1]
  rw [if_neg h1, if_neg h1]
  by_cases h2 : y = Str.ofString "green"
  · rw [if_pos h2, if_pos h2]
  rw [if_neg h2, if_neg h2]
  by_cases h3 : y = Str.ofString "red"
  · rw [if_pos h3, if_pos h3]
  rw [if_neg h3, if_neg h3]
  by_cases h4 : y = Str.ofString "told"
  · rw [if_pos h4, h4, e]
  · rw [if_neg h4]
theorem toldIn_snoc {tail es : List (Addr × Obj)} {vs : List Value} {pre : List (Int × Int × Int)} {c : Int × Int × Int} {T : Addr} (TI : ToldIn tail vs pre) (he : EntryOf c.1 c.2.1 c.2.2 T es) : ToldIn (es ++ tail) (vs ++ [.ref T]) (pre ++ [c]) := by
  refine ⟨by rw [List.length_append, List.length_append, TI.len]; rfl, fun i c' hc => ?_⟩
  by_cases hi : i < pre.length
  · rw [List.getElem?_append_left hi] at hc
    obtain ⟨T', a, es', b, d⟩ := TI.at_ i c' hc
    refine ⟨T', ?_, es', b, fun p hp => List.mem_append.mpr (.inr (d p hp))⟩
    rw [List.getElem?_append_left (by rw [TI.len]; exact hi)]
    exact a
  · rw [List.getElem?_append_right (by omega)] at hc
    have h0 : i - pre.length = 0 := by
      rcases Nat.eq_zero_or_pos (i - pre.length) with h | h
      · exact h
      · rw [List.getElem?_eq_none (by simp; omega)] at hc; cases hc
    rw [h0] at hc
    obtain rfl : c = c' := Option.some.inj hc
    refine ⟨T, ?_, es, he, fun p hp => List.mem_append.mpr (.inl hp)⟩
    rw [List.getElem?_append_right (by rw [TI.len]; omega), TI.len, h0]
    rfl

/-- the lists of the colours that are yet to come -/
noncomputable def Ahead (tail : List (Addr × Obj)) : List Addr → List (Int × Int × Int) → Prop
  | [], [] => True
  | d :: ds, c :: cs => (∃ t u v k, (d, trip c.1 c.2.1 c.2.2 t u v k) ∈ tail) ∧ In64 c ∧ Ahead tail ds cs
  | _, _ => False
theorem Ahead.mono {t1 t2 : List (Addr × Obj)} (h : ∀ p ∈ t1, p ∈ t2) : ∀ {ds : List Addr} {cs : List (Int × Int × Int)}, Ahead t1 ds cs → Ahead t2 ds cs
  | [], [], _ => trivial
  | _ :: _, _ :: _, ⟨⟨t, u, v, k, hm⟩, b, r⟩ => ⟨⟨t, u, v, k, h _ hm⟩, b, Ahead.mono h r⟩
  | [], _ :: _, x => x.elim
  | _ :: _, [], x => x.elim

set_option maxRecDepth 100000 in
theorem turns_rest (w : World) (p : Program) (loose : List Str) (mean : ExcName → Option Value) (mg mb : Str → Option Value) (fa : Addr) (cd : Value) (h₀ : Heap) (L : Addr) (s : Shared) (Q : Flow → Shared → Prop) (E : Value → Shared → Prop) (hPO : PO (model PySem.Challenge.rw_sh0005_01.row.prog w) (callerA.deeper (lawEnv L fa cd)) (lawEnv L fa cd) E) (HC : AllColours)
    (X : (hd.heap_39 w.params).In h₀) (T : Top p loose mean mg mb h₀) (B : Below callerA h₀ [] h₀) (D I C : Addr) (lo : Obj) (all : List (Int × Int × Int))
    (done : ∀ h tk m' n' vs' tail', Fr h₀ L h m' → m' (Str.ofString "told") = some (.ref D) → News h₀ L h ((D, W.listOf (List.toArray vs') n') :: tail') → ToldIn tail' vs' all → Q .next { s with heap := h, toks := tk }) :
    ∀ (cs : List (Int × Int × Int)) (ds : List Addr) (pre : List (Int × Int × Int)) (m : Str → Option Value) (vs : List Value) (n : Nat) (tail : List (Addr × Obj)),
      pre ++ cs = all → all.length < 1000 → m (Str.ofString "told") = some (.ref D) → Ahead tail ds cs → ToldIn tail vs pre → NoIter tail → OwnOff tail [D] → (C, lo) ∈ tail →
      ItemsRest PySem.Challenge.rw_sh0005_01.row.prog w (callerA.deeper (lawEnv L fa cd)) E h₀ (lawEnv L fa cd) (forTarget (lawBody.getD 5 (.Pass ⟨0, 0, 0, 0⟩))) turnBody Q s [(I, "list_iterator")] [(C, lo)] ((ds.map .ref).map .val) m ((D, W.listOf (List.toArray vs) n) :: tail)
  | [], [], pre, m, vs, n, tail, e, _, hm, _, TI, _, _, _ => by
    refine ItemsRest.zero fun h tk F N => ?_
    rw [List.append_nil] at e
    subst e
    exact done h tk m n vs tail F hm N TI
  | c :: cs, d :: ds, pre, m, vs, n, tail, e, hl, hm, ⟨⟨t, u, v, k, hd⟩, hc, hA⟩, TI, hn, ho, hC => by
    refine ItemsRest.val fun h tk F => AllObj.cons fun o hcls => AllObj.nil fun N => ?_
    have hcls' : ∀ q ∈ [(I, o)], q.2.cls = .type "list_iterator" := fun q hq => by rw [List.mem_singleton.mp hq]; exact hcls
    have hn2 : NoIter ((D, W.listOf (List.toArray vs) n) :: tail) := fun p hp => by
      rcases List.mem_cons.mp hp with rfl | hp
      · exact list_ne
      · exact hn p hp
    have hID := its_off N hcls' hn2 _ (.head _) _ (.head _)
    refine unpack3 w p loose mean mg mb fa cd h₀ L m _ _ _ E d c.1 c.2.1 c.2.2 t u v k X T B F N (List.mem_append.mpr (.inr (.tail _ hd))) fun h' tk' F' N' => ?_
    rw [← told_named3 hm] at F'
    have N3 : News h₀ L h' ((D, W.listOf (List.toArray vs) n) :: ((I, o) :: tail)) := fun p hp => N' p (by
      simp only [List.mem_cons, List.mem_append, List.not_mem_nil, or_false] at hp ⊢
      rcases hp with h | h | h <;> simp [h])
    have ho3 : OwnOff ((I, o) :: tail) [D] := fun p hp b hb => by
      rcases List.mem_cons.mp hp with rfl | hp
      · rw [List.mem_singleton.mp hb]; exact fun e => hID e.symm
      · exact ho p hp b hb
    have hvs : vs.length < 1000 := by
      rw [TI.len]
      have : (pre ++ c :: cs).length < 1000 := e ▸ hl
      rw [List.length_append] at this
      omega
    refine wpAny_mono (turn_ok w p loose mean mg mb fa cd h₀ L m ((I, o) :: tail) { s with heap := h', toks := tk' } E c.1 c.2.1 c.2.2 t u v D n vs hc.1 hc.2.1 hc.2.2 (HC _ _ _ hc) hvs ho3 hPO X T B F' N3) (fun f s' hf => ?_) fun _ _ e => e
    obtain ⟨rfl, h2, tk2, m', T9, es, rfl, F2, hm', N2, he, hoe⟩ := hf
    have hn4 : NoIter ((D, W.listOf (List.toArray (vs ++ [Value.ref T9])) (n + 1)) :: (es ++ tail)) := fun p hp => by
      rcases List.mem_cons.mp hp with rfl | hp
      · exact list_ne
      · rcases List.mem_append.mp hp with hp | hp
        · exact entry_noIter he p hp
        · exact hn p hp
    have N4 : News h₀ L h2 ([(I, o)] ++ ((D, W.listOf (List.toArray (vs ++ [Value.ref T9])) (n + 1)) :: (es ++ tail))) := fun p hp => N2 p (by
      simp only [List.mem_cons, List.mem_append, List.not_mem_nil, or_false] at hp ⊢
      rcases hp with h | h | h | h <;> simp [h])
    have upT : ∀ p ∈ tail, p ∈ es ++ tail := fun p hp => List.mem_append.mpr (.inr hp)
    have ho4 : OwnOff (es ++ tail) [D] := fun p hp b hb => by
      rcases List.mem_append.mp hp with hp | hp
      · exact hoe p hp b hb
      · exact ho p hp b hb
    exact ⟨h2, tk2, m', (D, W.listOf (List.toArray (vs ++ [Value.ref T9])) (n + 1)) :: (es ++ tail), rfl, F2, N4, its_off N4 hcls' hn4, ⟨.tail _ (upT _ hC), trivial⟩,
      turns_rest w p loose mean mg mb fa cd h₀ L s Q E hPO HC X T B D I C lo all done cs ds (pre ++ [c]) m' (vs ++ [Value.ref T9]) (n + 1) (es ++ tail) (by rw [List.append_assoc]; exact e) hl hm' (hA.mono upT) (toldIn_snoc TI he) (fun p hp => hn4 p (.tail _ hp)) ho4 (upT _ hC)⟩
  | [], _ :: _, _, _, _, _, _, _, _, _, x, _, _, _, _ => x.elim
  | _ :: _, [], _, _, _, _, _, _, _, _, x, _, _, _, _ => x.elim
end Mine

/-! part W15 -/
namespace Mine
theorem calmW15 : True := by
  w_top off
  trivial

open PySem.Calls
structure ColEnd2 (h₀ : Heap) (L D : Addr) (cols : List (Int × Int × Int)) (s : Shared) (f : Flow) (s' : Shared) : Prop where
  next : f = .next
  here : ∃ h tk m' n' vs' tail', s' = { s with heap := h, toks := tk } ∧ Fr h₀ L h m' ∧ m' (Str.ofString "told") = some (.ref D) ∧ News h₀ L h ((D, W.listOf (List.toArray vs') n') :: tail') ∧ ToldIn tail' vs' cols
theorem named_eq {m : Str → Option Value} {x : Str} {v : Value} (e : m x = some v) : (fun y => if y = x then some v else m y) = m := by
  funext y
  by_cases hy : y = x
  · rw [if_pos hy, hy, e]
  · rw [if_neg hy]
set_option maxRecDepth 100000 in
set_option maxHeartbeats 8000000 in
theorem colour_for (w : World) (p : Program) (loose : List Str) (mean : ExcName → Option Value) (mg mb : Str → Option Value) (fa : Addr) (cd : Value) (h₀ : Heap) (L : Addr) (s : Shared) (E : Value → Shared → Prop) (hPO : PO (model PySem.Challenge.rw_sh0005_01.row.prog w) (callerA.deeper (lawEnv L fa cd)) (lawEnv L fa cd) E) (HC : AllColours)
    (X : (hd.heap_39 w.params).In h₀) (T : Top p loose mean mg mb h₀) (B : Below callerA h₀ [] h₀) (m : Str → Option Value) (C D : Addr) (k n : Nat) (ds : List Addr) (cs : List (Int × Int × Int)) (tail : List (Addr × Obj))
    (hm : m (Str.ofString "told") = some (.ref D)) (hcol : m (Str.ofString "colours") = some (.ref C)) (hC : (C, W.listOf (List.toArray (ds.map .ref)) k) ∈ tail) (hA : Ahead tail ds cs) (hn : NoIter tail) (ho : OwnOff tail [D]) (hl : cs.length < 1000)
    (F : Fr h₀ L s.heap m) (N : News h₀ L s.heap ((D, W.listOf (List.toArray []) n) :: tail)) :
    wpAny (model PySem.Challenge.rw_sh0005_01.row.prog w) (callerA.deeper (lawEnv L fa cd)) (exec (lawBody.getD 5 (.Pass ⟨0, 0, 0, 0⟩)) (lawEnv L fa cd)) (fun f s' => ColEnd2 h₀ L D cs s f s') E s := by
  have q := named_eq hcol
  rw [← q] at F hm
  clear q
  refine For_turns F ?_ (by intro _; with_unfolding_all rfl) hPO.out
  refine ld F (v := .ref C) (by rfl) ?_ (by rfl) (by rfl) (by decide)
  refine iter_listTurns (lo := W.listOf (List.toArray (ds.map .ref)) k) (vs := ds.map .ref) (n := k) rfl F N (.tail _ hC) rfl rfl fun I _ => ?_
  refine turns_rest w p loose mean mg mb fa cd h₀ L s _ E hPO HC X T B D I C _ cs ?_ cs ds [] _ [] n tail rfl hl hm hA ⟨rfl, fun i c h => by cases h⟩ hn ho hC
  intro h tk m' n' vs' tail' F' hm' N' TI
  exact ⟨rfl, h, tk, m', n', vs', tail', rfl, F', hm', N', TI⟩

structure ToldEnd (h₀ : Heap) (L : Addr) (m : Str → Option Value) (own : List (Addr × Obj)) (s : Shared) (f : Flow) (s' : Shared) : Prop where
  next : f = .next
  here : ∃ h tk D n, s' = { s with heap := h, toks := tk } ∧ Fr h₀ L h (fun y => if y = Str.ofString "told" then some (.ref D) else m y) ∧ News h₀ L h ((D, W.listOf (List.toArray []) n) :: own) ∧ OwnOff own [D]
theorem allLt_off {D : Addr} : ∀ {own : List (Addr × Obj)}, AllLt D own → OwnOff own [D]
  | [], _ => fun p hp => nomatch hp
  | q :: r, h => fun p hp b hb => by
    rcases List.mem_cons.mp hp with rfl | hp
    · rw [List.mem_singleton.mp hb]; exact Nat.ne_of_lt h.1
    · exact allLt_off h.2 p hp b hb
set_option maxRecDepth 100000 in
set_option maxHeartbeats 8000000 in
theorem told_step (w : World) (p : Program) (loose : List Str) (mean : ExcName → Option Value) (mg mb : Str → Option Value) (fa : Addr) (cd : Value) (h₀ : Heap) (L : Addr) (s : Shared) (E : Value → Shared → Prop) (X : (hd.heap_39 w.params).In h₀) (T : Top p loose mean mg mb h₀) (B : Below callerA h₀ [] h₀) (m : Str → Option Value) (own : List (Addr × Obj)) (F : Fr h₀ L s.heap m) (N : News h₀ L s.heap own) :
    wpAny (model PySem.Challenge.rw_sh0005_01.row.prog w) (callerA.deeper (lawEnv L fa cd)) (exec (lawBody.getD 4 (.Pass ⟨0, 0, 0, 0⟩)) (lawEnv L fa cd)) (fun f s' => ToldEnd h₀ L m own s f s') E s := by
  revert X
  k_fill
  intro X
  with_unfolding_all change wpAny _ (callerA.deeper (envOf _ (Scope.mk _ _ _ _ _) _ _ _)) (exec (Stmt.Assign _ _ _) (envOf _ (Scope.mk _ _ _ _ _) _ _ _)) _ _ _
  dsimp only
  k_steps
  exact ⟨rfl, _, _, _, _, rfl, by assumption, by assumption, allLt_off (allLt_of (by assumption))⟩
end Mine

/-! part W16 -/
namespace Mine
theorem calmW16 : True := by
  w_top off
  trivial

open PySem.Calls
structure LawEnd (h₀ : Heap) (L : Addr) (s : Shared) (f : Flow) (s' : Shared) : Prop where
  next : f = .ret (.bool true)
  here : ∃ h tk m' news, s' = { s with heap := h, toks := tk } ∧ Fr h₀ L h m' ∧ News h₀ L h news
set_option maxRecDepth 100000 in
set_option maxHeartbeats 8000000 in
theorem ret_step (w : World) (p : Program) (loose : List Str) (mean : ExcName → Option Value) (mg mb : Str → Option Value) (fa : Addr) (cd : Value) (h₀ : Heap) (L : Addr) (s : Shared) (E : Value → Shared → Prop) (X : (hd.heap_39 w.params).In h₀) (T : Top p loose mean mg mb h₀) (B : Below callerA h₀ [] h₀) (m : Str → Option Value) (own : List (Addr × Obj)) (F : Fr h₀ L s.heap m) (N : News h₀ L s.heap own) :
    wpAny (model PySem.Challenge.rw_sh0005_01.row.prog w) (callerA.deeper (lawEnv L fa cd)) (exec (lawBody.getD 7 (.Pass ⟨0, 0, 0, 0⟩)) (lawEnv L fa cd)) (fun f s' => LawEnd h₀ L s f s') E s := by
  revert X
  k_fill
  intro X
  with_unfolding_all change wpAny _ (callerA.deeper (envOf _ (Scope.mk _ _ _ _ _) _ _ _)) (exec (Stmt.Return _ _) (envOf _ (Scope.mk _ _ _ _ _) _ _ _)) _ _ _
  dsimp only
  k_steps
  exact ⟨rfl, _, _, _, _, rfl, F, N⟩

theorem two_b {c : Int} (h : 0 ≤ c ∧ c ≤ 32) : 0 ≤ 2 * c ∧ 2 * c ≤ 64 := by omega
theorem up_b {c : Int} (h : 0 ≤ c ∧ c ≤ 32) : 0 ≤ c + 32 ∧ c + 32 ≤ 64 := by omega
theorem id_b {c : Int} (h : 0 ≤ c ∧ c ≤ 32) : 0 ≤ c ∧ c ≤ 64 := by omega
theorem dn_b {c : Int} (h : 0 ≤ c ∧ c ≤ 32) : 0 ≤ 64 - 2 * c ∧ 64 - 2 * c ≤ 64 := by omega
theorem ahead_of {tail : List (Addr × Obj)} {c0 c1 c2 c3 c4 c5 c6 c7 c8 : Int} {D0 D1 D2 D3 D4 D5 : Addr} {o0 o1 o2 o3 o4 o5 : Obj}
    (i0 : IsTrip o0 (2 * c0) (2 * c1) (2 * c2)) (i1 : IsTrip o1 (c0 + 32) (c1 + 32) (c2 + 32)) (i2 : IsTrip o2 (2 * c3) (2 * c4) (2 * c5)) (i3 : IsTrip o3 c3 c4 c5) (i4 : IsTrip o4 (2 * c6) (2 * c7) (2 * c8)) (i5 : IsTrip o5 (64 - 2 * c6) (64 - 2 * c7) (64 - 2 * c8)) (m0 : (D0, o0) ∈ tail) (m1 : (D1, o1) ∈ tail) (m2 : (D2, o2) ∈ tail) (m3 : (D3, o3) ∈ tail) (m4 : (D4, o4) ∈ tail) (m5 : (D5, o5) ∈ tail)
    (b0 : 0 ≤ c0 ∧ c0 ≤ 32) (b1 : 0 ≤ c1 ∧ c1 ≤ 32) (b2 : 0 ≤ c2 ∧ c2 ≤ 32) (b3 : 0 ≤ c3 ∧ c3 ≤ 32) (b4 : 0 ≤ c4 ∧ c4 ≤ 32) (b5 : 0 ≤ c5 ∧ c5 ≤ 32) (b6 : 0 ≤ c6 ∧ c6 ≤ 32) (b7 : 0 ≤ c7 ∧ c7 ≤ 32) (b8 : 0 ≤ c8 ∧ c8 ≤ 32) :
    Ahead tail [D0, D1, D2, D3, D4, D5] [(2 * c0, 2 * c1, 2 * c2), (c0 + 32, c1 + 32, c2 + 32), (2 * c3, 2 * c4, 2 * c5), (c3, c4, c5), (2 * c6, 2 * c7, 2 * c8), (64 - 2 * c6, 64 - 2 * c7, 64 - 2 * c8)] := by
  obtain ⟨t0, u0, v0, n0, rfl⟩ := i0
  obtain ⟨t1, u1, v1, n1, rfl⟩ := i1
  obtain ⟨t2, u2, v2, n2, rfl⟩ := i2
  obtain ⟨t3, u3, v3, n3, rfl⟩ := i3
  obtain ⟨t4, u4, v4, n4, rfl⟩ := i4
  obtain ⟨t5, u5, v5, n5, rfl⟩ := i5
  exact ⟨⟨_, _, _, _, m0⟩, ⟨two_b b0, two_b b1, two_b b2⟩, ⟨_, _, _, _, m1⟩, ⟨up_b b0, up_b b1, up_b b2⟩, ⟨_, _, _, _, m2⟩, ⟨two_b b3, two_b b4, two_b b5⟩, ⟨_, _, _, _, m3⟩, ⟨id_b b3, id_b b4, id_b b5⟩, ⟨_, _, _, _, m4⟩, ⟨two_b b6, two_b b7, two_b b8⟩, ⟨_, _, _, _, m5⟩, ⟨dn_b b6, dn_b b7, dn_b b8⟩, trivial⟩
theorem trip_noIter {o : Obj} {a b c : Int} (h : IsTrip o a b c) : o.cls ≠ .type "list_iterator" := by
  obtain ⟨t, u, v, n, rfl⟩ := h
  exact list_ne

set_option maxRecDepth 100000 in
theorem law_tail (w : World) (p : Program) (loose : List Str) (mean : ExcName → Option Value) (mg mb : Str → Option Value) (fa : Addr) (cd : Value) (h₀ : Heap) (L : Addr) (s : Shared) (E : Value → Shared → Prop) (hPO : PO (model PySem.Challenge.rw_sh0005_01.row.prog w) (callerA.deeper (lawEnv L fa cd)) (lawEnv L fa cd) E) (HC : AllColours) (HP : AllPairs)
    (X : (hd.heap_39 w.params).In h₀) (T : Top p loose mean mg mb h₀) (B : Below callerA h₀ [] h₀) (m : Str → Option Value) (l : Addr) (n : Nat) (vs : List Value) (cs : List Int) (hi : IntsAre vs cs) (hl : cs.length = 9)
    (F : Fr h₀ L s.heap (fun y => if y = Str.ofString "cells" then some (.ref l) else m y)) (N : News h₀ L s.heap [(l, W.listOf (List.toArray vs) n)]) :
    wpAny (model PySem.Challenge.rw_sh0005_01.row.prog w) (callerA.deeper (lawEnv L fa cd)) (execs [lawBody.getD 2 (.Pass ⟨0, 0, 0, 0⟩), lawBody.getD 3 (.Pass ⟨0, 0, 0, 0⟩), lawBody.getD 4 (.Pass ⟨0, 0, 0, 0⟩), lawBody.getD 5 (.Pass ⟨0, 0, 0, 0⟩), lawBody.getD 6 (.Pass ⟨0, 0, 0, 0⟩), lawBody.getD 7 (.Pass ⟨0, 0, 0, 0⟩)] (lawEnv L fa cd)) (fun f s' => LawEnd h₀ L s f s') E s := by
  revert N
  refine nine_elim (P := fun vs _ => News h₀ L s.heap [(l, W.listOf (List.toArray vs) n)] → _) hi hl (fun c0 c1 c2 c3 c4 c5 c6 c7 c8 t0 t1 t2 t3 t4 t5 t6 t7 t8 N => ?_)
  refine wpAny_execs_cons (wpAny_mono (mod_step w p loose mean mg mb fa cd h₀ L l n m s E c0 c1 c2 c3 c4 c5 c6 c7 c8 t0 t1 t2 t3 t4 t5 t6 t7 t8 X T B F N) (fun f s' hf => ?_) fun _ _ e => e)
  obtain ⟨rfl, h1, tk1, l1, dd, sl, n1, vs1, cs1, rfl, F1, N1, hi1, hl1, hb1⟩ := hf
  clear F N hi hl
  revert N1 hb1
  refine nine_elim (P := fun vs cs => News h₀ L h1 [(l1, (⟨.type "list", dd, .seq (List.toArray vs) n1, sl⟩ : Obj))] → (∀ c ∈ cs, 0 ≤ c ∧ c ≤ 32) → _) hi1 hl1 (fun c0 c1 c2 c3 c4 c5 c6 c7 c8 t0 t1 t2 t3 t4 t5 t6 t7 t8 N1 hb1 => ?_)
  have b0 := hb1 c0 (by simp)
  have b1 := hb1 c1 (by simp)
  have b2 := hb1 c2 (by simp)
  have b3 := hb1 c3 (by simp)
  have b4 := hb1 c4 (by simp)
  have b5 := hb1 c5 (by simp)
  have b6 := hb1 c6 (by simp)
  have b7 := hb1 c7 (by simp)
  have b8 := hb1 c8 (by simp)
  refine wpAny_execs_cons (wpAny_mono (colours_step w p loose mean mg mb fa cd h₀ L l1 dd sl n1 m _ E c0 c1 c2 c3 c4 c5 c6 c7 c8 t0 t1 t2 t3 t4 t5 t6 t7 t8 X T B F1 N1) (fun f s' hf => ?_) fun _ _ e => e)
  obtain ⟨rfl, h2, tk2, C, k, D0, D1, D2, D3, D4, D5, o0, o1, o2, o3, o4, o5, rfl, F2, N2, i0, i1, i2, i3, i4, i5⟩ := hf
  refine wpAny_execs_cons (wpAny_mono (told_step w p loose mean mg mb fa cd h₀ L _ E X T B _ _ F2 N2) (fun f s' hf => ?_) fun _ _ e => e)
  obtain ⟨rfl, h3, tk3, D, n3, rfl, F3, N3, oD⟩ := hf
  have hA := ahead_of (tail := [(C, W.listOf #[.ref D0, .ref D1, .ref D2, .ref D3, .ref D4, .ref D5] k), (D5, o5), (D4, o4), (D3, o3), (D2, o2), (D1, o1), (D0, o0)]) i0 i1 i2 i3 i4 i5 (.tail _ (.tail _ (.tail _ (.tail _ (.tail _ (.tail _ (.head _))))))) (.tail _ (.tail _ (.tail _ (.tail _ (.tail _ (.head _)))))) (.tail _ (.tail _ (.tail _ (.tail _ (.head _))))) (.tail _ (.tail _ (.tail _ (.head _)))) (.tail _ (.tail _ (.head _))) (.tail _ (.head _)) b0 b1 b2 b3 b4 b5 b6 b7 b8
  have hno : NoIter [(C, W.listOf #[.ref D0, .ref D1, .ref D2, .ref D3, .ref D4, .ref D5] k), (D5, o5), (D4, o4), (D3, o3), (D2, o2), (D1, o1), (D0, o0)] := by
    intro p hp
    simp only [List.mem_cons, List.not_mem_nil, or_false] at hp
    rcases hp with rfl | rfl | rfl | rfl | rfl | rfl | rfl
    · exact list_ne
    · exact trip_noIter i5
    · exact trip_noIter i4
    · exact trip_noIter i3
    · exact trip_noIter i2
    · exact trip_noIter i1
    · exact trip_noIter i0
  refine wpAny_execs_cons (wpAny_mono (colour_for w p loose mean mg mb fa cd h₀ L _ E hPO HC X T B _ C D k n3 [D0, D1, D2, D3, D4, D5] [(2 * c0, 2 * c1, 2 * c2), (c0 + 32, c1 + 32, c2 + 32), (2 * c3, 2 * c4, 2 * c5), (c3, c4, c5), (2 * c6, 2 * c7, 2 * c8), (64 - 2 * c6, 64 - 2 * c7, 64 - 2 * c8)] _ (if_pos rfl) ((if_neg (by decide)).trans (if_pos rfl)) (.head _) hA hno oD (show 6 < 1000 by decide) F3 N3) (fun f s' hf => ?_) fun _ _ e => e)
  obtain ⟨rfl, h4, tk4, m4, n4, vs4, tail4, rfl, F4, hm4, N4, TI⟩ := hf
  have hcols : ∀ c ∈ [(2 * c0, 2 * c1, 2 * c2), (c0 + 32, c1 + 32, c2 + 32), (2 * c3, 2 * c4, 2 * c5), (c3, c4, c5), (2 * c6, 2 * c7, 2 * c8), (64 - 2 * c6, 64 - 2 * c7, 64 - 2 * c8)], In64 c := by
    intro c hc
    simp only [List.mem_cons, List.not_mem_nil, or_false] at hc
    rcases hc with rfl | rfl | rfl | rfl | rfl | rfl
    · exact ⟨two_b b0, two_b b1, two_b b2⟩
    · exact ⟨up_b b0, up_b b1, up_b b2⟩
    · exact ⟨two_b b3, two_b b4, two_b b5⟩
    · exact ⟨id_b b3, id_b b4, id_b b5⟩
    · exact ⟨two_b b6, two_b b7, two_b b8⟩
    · exact ⟨dn_b b6, dn_b b7, dn_b b8⟩
  have TI' : ToldIn ((D, W.listOf (List.toArray vs4) n4) :: tail4) vs4 [(2 * c0, 2 * c1, 2 * c2), (c0 + 32, c1 + 32, c2 + 32), (2 * c3, 2 * c4, 2 * c5), (c3, c4, c5), (2 * c6, 2 * c7, 2 * c8), (64 - 2 * c6, 64 - 2 * c7, 64 - 2 * c8)] := ⟨TI.len, fun i c hc => let ⟨T, a, es, b, d⟩ := TI.at_ i c hc; ⟨T, a, es, b, fun p hp => .tail _ (d p hp)⟩⟩
  refine wpAny_execs_cons (wpAny_mono (outer_for w p loose mean mg mb fa cd h₀ L _ _ E hPO D n4 vs4 [(2 * c0, 2 * c1, 2 * c2), (c0 + 32, c1 + 32, c2 + 32), (2 * c3, 2 * c4, 2 * c5), (c3, c4, c5), (2 * c6, 2 * c7, 2 * c8), (64 - 2 * c6, 64 - 2 * c7, 64 - 2 * c8)] TI' hcols rfl HP (.head _) X T B m4 F4 N4 hm4) (fun f s' hf => ?_) fun _ _ e => e)
  obtain ⟨rfl, h5, tk5, m5, rfl, F5, N5⟩ := hf
  refine wpAny_execs_cons (wpAny_mono (ret_step w p loose mean mg mb fa cd h₀ L _ E X T B m5 _ F5 N5) (fun f s' hf => ?_) fun _ _ e => e)
  obtain ⟨rfl, h6, tk6, m6, nw, rfl, F6, N6⟩ := hf
  exact ⟨rfl, h6, tk6, m6, nw, rfl, F6, N6⟩
end Mine

/-! part W17 -/
namespace Mine
theorem calmW17 : True := by
  w_top off
  trivial

open PySem.Calls
set_option maxRecDepth 100000 in
set_option maxHeartbeats 8000000 in
theorem law_holds (HC : AllColours) (HP : AllPairs) : PySem.Challenge.rw_sh0005_01.Holds := hd (by
  k_go0; (all_goals try k_fold)
  k_steps
  (with_unfolding_all refine' cells_loop _ _ _ _ _ _ _ _ _ _ _ _ _ _ _ _ _ _ _ _ (IntsAre.cons 32 _ (IntsAre.cons 8 _ (IntsAre.cons 0 _ (IntsAre.cons 4 _ (IntsAre.cons 20 _ (IntsAre.cons 12 _ (IntsAre.cons 0 _ (IntsAre.cons 16 _ (IntsAre.cons 32 _ IntsAre.nil))))))))) rfl ?k3 ?k4 ?k5 ?k6 ?_)
  case k6 => exact PairSrcL.at (by assumption) _ rfl
  case k3 => k_asm
  case k4 => k_asm
  case k5 => k_asm
  intro h' tk' m' vs' cs' F' N' hi' hl' hc' hm'
  with_unfolding_all refine' wpAny_mono (law_tail _ _ _ _ _ _ _ _ _ _ _ _ ?zP HC HP ?zX ?zT ?zB m' _ _ vs' cs' hi' hl' (Fr.named F' hc') N') ?zA (fun _ _ e => e)
  case zX => k_asm
  case zT => k_asm
  case zB => k_asm
  case zP => exact ⟨by passes_own⟩
  case zA =>
    intro f s' hf
    obtain ⟨rfl, h, tk, m9, news, rfl, F9, N9⟩ := hf
    k_steps)
end Mine

/-! part N1 -/
namespace Mine
open PySem.Float64

/-! floats as rationals -/
theorem mult_rep : ∀ (j q : Nat), q ≤ 2 ^ 53 → ∃ t, V t = q * 2 ^ j
  | 0, q, h => ⟨q, by
      have := V_at (k := 0) (q := q) h (.inr rfl)
      simpa using this⟩
  | j + 1, q, h => by
    by_cases h2 : 2 ^ 52 ≤ q
    · exact ⟨(j + 1) * 2 ^ 52 + q, V_at h (.inl h2)⟩
    · obtain ⟨t, ht⟩ := mult_rep j (2 * q) (by omega)
      exact ⟨t, by rw [ht, Nat.pow_succ]; ac_rfl⟩

/-- the fraction W / D is not too large: the float is finite, and no further from it than the spacing -/
theorem right_near {r : UInt64} {neg : Bool} {W D j : Nat} (h : Right r neg W D) (hD : 0 < D) (hW : W ≤ D * (2 ^ 53 * 2 ^ j)) (hj : j ≤ 1900) :
    ∃ t, t < infMag ∧ r = pack neg t ∧ dist W (D * V t) ≤ D * 2 ^ j := by
  obtain ⟨t, rfl, hle, hinf, hnear⟩ := h
  have hlt : t < infMag := by
    rcases Nat.lt_or_eq_of_le hle with h | h
    · exact h
    · exfalso
      have h1 := hinf.mp h
      have h2 : 2 ^ j ≤ 2 ^ 1900 := Nat.pow_le_pow_right (by decide) hj
      have e : (2 : Nat) ^ 2045 = 2 ^ 145 * 2 ^ 1900 := by rw [← Nat.pow_add]
      rw [e] at h1
      have hz : 0 < 2 ^ 1900 := Nat.two_pow_pos 1900
      generalize 2 ^ 1900 = Z at *
      generalize 2 ^ j = y at *
      have h3 : D * (2 ^ 53 * y) ≤ D * (2 ^ 53 * Z) := Nat.mul_le_mul_left _ (Nat.mul_le_mul_left _ h2)
      have h4 : D * (2 * (2 ^ 53 * Z)) < D * ((2 ^ 54 - 1) * (2 ^ 145 * Z)) := Nat.mul_lt_mul_of_pos_left (by omega) hD
      have h5 : D * (2 * (2 ^ 53 * Z)) = 2 * (D * (2 ^ 53 * Z)) := by ac_rfl
      omega
  refine ⟨t, hlt, rfl, ?_⟩
  have hp : 0 < D * 2 ^ j := Nat.mul_pos hD (Nat.two_pow_pos j)
  have hq : W / (D * 2 ^ j) ≤ 2 ^ 53 := by
    apply Nat.div_le_of_le_mul
    calc W ≤ D * (2 ^ 53 * 2 ^ j) := hW
      _ = D * 2 ^ j * 2 ^ 53 := by ac_rfl
  obtain ⟨t', ht'⟩ := mult_rep j _ hq
  refine Nat.le_trans (hnear hlt t').1 ?_
  rw [ht']
  have e : D * (W / (D * 2 ^ j) * 2 ^ j) = D * 2 ^ j * (W / (D * 2 ^ j)) := by ac_rfl
  rw [e]
  have h1 := Nat.div_add_mod W (D * 2 ^ j)
  have h2 := Nat.mod_lt W hp
  unfold dist
  generalize D * 2 ^ j * (W / (D * 2 ^ j)) = z at *
  omega

/-- a fraction that is a float's value is hit -/
theorem right_exact {r : UInt64} {neg : Bool} {W D q j : Nat} (h : Right r neg W D) (hD : 0 < D) (hq : q ≤ 2 ^ 53) (hW : W = D * (q * 2 ^ j)) (hj : j ≤ 1900) :
    ∃ t, t < infMag ∧ r = pack neg t ∧ V t = q * 2 ^ j := by
  obtain ⟨t, hlt, rfl, _⟩ := right_near h hD (j := j) (by rw [hW]; exact Nat.mul_le_mul_left _ (Nat.mul_le_mul_right _ hq)) hj
  obtain ⟨t0, e0, hle, hinf, hnear⟩ := h
  have hi : infMag = 2047 * 2 ^ 52 := rfl
  have et : t0 = t := by
    have h1 := congrArg UInt64.toNat e0
    rw [pack_toNat neg (by omega), pack_toNat neg (by omega)] at h1
    omega
  subst et
  obtain ⟨t', ht'⟩ := mult_rep j q hq
  refine ⟨t0, hlt, rfl, ?_⟩
  have h1 := (hnear hlt t').1
  rw [ht', ← hW] at h1
  have h2 : dist W W = 0 := by unfold dist; omega
  rw [h2] at h1
  have h3 : D * V t0 = D * (q * 2 ^ j) := by
    rw [← hW]
    unfold dist at h1
    omega
  exact Nat.eq_of_mul_eq_mul_left hD h3

/-- equal fractions give equal floats -/
theorem right_unique {r r' : UInt64} {neg : Bool} {W D W' D' : Nat} (h : Right r neg W D) (h' : Right r' neg W' D') (hD : 0 < D) (hD' : 0 < D') (e : W * D' = W' * D) : r = r' := by
  obtain ⟨t, rfl, hle, hinf, hnear⟩ := h
  obtain ⟨t', rfl, hle', hinf', hnear'⟩ := h'
  have key : ∀ v, D' * dist W (D * v) = D * dist W' (D' * v) := by
    intro v
    rw [← dist_mul, ← dist_mul, show D' * W = D * W' by rw [Nat.mul_comm, e, Nat.mul_comm], show D' * (D * v) = D * (D' * v) by ac_rfl]
  have hover : (D * ((2 ^ 54 - 1) * 2 ^ 2045) ≤ 2 * W) ↔ (D' * ((2 ^ 54 - 1) * 2 ^ 2045) ≤ 2 * W') := by
    generalize (2 ^ 54 - 1) * 2 ^ 2045 = M
    have e1 : D' * (D * M) = D * (D' * M) := by ac_rfl
    have e2 : D' * (2 * W) = D * (2 * W') := by
      calc D' * (2 * W) = 2 * (W * D') := by ac_rfl
        _ = 2 * (W' * D) := by rw [e]
        _ = D * (2 * W') := by ac_rfl
    constructor
    · intro h
      refine Nat.le_of_mul_le_mul_left (c := D) ?_ hD
      rw [← e1, ← e2]
      exact Nat.mul_le_mul_left _ h
    · intro h
      refine Nat.le_of_mul_le_mul_left (c := D') ?_ hD'
      rw [e1, e2]
      exact Nat.mul_le_mul_left _ h
  congr 1
  by_cases ht : t = infMag
  · rw [ht, hinf'.mpr (hover.mp (hinf.mp ht))]
  · have ht' : t' ≠ infMag := fun c => ht (hinf.mpr (hover.mpr (hinf'.mp c)))
    have hl : t < infMag := Nat.lt_of_le_of_ne hle ht
    have hl' : t' < infMag := Nat.lt_of_le_of_ne hle' ht'
    have a1 := (hnear hl t').1
    have a2 : dist W (D * V t') ≤ dist W (D * V t) := by
      refine Nat.le_of_mul_le_mul_left (c := D') ?_ hD'
      rw [key, key]
      exact Nat.mul_le_mul_left _ (hnear' hl' t).1
    have a3 : dist W (D * V t) = dist W (D * V t') := Nat.le_antisymm a1 a2
    by_cases hv : V t' = V t
    · rcases Nat.lt_trichotomy t t' with h | h | h
      · have := V_lt h; omega
      · exact h
      · have := V_lt h; omega
    · exfalso
      have p1 := (hnear hl t').2 hv a3
      have p2 : t' % 2 = 0 := by
        refine (hnear' hl' t).2 (fun c => hv c.symm) ?_
        refine Nat.eq_of_mul_eq_mul_left hD ?_
        rw [← key, ← key, a3]
      -- an odd one lies strictly between
      have mid : ∀ {a b : Nat}, a < b → a % 2 = 0 → b % 2 = 0 → dist W (D * V a) = dist W (D * V b) → (∀ t', dist W (D * V a) ≤ dist W (D * V t')) → False := by
        intro a b hab pa pb hd hn
        have h1 : a < a + 1 := Nat.lt_succ_self a
        have h2 : a + 1 < b := by omega
        have v1 : D * V a < D * V (a + 1) := Nat.mul_lt_mul_of_pos_left (V_lt h1) hD
        have v2 : D * V (a + 1) < D * V b := Nat.mul_lt_mul_of_pos_left (V_lt h2) hD
        have h3 := hn (a + 1)
        unfold dist at hd h3
        generalize D * V a = x at *
        generalize D * V (a + 1) = y at *
        generalize D * V b = z at *
        omega
      rcases Nat.lt_trichotomy t t' with h | h | h
      · exact mid h p1 p2 a3 fun x => (hnear hl x).1
      · exact hv (by rw [h])
      · refine mid h p2 p1 a3.symm fun x => ?_
        rw [← a3]
        exact (hnear hl x).1
end Mine

/-! part N2 -/
namespace Mine
open PySem.Float64

noncomputable def Kn : Nat := 2 ^ 1074
theorem Kn_def : Kn = 2 ^ 1074 := rfl
noncomputable def Kr : Rat := (Kn : Rat)
theorem Kn_pos : 0 < Kn := Nat.two_pow_pos 1074
theorem Kr_pos : 0 < Kr := by unfold Kr; exact_mod_cast Kn_pos
theorem Kr_ne : Kr ≠ 0 := fun h => by have := Kr_pos; rw [h] at this; exact absurd this (by decide)

noncomputable def Fin (x : UInt64) : Prop := ∃ a m e, decode x = .fin a m e
noncomputable def Rv (x : UInt64) : Rat := (val x : Rat) / Kr

theorem rat_div_mul {a b : Rat} (h : b ≠ 0) : a / b * b = a := by
  rw [Rat.div_mul_cancel h]
theorem rv_mul (x : UInt64) : Rv x * Kr = (val x : Rat) := rat_div_mul Kr_ne
theorem rv_of {x : UInt64} {y : Rat} (h : (val x : Rat) = y * Kr) : Rv x = y := by
  have h1 := rv_mul x
  rw [h] at h1
  have h2 := Kr_ne
  grind

theorem cancel_le {a b d : Rat} (hd : 0 < d) (h : d * a ≤ d * b) : a ≤ b := Rat.le_of_mul_le_mul_left h hd

/-- the sign as a rational -/
noncomputable def sg (neg : Bool) : Rat := if neg then -1 else 1
theorem sgn_cast (neg : Bool) (n : Nat) : ((sgn neg n : Int) : Rat) = sg neg * (n : Rat) := by
  unfold sgn sg
  cases neg
  · show (((n : Int)) : Rat) = 1 * (n : Rat)
    rw [Rat.intCast_natCast]; grind
  · show ((-(n : Int) : Int) : Rat) = -1 * (n : Rat)
    rw [Rat.intCast_neg, Rat.intCast_natCast]; grind

theorem near_of {r : UInt64} {neg : Bool} {W D : Nat} {X : Rat} (k : Nat) (h : Right r neg W D) (hD : 0 < D) (hX : X * ((D : Rat) * Kr) = sg neg * (W : Rat)) (h1 : X ≤ ((2 ^ k : Nat) : Rat)) (h2 : -((2 ^ k : Nat) : Rat) ≤ X) (hk : k ≤ 800) :
    Fin r ∧ Rv r - X ≤ ((2 ^ k : Nat) : Rat) / ((2 ^ 53 : Nat) : Rat) ∧ X - Rv r ≤ ((2 ^ k : Nat) : Rat) / ((2 ^ 53 : Nat) : Rat) := by
  have hj : 1021 + k ≤ 1900 := by omega
  have hpow : (2 : Nat) ^ 53 * 2 ^ (1021 + k) = 2 ^ k * Kn := by
    rw [Kn_def, ← Nat.pow_add, ← Nat.pow_add]; congr 1; omega
  have hd : (0 : Rat) < (D : Rat) := by exact_mod_cast hD
  have hK := Kr_pos
  have hss : sg neg * sg neg = 1 := by
    unfold sg
    cases neg
    · show (1 : Rat) * 1 = 1
      grind
    · show (-1 : Rat) * -1 = 1
      grind
  have hs1 : sg neg = 1 ∨ sg neg = -1 := by unfold sg; cases neg <;> simp
  -- Y: the size of X, scaled
  have hY : (D : Rat) * (sg neg * X * Kr) = (W : Rat) := by
    have e : (D : Rat) * (sg neg * X * Kr) = sg neg * (X * ((D : Rat) * Kr)) := by grind
    rw [e, hX, ← Rat.mul_assoc, hss, Rat.one_mul]
  have hM : sg neg * X ≤ ((2 ^ k : Nat) : Rat) := by rcases hs1 with h | h <;> rw [h] <;> grind
  have hWr : (W : Rat) ≤ ((D * (2 ^ 53 * 2 ^ (1021 + k)) : Nat) : Rat) := by
    rw [hpow, ← hY]
    have e : ((D * (2 ^ k * Kn) : Nat) : Rat) = (D : Rat) * (((2 ^ k : Nat) : Rat) * Kr) := by rw [Rat.natCast_mul, Rat.natCast_mul]; rfl
    rw [e]
    exact Rat.mul_le_mul_of_nonneg_left (Rat.mul_le_mul_of_nonneg_right hM (Rat.le_of_lt hK)) (Rat.le_of_lt hd)
  have hW : W ≤ D * (2 ^ 53 * 2 ^ (1021 + k)) := by exact_mod_cast hWr
  obtain ⟨t, ht, rfl, hdist⟩ := right_near h hD hW hj
  obtain ⟨m, e, hdec, _⟩ := decode_pack neg ht
  refine ⟨⟨_, _, _, hdec⟩, ?_⟩
  have hv : Rv (pack neg t) = sg neg * (V t : Rat) / Kr := by
    unfold Rv
    rw [val_pack neg ht, sgn_cast]
  have hr : Rv (pack neg t) * Kr = sg neg * (V t : Rat) := by rw [hv]; exact rat_div_mul Kr_ne
  generalize Rv (pack neg t) = R at *
  clear hv hdec
  -- the distance in rationals
  have n1 : W ≤ D * V t + D * 2 ^ (1021 + k) := by unfold dist at hdist; omega
  have n2 : D * V t ≤ W + D * 2 ^ (1021 + k) := by unfold dist at hdist; omega
  have q1 : (W : Rat) ≤ (D : Rat) * (V t : Rat) + (D : Rat) * ((2 ^ (1021 + k) : Nat) : Rat) := by exact_mod_cast n1
  have q2 : (D : Rat) * (V t : Rat) ≤ (W : Rat) + (D : Rat) * ((2 ^ (1021 + k) : Nat) : Rat) := by exact_mod_cast n2
  have hp : ((2 ^ 53 : Nat) : Rat) * ((2 ^ (1021 + k) : Nat) : Rat) = ((2 ^ k : Nat) : Rat) * Kr := by
    have : ((2 ^ 53 * 2 ^ (1021 + k) : Nat) : Rat) = ((2 ^ k * Kn : Nat) : Rat) := by rw [hpow]
    rw [Rat.natCast_mul, Rat.natCast_mul] at this
    exact this
  generalize ((2 ^ (1021 + k) : Nat) : Rat) = p at *
  generalize ((2 ^ k : Nat) : Rat) = M at *
  generalize (V t : Rat) = v at *
  have hQ : (0 : Rat) < ((2 ^ 53 : Nat) : Rat) := by decide
  have hQn : ((2 ^ 53 : Nat) : Rat) ≠ 0 := by decide
  have hE : M / ((2 ^ 53 : Nat) : Rat) * ((2 ^ 53 : Nat) : Rat) = M := rat_div_mul hQn
  generalize M / ((2 ^ 53 : Nat) : Rat) = e at *
  generalize ((2 ^ 53 : Nat) : Rat) = q at *
  -- p = e * Kr
  have hpe : p = e * Kr := by
    have h3 : q * p = q * (e * Kr) := by rw [hp, ← hE]; grind
    have h4 : q ≠ 0 := hQn
    grind
  rw [← hY] at q1 q2
  have r1 : sg neg * X * Kr ≤ v + p := cancel_le hd (by rw [Rat.mul_add]; exact q1)
  have r2 : v ≤ sg neg * X * Kr + p := cancel_le hd (by rw [Rat.mul_add]; exact q2)
  rw [hpe] at r1 r2
  constructor
  · refine cancel_le hK ?_
    rcases hs1 with h | h <;> rw [h] at r1 r2 hr <;> grind
  · refine cancel_le hK ?_
    rcases hs1 with h | h <;> rw [h] at r1 r2 hr <;> grind
end Mine

/-! part N3 -/
namespace Mine
open PySem.Float64

theorem ss (neg : Bool) : sg neg * sg neg = 1 := by
  unfold sg
  cases neg
  · show (1 : Rat) * 1 = 1
    grind
  · show (-1 : Rat) * -1 = 1
    grind

theorem exact_of {r : UInt64} {neg : Bool} {W D q : Nat} {X : Rat} (i : Nat) (h : Right r neg W D) (hD : 0 < D) (hX : X * ((D : Rat) * Kr) = sg neg * (W : Rat)) (hi : i ≤ 1074) (hq : q ≤ 2 ^ 53) (hXq : X * ((2 ^ i : Nat) : Rat) = sg neg * (q : Rat)) :
    Fin r ∧ Rv r = X := by
  have hpow : (2 : Nat) ^ i * 2 ^ (1074 - i) = Kn := by
    rw [Kn_def, ← Nat.pow_add]; congr 1; omega
  have hW : W = D * (q * 2 ^ (1074 - i)) := by
    have hr : (W : Rat) = ((D * (q * 2 ^ (1074 - i)) : Nat) : Rat) := by
      have e1 : (W : Rat) = sg neg * (X * ((D : Rat) * Kr)) := by rw [hX, ← Rat.mul_assoc, ss, Rat.one_mul]
      have e2 : Kr = ((2 ^ i : Nat) : Rat) * ((2 ^ (1074 - i) : Nat) : Rat) := by
        unfold Kr; rw [← hpow, Rat.natCast_mul]
      have e3 : (q : Rat) = sg neg * (X * ((2 ^ i : Nat) : Rat)) := by rw [hXq, ← Rat.mul_assoc, ss, Rat.one_mul]
      rw [e1, Rat.natCast_mul, Rat.natCast_mul, e2, e3]
      grind
    exact_mod_cast hr
  obtain ⟨t, ht, rfl, hV⟩ := right_exact h hD hq hW (by omega)
  obtain ⟨m, e, hdec, _⟩ := decode_pack neg ht
  refine ⟨⟨_, _, _, hdec⟩, rv_of ?_⟩
  rw [val_pack neg ht, sgn_cast, hV]
  have e2 : Kr = ((2 ^ i : Nat) : Rat) * ((2 ^ (1074 - i) : Nat) : Rat) := by
    unfold Kr; rw [← hpow, Rat.natCast_mul]
  rw [e2, Rat.natCast_mul, ← Rat.mul_assoc, ← Rat.mul_assoc, hXq]

/-- r is within E of X -/
noncomputable def Near (r : UInt64) (X E : Rat) : Prop := Fin r ∧ Rv r - X ≤ E ∧ X - Rv r ≤ E
noncomputable def u (k : Nat) : Rat := ((2 ^ k : Nat) : Rat) / ((2 ^ 53 : Nat) : Rat)
noncomputable abbrev p2 (k : Nat) : Rat := ((2 ^ k : Nat) : Rat)

theorem u_nonneg (k : Nat) : 0 ≤ u k := by
  have h1 : u k * ((2 ^ 53 : Nat) : Rat) = p2 k := rat_div_mul (by decide)
  have h2 : (0 : Rat) ≤ p2 k := Rat.natCast_nonneg
  refine Rat.le_of_mul_le_mul_right (c := ((2 ^ 53 : Nat) : Rat)) ?_ (by decide)
  rw [h1, Rat.zero_mul]
  exact h2

theorem natAbs_cast (z : Int) : (z : Rat) = sg (decide (z < 0)) * ((z.natAbs : Nat) : Rat) := by
  unfold sg
  by_cases h : z < 0
  · simp only [h, decide_true, if_true]
    have e : z = -((z.natAbs : Nat) : Int) := by omega
    have e2 : (z : Rat) = ((-((z.natAbs : Nat) : Int) : Int) : Rat) := by rw [← e]
    rw [e2, Rat.intCast_neg, Rat.intCast_natCast]
    grind
  · simp only [h, decide_false]
    have e : z = ((z.natAbs : Nat) : Int) := by omega
    have e2 : (z : Rat) = ((((z.natAbs : Nat) : Int) : Int) : Rat) := by rw [← e]
    rw [e2, Rat.intCast_natCast]
    show _ = (1 : Rat) * _
    rw [Rat.one_mul]

theorem fin_zero (b : Bool) : Fin (zero b) ∧ Rv (zero b) = 0 := by
  have h0 : (0 : Nat) < infMag := by decide
  obtain ⟨m, e, hdec, _⟩ := decode_pack b h0
  refine ⟨⟨_, _, _, hdec⟩, rv_of ?_⟩
  unfold zero
  rw [val_pack b h0, V_zero]
  cases b <;> (unfold sgn; simp)

theorem sum_rv (x y : UInt64) : (Rv x + Rv y) * Kr = ((val x + val y : Int) : Rat) := by
  rw [Rat.add_mul, rv_mul, rv_mul, Rat.intCast_add]
theorem dif_rv (x y : UInt64) : (Rv x - Rv y) * Kr = ((val x - val y : Int) : Rat) := by
  have h1 := rv_mul x
  have h2 := rv_mul y
  rw [Rat.intCast_sub, ← h1, ← h2]
  grind

theorem add_spec {x y : UInt64} (hx : Fin x) (hy : Fin y) : (Rv x + Rv y = 0 ∧ Fin (add x y) ∧ Rv (add x y) = 0) ∨ (∃ neg W, Right (add x y) neg W 1 ∧ (Rv x + Rv y) * (((1 : Nat) : Rat) * Kr) = sg neg * (W : Rat)) := by
  obtain ⟨a, m, e, hx⟩ := hx
  obtain ⟨b, k, f, hy⟩ := hy
  have h := add_right hx hy
  by_cases h0 : val x + val y = 0
  · left
    have e1 := h.1 h0
    rw [e1]
    refine ⟨?_, fin_zero _⟩
    have e2 := sum_rv x y
    rw [h0] at e2
    rcases Rat.mul_eq_zero.mp e2 with h | h
    · exact h
    · exact absurd h Kr_ne
  · right
    refine ⟨_, _, h.2 h0, ?_⟩
    have e2 := sum_rv x y
    rw [← natAbs_cast, ← e2]
    show _ * (1 * Kr) = _
    rw [Rat.one_mul]
theorem sub_spec {x y : UInt64} (hx : Fin x) (hy : Fin y) : (Rv x - Rv y = 0 ∧ Fin (sub x y) ∧ Rv (sub x y) = 0) ∨ (∃ neg W, Right (sub x y) neg W 1 ∧ (Rv x - Rv y) * (((1 : Nat) : Rat) * Kr) = sg neg * (W : Rat)) := by
  obtain ⟨a, m, e, hx⟩ := hx
  obtain ⟨b, k, f, hy⟩ := hy
  have h := sub_right hx hy
  by_cases h0 : val x - val y = 0
  · left
    have e1 := h.1 h0
    rw [e1]
    refine ⟨?_, fin_zero _⟩
    have e2 := dif_rv x y
    rw [h0] at e2
    rcases Rat.mul_eq_zero.mp e2 with h | h
    · exact h
    · exact absurd h Kr_ne
  · right
    refine ⟨_, _, h.2 h0, ?_⟩
    have e2 := dif_rv x y
    rw [← natAbs_cast, ← e2]
    show _ * (1 * Kr) = _
    rw [Rat.one_mul]

theorem add_near {x y : UInt64} (k : Nat) (hx : Fin x) (hy : Fin y) (h1 : Rv x + Rv y ≤ p2 k) (h2 : -p2 k ≤ Rv x + Rv y) (hk : k ≤ 800) : Near (add x y) (Rv x + Rv y) (u k) := by
  rcases add_spec hx hy with ⟨h0, hf, hv⟩ | ⟨neg, W, hr, hX⟩
  · have := u_nonneg k
    refine ⟨hf, ?_, ?_⟩ <;> grind
  · exact near_of k hr (by decide) hX h1 h2 hk
theorem sub_near {x y : UInt64} (k : Nat) (hx : Fin x) (hy : Fin y) (h1 : Rv x - Rv y ≤ p2 k) (h2 : -p2 k ≤ Rv x - Rv y) (hk : k ≤ 800) : Near (sub x y) (Rv x - Rv y) (u k) := by
  rcases sub_spec hx hy with ⟨h0, hf, hv⟩ | ⟨neg, W, hr, hX⟩
  · have := u_nonneg k
    refine ⟨hf, ?_, ?_⟩ <;> grind
  · exact near_of k hr (by decide) hX h1 h2 hk

theorem fin_sign {x : UInt64} {a : Bool} {m : Nat} {e : Int} (h : decode x = .fin a m e) : (val x : Rat) = sg a * (((val x).natAbs : Nat) : Rat) := by
  rw [val_natAbs h, val_eq h, sgn_cast]
theorem sg_mul (a b : Bool) : sg (a != b) = sg a * sg b := by
  unfold sg
  cases a <;> cases b <;> simp <;> grind

theorem mul_spec {x y : UInt64} (hx : Fin x) (hy : Fin y) : ∃ neg W, Right (mul x y) neg W (2 ^ 1074) ∧ (Rv x * Rv y) * (((2 ^ 1074 : Nat) : Rat) * Kr) = sg neg * (W : Rat) := by
  obtain ⟨a, m, e, hx⟩ := hx
  obtain ⟨b, k, f, hy⟩ := hy
  refine ⟨_, _, mul_right hx hy, ?_⟩
  have h1 := rv_mul x
  have h2 := rv_mul y
  rw [fin_sign hx] at h1
  rw [fin_sign hy] at h2
  rw [sg_mul, Rat.natCast_mul]
  show _ * (Kr * Kr) = _
  have e : Rv x * Rv y * (Kr * Kr) = (Rv x * Kr) * (Rv y * Kr) := by grind
  rw [e, h1, h2]
  grind
theorem mul_near {x y : UInt64} (k : Nat) (hx : Fin x) (hy : Fin y) (h1 : Rv x * Rv y ≤ p2 k) (h2 : -p2 k ≤ Rv x * Rv y) (hk : k ≤ 800) : Near (mul x y) (Rv x * Rv y) (u k) := by
  obtain ⟨neg, W, hr, hX⟩ := mul_spec hx hy
  exact near_of k hr (Nat.two_pow_pos 1074) hX h1 h2 hk

theorem div_spec {x y : UInt64} {X : Rat} (hx : Fin x) (hy : Fin y) (h0 : Rv y ≠ 0) (hXy : X * Rv y = Rv x) : ∃ neg W D, 0 < D ∧ Right (div x y) neg W D ∧ X * ((D : Rat) * Kr) = sg neg * (W : Rat) := by
  obtain ⟨a, m, e, hx⟩ := hx
  obtain ⟨b, k, f, hy⟩ := hy
  have h2 := rv_mul y
  have hvy : val y ≠ 0 := fun c => by
    rw [c] at h2
    rcases Rat.mul_eq_zero.mp h2 with h | h
    · exact h0 h
    · exact Kr_ne h
  have hk : k ≠ 0 := fun c => by
    apply hvy
    rw [val_eq hy, c, Nat.zero_mul]
    unfold sgn; cases b <;> simp
  refine ⟨_, _, _, ?_, div_right hx hy hk, ?_⟩
  · omega
  · have h1 := rv_mul x
    rw [fin_sign hx] at h1
    rw [fin_sign hy] at h2
    rw [sg_mul, Rat.natCast_mul]
    show _ = _ * (_ * Kr)
    have e2 : (((val y).natAbs : Nat) : Rat) = sg b * (Rv y * Kr) := by rw [h2, ← Rat.mul_assoc, ss, Rat.one_mul]
    have e1 : (((val x).natAbs : Nat) : Rat) = sg a * (Rv x * Kr) := by rw [h1, ← Rat.mul_assoc, ss, Rat.one_mul]
    rw [e1, e2, ← hXy]
    have s1 := ss a
    have s2 := ss b
    grind
theorem div_near {x y : UInt64} {X : Rat} (k : Nat) (hx : Fin x) (hy : Fin y) (h0 : Rv y ≠ 0) (hXy : X * Rv y = Rv x) (h1 : X ≤ p2 k) (h2 : -p2 k ≤ X) (hk : k ≤ 800) : Near (div x y) X (u k) := by
  obtain ⟨neg, W, D, hD, hr, hX⟩ := div_spec hx hy h0 hXy
  exact near_of k hr hD hX h1 h2 hk
end Mine

/-! part N4 -/
namespace Mine
open PySem.Float64

theorem cn_rv {n : Nat} (hn : n ≤ 2 ^ 53) : Right (ofFrac false n 64) false (n * 2 ^ 1074) 64 ∧ ((n : Rat) / 64) * (((64 : Nat) : Rat) * Kr) = sg false * ((n * 2 ^ 1074 : Nat) : Rat) ∧ Fin (ofFrac false n 64) ∧ Rv (ofFrac false n 64) = (n : Rat) / 64 := by
  have h : Right (ofFrac false n 64) false (n * 2 ^ 1074) 64 := ofFrac_right (by decide) rfl (by decide)
  have hX : ((n : Rat) / 64) * (((64 : Nat) : Rat) * Kr) = sg false * ((n * 2 ^ 1074 : Nat) : Rat) := by
    rw [Rat.natCast_mul]
    show _ = (1 : Rat) * (_ * Kr)
    have e : ((64 : Nat) : Rat) = 64 := rfl
    rw [e]
    grind
  refine ⟨h, hX, ?_⟩
  refine exact_of 6 h (by decide) hX (by decide) hn ?_
  show (n : Rat) / 64 * ((64 : Nat) : Rat) = (1 : Rat) * _
  have e : ((64 : Nat) : Rat) = 64 := rfl
  rw [e]
  grind

theorem ofInt_rv {i : Int} (hi : i.natAbs ≤ 2 ^ 53) : Fin (ofInt i) ∧ Rv (ofInt i) = (i : Rat) := by
  have h := ofInt_right i
  refine exact_of 0 h (by decide) ?_ (by decide) hi ?_
  · rw [Rat.natCast_mul, natAbs_cast i]
    show _ * (1 * Kr) = _ * (_ * Kr)
    grind
  · rw [natAbs_cast i]
    show _ * 1 = _
    grind

set_option maxRecDepth 100000 in
theorem const_rv {c : UInt64} {neg : Bool} {m : Nat} (i : Nat) (h : decode c = .fin neg m (-(i : Int))) (hi : i ≤ 1074) : Fin c ∧ Rv c * ((2 ^ i : Nat) : Rat) = sg neg * (m : Rat) := by
  refine ⟨⟨_, _, _, h⟩, ?_⟩
  have hv : (val c : Rat) = sg neg * ((m * 2 ^ (1074 - i) : Nat) : Rat) := by
    have ee : (-(i : Int) + 1074).toNat = 1074 - i := by omega
    have h5 := val_eq h
    rw [ee] at h5
    rw [h5]
    exact sgn_cast _ _
  have h1 := rv_mul c
  have hpow : Kr = ((2 ^ i : Nat) : Rat) * ((2 ^ (1074 - i) : Nat) : Rat) := by
    unfold Kr
    rw [← Rat.natCast_mul]
    congr 1
    rw [Kn_def, ← Nat.pow_add]; congr 1; omega
  have hp : (0 : Rat) < ((2 ^ (1074 - i) : Nat) : Rat) := by exact_mod_cast Nat.two_pow_pos _
  rw [hv, hpow, Rat.natCast_mul] at h1
  generalize ((2 ^ (1074 - i) : Nat) : Rat) = p at *
  have hne : p ≠ 0 := fun c => by rw [c] at hp; exact absurd hp (by decide)
  have e : p * (Rv c * ((2 ^ i : Nat) : Rat)) = p * (sg neg * (m : Rat)) := by grind
  exact Rat.le_antisymm (cancel_le hp (by rw [e]; exact Rat.le_refl)) (cancel_le hp (by rw [e]; exact Rat.le_refl))

theorem rv_lt {x y : UInt64} : val x < val y ↔ Rv x < Rv y := by
  have h1 := rv_mul x
  have h2 := rv_mul y
  have e : (val x < val y) ↔ ((val x : Rat) < (val y : Rat)) := Rat.intCast_lt_intCast.symm
  rw [e, ← h1, ← h2]
  rw [Rat.mul_comm (Rv x), Rat.mul_comm (Rv y), Rat.mul_lt_mul_left Kr_pos]
theorem rv_eq {x y : UInt64} : val x = val y ↔ Rv x = Rv y := by
  constructor
  · intro h; unfold Rv; rw [h]
  · intro h
    have h1 := rv_mul x
    have h2 := rv_mul y
    rw [h, h2] at h1
    exact (Rat.intCast_inj.mp h1).symm
theorem cmp_rv {x y : UInt64} (hx : Fin x) (hy : Fin y) : cmp x y = some (if Rv x < Rv y then .lt else if Rv x = Rv y then .eq else .gt) := by
  obtain ⟨a, m, e, hx⟩ := hx
  obtain ⟨b, k, f, hy⟩ := hy
  rw [cmp_right hx hy]
  congr 1
  rcases Int.lt_trichotomy (val x) (val y) with h | h | h
  · rw [Int.compare_eq_lt.mpr h, if_pos (rv_lt.mp h)]
  · rw [Int.compare_eq_eq.mpr h, if_neg (fun c => by have := rv_lt.mpr c; omega), if_pos (rv_eq.mp h)]
  · rw [Int.compare_eq_gt.mpr h, if_neg (fun c => by have := rv_lt.mpr c; omega), if_neg (fun c => by have := rv_eq.mpr c; omega)]
theorem cmpInt_rv {x : UInt64} (hx : Fin x) (i : Int) : cmpInt x i = some (if Rv x < (i : Rat) then .lt else if Rv x = (i : Rat) then .eq else .gt) := by
  obtain ⟨a, m, e, hx⟩ := hx
  rw [cmpInt_right hx i]
  congr 1
  have h1 := rv_mul x
  have h2 : ((i * 2 ^ 1074 : Int) : Rat) = (i : Rat) * Kr := by
    have : ((2 ^ 1074 : Int)) = ((Kn : Nat) : Int) := by rw [Kn_def]; exact (Int.natCast_pow 2 1074).symm
    rw [this, Rat.intCast_mul, Rat.intCast_natCast]; rfl
  have l1 : val x < i * 2 ^ 1074 ↔ Rv x < (i : Rat) := by
    rw [← Rat.intCast_lt_intCast, h2, ← h1, Rat.mul_comm (Rv x), Rat.mul_comm (i : Rat), Rat.mul_lt_mul_left Kr_pos]
  have l2 : val x = i * 2 ^ 1074 ↔ Rv x = (i : Rat) := by
    constructor
    · intro h
      refine rv_of ?_
      rw [h, h2]
    · intro h
      rw [h, ← h2] at h1
      exact (Rat.intCast_inj.mp h1).symm
  generalize i * 2 ^ 1074 = z at *
  rcases Int.lt_trichotomy (val x) z with h | h | h
  · rw [Int.compare_eq_lt.mpr h, if_pos (l1.mp h)]
  · rw [Int.compare_eq_eq.mpr h, if_neg (fun c => by have := l1.mpr c; omega), if_pos (l2.mp h)]
  · rw [Int.compare_eq_gt.mpr h, if_neg (fun c => by have := l1.mpr c; omega), if_neg (fun c => by have := l2.mpr c; omega)]

theorem isZero_rv {x : UInt64} (hx : Fin x) (h : Rv x ≠ 0) : isZero x = false := by
  rw [PySem.Flt.isZero_eq, cmpInt_rv hx]
  have e : ((0 : Int) : Rat) = 0 := rfl
  rw [e, if_neg (fun c : Rv x = 0 => h c)]
  by_cases h1 : Rv x < 0
  · rw [if_pos h1]; rfl
  · rw [if_neg h1]; rfl

theorem abs_rv {x : UInt64} (hx : Fin x) : Fin (abs x) ∧ (Rv (abs x) = Rv x ∨ Rv (abs x) = -Rv x) ∧ 0 ≤ Rv (abs x) := by
  obtain ⟨a, m, e, hx⟩ := hx
  have hnan : Float64.isNaN x = false := by unfold Float64.isNaN; rw [hx]
  have hlt : x.toNat % 2 ^ 63 < 2 ^ 63 := Nat.mod_lt _ (by decide)
  have hp := pack_toNat false hlt
  have ha : abs x = pack false (x.toNat % 2 ^ 63) := by unfold abs; rw [if_neg (by simp [hnan])]
  have hd : decode (abs x) = .fin false m e := by
    rw [ha]
    unfold decode at hx ⊢
    have h1 : (pack false (x.toNat % 2 ^ 63)).toNat / 2 ^ 63 = 0 := by rw [hp]; simp <;> omega
    have h2 : (pack false (x.toNat % 2 ^ 63)).toNat / 2 ^ 52 % 2048 = x.toNat / 2 ^ 52 % 2048 := by rw [hp]; simp <;> omega
    have h3 : (pack false (x.toNat % 2 ^ 63)).toNat % 2 ^ 52 = x.toNat % 2 ^ 52 := by rw [hp]; simp <;> omega
    simp only [h1, h2, h3] at hx ⊢
    split at hx
    · split at hx <;> cases hx
    · rename_i c1
      rw [if_neg c1]
      split at hx
      · rename_i c2
        rw [if_pos c2]
        cases hx
        rfl
      · rename_i c2
        rw [if_neg c2]
        cases hx
        rfl
  refine ⟨⟨_, _, _, hd⟩, ?_, ?_⟩
  · unfold Rv
    rw [val_eq hd, val_eq hx, sgn_cast, sgn_cast]
    unfold sg
    cases a
    · left; rfl
    · right
      show (1 : Rat) * _ / Kr = -((-1 : Rat) * _ / Kr)
      grind
  · have h1 := rv_mul (abs x)
    rw [val_eq hd, sgn_cast] at h1
    have h2 : (0 : Rat) ≤ sg false * ((m * 2 ^ (e + 1074).toNat : Nat) : Rat) := by
      show (0 : Rat) ≤ 1 * _
      rw [Rat.one_mul]; exact Rat.natCast_nonneg
    rw [← h1] at h2
    refine Rat.le_of_mul_le_mul_right (c := Kr) ?_ Kr_pos
    rw [Rat.zero_mul]; exact h2
end Mine

/-! part N5 -/
namespace Mine
open PySem.Float64

/-- a 64th's float -/
noncomputable def cn (n : Nat) : UInt64 := ofFrac false n 64
theorem cf_cn {r : Int} (h : 0 ≤ r) : Float64.ofFrac (decide (r < 0) != decide ((64 : Int) < 0)) r.natAbs (Int.natAbs 64) = cn r.toNat := by
  have e1 : decide (r < 0) = false := decide_eq_false (by omega)
  have e2 : r.natAbs = r.toNat := by omega
  rw [e1, e2]
  rfl
theorem cn_zero : zero false = cn 0 := by decide +kernel
theorem cn_fin {n : Nat} (h : n ≤ 2 ^ 53) : Fin (cn n) := (cn_rv h).2.2.1
theorem cn_val {n : Nat} (h : n ≤ 2 ^ 53) : Rv (cn n) = (n : Rat) / 64 := (cn_rv h).2.2.2

theorem pos_sign {neg : Bool} {W : Nat} {Y : Rat} (h : Y = sg neg * (W : Rat)) (hY : 0 < Y) : neg = false := by
  cases neg
  · rfl
  · exfalso
    have h2 : (0 : Rat) ≤ (W : Rat) := Rat.natCast_nonneg
    have h3 : Y = -1 * (W : Rat) := h
    grind
theorem bits_of {r r' : UInt64} {neg neg' : Bool} {W D W' D' : Nat} {X : Rat} (h : Right r neg W D) (h' : Right r' neg' W' D') (hD : 0 < D) (hD' : 0 < D') (hX : X * ((D : Rat) * Kr) = sg neg * (W : Rat)) (hX' : X * ((D' : Rat) * Kr) = sg neg' * (W' : Rat)) (h0 : 0 < X) : r = r' := by
  have hd : (0 : Rat) < (D : Rat) := by exact_mod_cast hD
  have hd' : (0 : Rat) < (D' : Rat) := by exact_mod_cast hD'
  have n1 := pos_sign hX (Rat.mul_pos h0 (Rat.mul_pos hd Kr_pos))
  have n2 := pos_sign hX' (Rat.mul_pos h0 (Rat.mul_pos hd' Kr_pos))
  subst n1; subst n2
  have e1 : X * ((D : Rat) * Kr) = 1 * (W : Rat) := hX
  have e2 : X * ((D' : Rat) * Kr) = 1 * (W' : Rat) := hX'
  refine right_unique h h' hD hD' ?_
  have : ((W * D' : Nat) : Rat) = ((W' * D : Nat) : Rat) := by
    rw [Rat.natCast_mul, Rat.natCast_mul]
    grind
  exact_mod_cast this

theorem cn_sub {a b : Nat} (ha : a ≤ 1000) (hb : b ≤ a) : sub (cn a) (cn b) = cn (a - b) := by
  have h1 := cn_val (n := a) (by omega)
  have h2 := cn_val (n := b) (by omega)
  have hf1 := cn_fin (n := a) (by omega)
  have hf2 := cn_fin (n := b) (by omega)
  have hc := cn_rv (n := a - b) (by omega)
  have hcast : ((a - b : Nat) : Rat) = (a : Rat) - (b : Rat) := by
    have : ((a - b + b : Nat) : Rat) = (a : Rat) := by rw [Nat.sub_add_cancel hb]
    rw [Rat.natCast_add] at this
    grind
  by_cases h0 : a = b
  · subst h0
    rw [Nat.sub_self]
    obtain ⟨a', m, e, hx⟩ := hf1
    have hn : 0 ≤ Rv (cn a) := by
      rw [h1]
      have : (0 : Rat) ≤ (a : Rat) := Rat.natCast_nonneg
      grind
    have hs := (sub_right hx hx).1 (by omega)
    rw [hs]
    have : (a' && !a') = false := by cases a' <;> rfl
    rw [this]
    exact cn_zero
  · rcases sub_spec hf1 hf2 with ⟨h, _⟩ | ⟨neg, W, hr, hX⟩
    · exfalso
      rw [h1, h2] at h
      have : (a : Rat) = (b : Rat) := by grind
      exact h0 (by exact_mod_cast this)
    · refine bits_of hr hc.1 (by decide) (by decide) hX ?_ ?_
      · rw [← hc.2.1, h1, h2, hcast]
        grind
      · rw [h1, h2]
        have hlt : (b : Rat) < (a : Rat) := by exact_mod_cast (Nat.lt_of_le_of_ne hb (fun c => h0 c.symm))
        grind

theorem cn_lt {a b : Nat} (ha : a ≤ 1000) (hb : b ≤ 1000) : (cmp (cn a) (cn b) == some .lt) = decide (a < b) := by
  rw [cmp_rv (cn_fin (by omega)) (cn_fin (by omega)), cn_val (by omega), cn_val (by omega)]
  have e1 : ((a : Rat) / 64 < (b : Rat) / 64) ↔ a < b := by
    constructor
    · intro h
      have : (a : Rat) < (b : Rat) := by grind
      exact_mod_cast this
    · intro h
      have : (a : Rat) < (b : Rat) := by exact_mod_cast h
      grind
  by_cases h : a < b
  · rw [if_pos (e1.mpr h), decide_eq_true h]; rfl
  · rw [if_neg (fun c => h (e1.mp c)), decide_eq_false h]
    split <;> rfl
theorem cn_eq {a b : Nat} (ha : a ≤ 1000) (hb : b ≤ 1000) : (cmp (cn a) (cn b) == some .eq) = decide (a = b) := by
  rw [cmp_rv (cn_fin (by omega)) (cn_fin (by omega)), cn_val (by omega), cn_val (by omega)]
  have e1 : ((a : Rat) / 64 = (b : Rat) / 64) ↔ a = b := by
    constructor
    · intro h
      have : (a : Rat) = (b : Rat) := by grind
      exact_mod_cast this
    · intro h; rw [h]
  by_cases h : a = b
  · subst h
    rw [if_neg (fun c : (a : Rat) / 64 < (a : Rat) / 64 => absurd c (by grind)), if_pos rfl, decide_eq_true rfl]; rfl
  · rw [decide_eq_false h, if_neg (fun c => h (e1.mp c))]
    split <;> rfl

theorem cn_max {a b c : Nat} (ha : a ≤ 1000) (hb : b ≤ 1000) (hc : c ≤ 1000) : max3F (cn a) (cn b) (cn c) = cn (max a (max b c)) := by
  unfold max3F pick3 PySem.Flt.gtB
  rw [cn_lt ha hb, cn_lt hb hc, cn_lt ha hc]
  by_cases h1 : a < b <;> by_cases h2 : b < c <;> by_cases h3 : a < c <;> simp only [h1, h2, h3, decide_true, decide_false, if_true, if_false, Bool.false_eq_true] <;> congr 1 <;> omega
theorem cn_min {a b c : Nat} (ha : a ≤ 1000) (hb : b ≤ 1000) (hc : c ≤ 1000) : min3F (cn a) (cn b) (cn c) = cn (min a (min b c)) := by
  unfold min3F pick3 PySem.Flt.ltB
  rw [cn_lt hb ha, cn_lt hc hb, cn_lt hc ha]
  by_cases h1 : b < a <;> by_cases h2 : c < b <;> by_cases h3 : c < a <;> simp only [h1, h2, h3, decide_true, decide_false, if_true, if_false, Bool.false_eq_true] <;> congr 1 <;> omega
end Mine

/-! part N6 -/
namespace Mine
open PySem.Float64

noncomputable abbrev oneB : UInt64 := 4607182418800017408
theorem one_dec : decode oneB = .fin false (2 ^ 52) (-52) := by with_unfolding_all rfl
theorem mant_lt {x : UInt64} {a : Bool} {m : Nat} {e : Int} (h : decode x = .fin a m e) : m < 2 ^ 53 := by
  unfold decode at h
  simp only at h
  split at h
  · split at h <;> cases h
  · split at h
    · cases h; omega
    · cases h; omega

theorem mod_small {m k e : Nat} (h : m < 2 ^ 53) : m * 2 ^ e % (2 ^ 52 * 2 ^ k) ≤ 2 ^ 53 ∨ (e ≠ 0 ∧ k ≠ 0) := by
  by_cases h1 : e = 0
  · left
    rw [h1, Nat.pow_zero, Nat.mul_one]
    exact Nat.le_trans (Nat.mod_le _ _) (Nat.le_of_lt h)
  · by_cases h2 : k = 0
    · left
      rw [h2, Nat.pow_zero, Nat.mul_one]
      exact Nat.le_trans (Nat.le_of_lt (Nat.mod_lt _ (by decide))) (by decide)
    · exact .inr ⟨h1, h2⟩
set_option maxRecDepth 20000 in
/-- the remainder by one: of P of Q parts -/
theorem fmod_rv {x : UInt64} (hx : Fin x) : ∃ (a : Bool) (P Q : Nat), 0 < Q ∧ Fin (fmod x oneB) ∧ Rv x * (Q : Rat) = sg a * (P : Rat) ∧ Rv (fmod x oneB) * (Q : Rat) = sg a * ((P % Q : Nat) : Rat) := by
  obtain ⟨a, m, e, hd⟩ := hx
  have hv : (val x : Rat) = sg a * ((m * 2 ^ (e + 1074).toNat : Nat) : Rat) := by rw [val_eq hd, sgn_cast]
  have hrv := rv_mul x
  have he := decode_ge hd
  have hf : fmod x oneB = ofBin a (m * 2 ^ (e - min e (-52)).toNat % (2 ^ 52 * 2 ^ (-52 - min e (-52)).toNat)) (min e (-52)) := by
    unfold fmod
    rw [hd, one_dec]
    simp only
    rw [if_neg (by decide)]
    unfold align sgn
    simp only [Bool.false_eq_true, if_false, Int.toNat_natCast]
  have eP : m * 2 ^ (e + 1074).toNat = m * 2 ^ (e - min e (-52)).toNat * 2 ^ (min e (-52) + 1074).toNat := by
    rw [Nat.mul_assoc, ← Nat.pow_add]
    have e1 : (e - min e (-52)).toNat + (min e (-52) + 1074).toNat = (e + 1074).toNat := by omega
    rw [e1]
  have eQ : 2 ^ 52 * 2 ^ (-52 - min e (-52)).toNat * 2 ^ (min e (-52) + 1074).toNat = Kn := by
    rw [Nat.mul_assoc, ← Nat.pow_add, ← Nat.pow_add, Kn_def]
    have e2 : 52 + ((-52 - min e (-52)).toNat + (min e (-52) + 1074).toNat) = 1074 := by omega
    rw [e2]
  have hq : m * 2 ^ (e - min e (-52)).toNat % (2 ^ 52 * 2 ^ (-52 - min e (-52)).toNat) ≤ 2 ^ 53 := by
    rcases mod_small (e := (e - min e (-52)).toNat) (k := (-52 - min e (-52)).toNat) (mant_lt hd) with h | ⟨h1, h2⟩
    · exact h
    · omega
  have hQ : 0 < 2 ^ 52 * 2 ^ (-52 - min e (-52)).toNat := Nat.mul_pos (by decide) (Nat.two_pow_pos _)
  have hj : (min e (-52) + 1074).toNat ≤ 1900 := by omega
  have hR0 : ∀ q, Right (ofBin a q (min e (-52))) a (q * 2 ^ (min e (-52) + 1074).toNat) 1 := by
    intro q
    unfold ofBin
    refine ofFrac_right (n := (shift q 1 (min e (-52))).1) (d := (shift q 1 (min e (-52))).2) (shift_pos _ _ _ (by decide)) ?_ (by decide)
    have := shift_one q (min e (-52)) 1074 (by omega)
    exact (Nat.mul_one _).trans this
  rw [eP] at hv
  clear eP he hd
  rw [hf]
  generalize m * 2 ^ (e - min e (-52)).toNat = P at *
  generalize 2 ^ 52 * 2 ^ (-52 - min e (-52)).toNat = Q at *
  generalize (min e (-52) + 1074).toNat = j at *
  have hR := hR0 (P % Q)
  obtain ⟨t, ht, hp, hV⟩ := right_exact (q := P % Q) (j := j) hR (by decide) hq (by rw [Nat.one_mul]) hj
  obtain ⟨m', e', hdec, _⟩ := decode_pack a ht
  have hU : ((2 ^ j : Nat) : Rat) ≠ 0 := by
    have : (0 : Rat) < ((2 ^ j : Nat) : Rat) := by exact_mod_cast Nat.two_pow_pos j
    exact fun c => by rw [c] at this; exact absurd this (by decide)
  have hK : Kr = (Q : Rat) * ((2 ^ j : Nat) : Rat) := by unfold Kr; rw [← eQ, Rat.natCast_mul]
  have hv2 : (val (pack a t) : Rat) = sg a * (((P % Q) * 2 ^ j : Nat) : Rat) := by rw [val_pack a ht, hV, sgn_cast]
  have hrv2 := rv_mul (pack a t)
  rw [hv2, hK, Rat.natCast_mul] at hrv2
  rw [hv, hK, Rat.natCast_mul] at hrv
  clear hv hv2 hV hR hR0 hf hj hq eQ hK
  refine ⟨a, P, Q, hQ, ⟨?_, ?_⟩⟩
  · rw [hp]; exact ⟨_, _, _, hdec⟩
  · rw [hp]
    clear hp hdec
    generalize ((2 ^ j : Nat) : Rat) = U at *
    have can : ∀ {y z : Rat}, y * U = z * U → y = z := fun {y z} h => by grind
    exact ⟨can (by rw [Rat.mul_assoc, hrv, Rat.mul_assoc]), can (by rw [Rat.mul_assoc, hrv2, Rat.mul_assoc])⟩
theorem sg_pos {a : Bool} {P : Nat} {y : Rat} (h : y = sg a * (P : Rat)) (h0 : 0 < y) : a = false := pos_sign h h0
theorem fmod_small {x : UInt64} (hx : Fin x) (h1 : Rv x < 1) (h2 : -1 < Rv x) : Fin (fmod x oneB) ∧ Rv (fmod x oneB) = Rv x := by
  obtain ⟨a, P, Q, hQ, hf, e1, e2⟩ := fmod_rv hx
  have hq : (0 : Rat) < (Q : Rat) := by exact_mod_cast hQ
  have b1 := Rat.mul_lt_mul_of_pos_right h1 hq
  have b2 := Rat.mul_lt_mul_of_pos_right h2 hq
  rw [e1] at b1 b2
  have hlt : (P : Rat) < (Q : Rat) := by
    cases a
    · have e : sg false * (P : Rat) = P := by show (1 : Rat) * _ = _; rw [Rat.one_mul]
      rw [e] at b1; grind
    · have e : sg true * (P : Rat) = -P := by show (-1 : Rat) * _ = _; grind
      rw [e] at b2; grind
  have hlt : P < Q := by exact_mod_cast hlt
  rw [Nat.mod_eq_of_lt hlt, ← e1] at e2
  exact ⟨hf, by grind⟩
theorem fmod_big {x : UInt64} (hx : Fin x) (h1 : 1 ≤ Rv x) (h2 : Rv x < 2) : Fin (fmod x oneB) ∧ Rv (fmod x oneB) = Rv x - 1 := by
  obtain ⟨a, P, Q, hQ, hf, e1, e2⟩ := fmod_rv hx
  have hq : (0 : Rat) < (Q : Rat) := by exact_mod_cast hQ
  have b1 := Rat.mul_le_mul_of_nonneg_right h1 (Rat.le_of_lt hq)
  have b2 := Rat.mul_lt_mul_of_pos_right h2 hq
  have ha := sg_pos e1 (by grind)
  subst ha
  have e : ∀ y : Rat, sg false * y = y := fun y => by show (1 : Rat) * _ = _; rw [Rat.one_mul]
  rw [e] at e1 e2
  rw [e1] at b1 b2
  have p1 : Q ≤ P := by
    have : (Q : Rat) ≤ (P : Rat) := by grind
    exact_mod_cast this
  have p2 : P < 2 * Q := by
    have : (P : Rat) < ((2 * Q : Nat) : Rat) := by rw [Rat.natCast_mul]; exact b2
    exact_mod_cast this
  rw [Nat.mod_eq_sub_mod p1, Nat.mod_eq_of_lt (by omega)] at e2
  have hc : ((P - Q : Nat) : Rat) + (Q : Rat) = (P : Rat) := by rw [← Rat.natCast_add, Nat.sub_add_cancel p1]
  refine ⟨hf, ?_⟩
  clear b1 b2 p1 p2 h1 h2
  grind

theorem one_rv : Fin oneB ∧ Rv oneB = 1 := by
  have h := const_rv 52 one_dec (by decide)
  refine ⟨h.1, ?_⟩
  have h2 : Rv oneB * ((2 ^ 52 : Nat) : Rat) = 1 * ((2 ^ 52 : Nat) : Rat) := h.2
  have h3 : ((2 ^ 52 : Nat) : Rat) = 4503599627370496 := rfl
  rw [h3] at h2
  grind
theorem copy_zero : copysign (zero false) oneB = zero false := by decide +kernel
theorem lt_one : lt oneB (zero false) = false := by decide +kernel

theorem modF_eq (x : UInt64) : modF x = if isZero (fmod x oneB) then zero false else if lt (fmod x oneB) (zero false) then add (fmod x oneB) oneB else fmod x oneB := by
  unfold modF divmod
  simp only [copy_zero, lt_one]
  by_cases h : isZero (fmod x oneB) = true
  · rw [if_pos h, if_pos h]
  · rw [if_neg h, if_neg h]
    cases h2 : lt (fmod x oneB) (zero false)
    · simp only [bne_self_eq_false, Bool.false_eq_true, if_false]
    · simp only [Bool.false_bne, if_true]

/-- what the remainder by one makes of a small number -/
theorem modF_pos {x : UInt64} (hx : Fin x) (h1 : Rv x < 1) (h2 : 0 ≤ Rv x) : Fin (modF x) ∧ Rv (modF x) = Rv x := by
  obtain ⟨hf, hv⟩ := fmod_small hx h1 (by grind)
  rw [modF_eq]
  by_cases h : isZero (fmod x oneB) = true
  · rw [if_pos h]
    refine ⟨(fin_zero _).1, ?_⟩
    rw [(fin_zero _).2, ← hv]
    by_cases c : Rv (fmod x oneB) = 0
    · exact c.symm
    · rw [isZero_rv hf c] at h; cases h
  · rw [if_neg h]
    have hl : lt (fmod x oneB) (zero false) = false := by
      unfold lt
      rw [cmp_rv hf (fin_zero _).1, (fin_zero _).2, hv]
      rw [if_neg (by grind)]
      split <;> rfl
    rw [hl, if_neg (by decide)]
    exact ⟨hf, hv⟩
theorem modF_neg {x : UInt64} (hx : Fin x) (h1 : -1 < Rv x) (h2 : Rv x < 0) : Near (modF x) (Rv x + 1) (u 0) := by
  obtain ⟨hf, hv⟩ := fmod_small hx (by grind) h1
  rw [modF_eq]
  have hz : isZero (fmod x oneB) = false := isZero_rv hf (by rw [hv]; grind)
  rw [hz, if_neg (by decide)]
  have hl : lt (fmod x oneB) (zero false) = true := by
    unfold lt
    rw [cmp_rv hf (fin_zero _).1, (fin_zero _).2, hv, if_pos h2]
    rfl
  rw [if_pos hl, ← hv]
  have ho := one_rv
  have h3 := add_near 0 hf ho.1 (by rw [hv, ho.2]; show _ ≤ (1 : Rat); grind) (by rw [hv, ho.2]; show -(1 : Rat) ≤ _; grind) (by decide)
  rw [ho.2] at h3
  exact h3
end Mine

/-! part N7 -/
namespace Mine
open PySem.Float64

/-- p of q -/
noncomputable def F (p q : Nat) : UInt64 := div (cn p) (cn q)

theorem pow1074 : (2 : Nat) ^ 1074 = 64 * 2 ^ 1068 := by
  rw [show (1074 : Nat) = 6 + 1068 from rfl, Nat.pow_add]
theorem scale64 (n : Nat) : n * 2 ^ 1074 = 64 * (n * 2 ^ 1068) := by
  rw [pow1074, Nat.mul_left_comm]
theorem cn_dec {n : Nat} (h : n ≤ 2 ^ 53) : ∃ m e, decode (cn n) = .fin false m e := by
  obtain ⟨t, ht, hp, _⟩ := right_exact (q := n) (j := 1068) (cn_rv h).1 (by decide) h (scale64 n) (by decide)
  obtain ⟨m, e, hd, _⟩ := decode_pack false ht
  exact ⟨m, e, by unfold cn; rw [hp]; exact hd⟩

theorem F_right {p q : Nat} (hp : p ≤ 64) (hq : 0 < q) (hq2 : q ≤ 64) : ∃ W D, 0 < D ∧ Right (F p q) false W D ∧ (W : Rat) * (q : Rat) = (p : Rat) * (D : Rat) * Kr := by
  obtain ⟨m, e, hx⟩ := cn_dec (n := p) (by omega)
  obtain ⟨k, f, hy⟩ := cn_dec (n := q) (by omega)
  have h1 := rv_mul (cn p)
  have h2 := rv_mul (cn q)
  rw [cn_val (by omega), fin_sign hx] at h1
  rw [cn_val (by omega), fin_sign hy] at h2
  have hqr : (0 : Rat) < (q : Rat) := by exact_mod_cast hq
  have hk : k ≠ 0 := fun c => by
    have h3 : (val (cn q)).natAbs = 0 := by rw [val_natAbs hy, c, Nat.zero_mul]
    rw [h3] at h2
    have h4 : (q : Rat) / 64 * Kr = 0 := by rw [h2]; show _ * (0 : Rat) = 0; grind
    rcases Rat.mul_eq_zero.mp h4 with h | h
    · grind
    · exact Kr_ne h
  have hr := div_right hx hy hk
  refine ⟨_, _, ?_, hr, ?_⟩
  · have := val_natAbs hy
    have h5 : 0 < k * 2 ^ (f + 1074).toNat := Nat.mul_pos (by omega) (Nat.two_pow_pos _)
    omega
  · rw [Rat.natCast_mul]
    show _ * Kr * _ = _
    have e1 : (((val (cn p)).natAbs : Nat) : Rat) = (p : Rat) / 64 * Kr := by rw [h1]; show _ = (1 : Rat) * _; rw [Rat.one_mul]
    have e2 : (((val (cn q)).natAbs : Nat) : Rat) = (q : Rat) / 64 * Kr := by rw [h2]; show _ = (1 : Rat) * _; rw [Rat.one_mul]
    rw [e1, e2]
    grind

/-- equal fractions, equal floats -/
theorem F_ratio {p q p' q' : Nat} (hp : p ≤ 64) (hq : 0 < q) (hq2 : q ≤ 64) (hp' : p' ≤ 64) (hq' : 0 < q') (hq2' : q' ≤ 64) (e : p * q' = p' * q) : F p q = F p' q' := by
  obtain ⟨W, D, hD, hr, h⟩ := F_right hp hq hq2
  obtain ⟨W', D', hD', hr', h'⟩ := F_right hp' hq' hq2'
  refine right_unique hr hr' hD hD' ?_
  have hqr : (0 : Rat) < (q : Rat) := by exact_mod_cast hq
  have hqr' : (0 : Rat) < (q' : Rat) := by exact_mod_cast hq'
  have e2 : (p : Rat) * (q' : Rat) = (p' : Rat) * (q : Rat) := by exact_mod_cast e
  have h3 : (W : Rat) * (D' : Rat) = (W' : Rat) * (D : Rat) := by
    have h4 : ((q : Rat) * (q' : Rat)) * ((W : Rat) * (D' : Rat)) = ((q : Rat) * (q' : Rat)) * ((W' : Rat) * (D : Rat)) := by
      calc ((q : Rat) * (q' : Rat)) * ((W : Rat) * (D' : Rat)) = ((W : Rat) * (q : Rat)) * ((q' : Rat) * (D' : Rat)) := by grind
        _ = ((p : Rat) * (D : Rat) * Kr) * ((q' : Rat) * (D' : Rat)) := by rw [h]
        _ = ((p : Rat) * (q' : Rat)) * ((D : Rat) * (D' : Rat) * Kr) := by grind
        _ = ((p' : Rat) * (q : Rat)) * ((D : Rat) * (D' : Rat) * Kr) := by rw [e2]
        _ = ((p' : Rat) * (D' : Rat) * Kr) * ((q : Rat) * (D : Rat)) := by grind
        _ = ((W' : Rat) * (q' : Rat)) * ((q : Rat) * (D : Rat)) := by rw [h']
        _ = ((q : Rat) * (q' : Rat)) * ((W' : Rat) * (D : Rat)) := by grind
    have hpos := Rat.mul_pos hqr hqr'
    exact Rat.le_antisymm (cancel_le hpos (by rw [h4]; exact Rat.le_refl)) (cancel_le hpos (by rw [h4]; exact Rat.le_refl))
  have h5 : ((W * D' : Nat) : Rat) = ((W' * D : Nat) : Rat) := by rw [Rat.natCast_mul, Rat.natCast_mul]; exact h3
  exact_mod_cast h5

theorem F_near {p q : Nat} (hp : p ≤ q) (hq : 0 < q) (hq2 : q ≤ 64) : Near (F p q) ((p : Rat) / (q : Rat)) (u 0) := by
  have hqr : (0 : Rat) < (q : Rat) := by exact_mod_cast hq
  have hpr : (0 : Rat) ≤ (p : Rat) := Rat.natCast_nonneg
  have hpq : (p : Rat) ≤ (q : Rat) := by exact_mod_cast hp
  have hne : (q : Rat) ≠ 0 := fun c => by rw [c] at hqr; exact absurd hqr (by decide)
  have hm : (p : Rat) / (q : Rat) * (q : Rat) = (p : Rat) := rat_div_mul hne
  generalize (p : Rat) / (q : Rat) = X at *
  have b1 : X ≤ 1 := Rat.le_of_mul_le_mul_right (c := (q : Rat)) (by rw [hm, Rat.one_mul]; exact hpq) hqr
  have b0 : 0 ≤ X := Rat.le_of_mul_le_mul_right (c := (q : Rat)) (by rw [hm, Rat.zero_mul]; exact hpr) hqr
  refine div_near 0 (cn_fin (by omega)) (cn_fin (by omega)) ?_ ?_ b1 ?_ (by decide)
  · rw [cn_val (by omega)]; grind
  · rw [cn_val (by omega), cn_val (by omega), ← hm]; grind
  · show -(1 : Rat) ≤ X
    grind

noncomputable def O : UInt64 := F 1 1
theorem F_same {q : Nat} (hq : 0 < q) (hq2 : q ≤ 64) : F q q = O := F_ratio hq2 hq hq2 (by decide) (by decide) (by decide) (by omega)
theorem O_rv : Fin O ∧ Rv O = 1 := by
  obtain ⟨W, D, hD, hr, h⟩ := F_right (p := 1) (q := 1) (by decide) (by decide) (by decide)
  refine exact_of (q := 1) 0 hr hD ?_ (by decide) (by decide) ?_
  · show 1 * ((D : Rat) * Kr) = 1 * (W : Rat)
    have e : ((1 : Nat) : Rat) = 1 := rfl
    rw [e] at h
    grind
  · show (1 : Rat) * 1 = 1 * 1
    rfl
end Mine

/-! part N8 -/
namespace Mine
open PySem.Float64

noncomputable abbrev twoB : UInt64 := 4611686018427387904
noncomputable abbrev fourB : UInt64 := 4616189618054758400
noncomputable abbrev sixB : UInt64 := 4618441417868443648
noncomputable abbrev halfB : UInt64 := 4602678819172646912
theorem two_rv : Fin twoB ∧ Rv twoB = 2 := by
  have h := const_rv (c := twoB) (neg := false) (m := 2 ^ 52) 51 (by with_unfolding_all rfl) (by decide)
  refine ⟨h.1, ?_⟩
  have h2 : Rv twoB * ((2 ^ 51 : Nat) : Rat) = 1 * ((2 ^ 52 : Nat) : Rat) := h.2
  have h3 : ((2 ^ 52 : Nat) : Rat) = 4503599627370496 := rfl
  have h4 : ((2 ^ 51 : Nat) : Rat) = 2251799813685248 := rfl
  rw [h3, h4] at h2
  grind
theorem four_rv : Fin fourB ∧ Rv fourB = 4 := by
  have h := const_rv (c := fourB) (neg := false) (m := 2 ^ 52) 50 (by with_unfolding_all rfl) (by decide)
  refine ⟨h.1, ?_⟩
  have h2 : Rv fourB * ((2 ^ 50 : Nat) : Rat) = 1 * ((2 ^ 52 : Nat) : Rat) := h.2
  have h3 : ((2 ^ 52 : Nat) : Rat) = 4503599627370496 := rfl
  have h4 : ((2 ^ 50 : Nat) : Rat) = 1125899906842624 := rfl
  rw [h3, h4] at h2
  grind
theorem six_rv : Fin sixB ∧ Rv sixB = 6 := by
  have h := const_rv (c := sixB) (neg := false) (m := 6755399441055744) 50 (by with_unfolding_all rfl) (by decide)
  refine ⟨h.1, ?_⟩
  have h2 : Rv sixB * ((2 ^ 50 : Nat) : Rat) = 1 * ((6755399441055744 : Nat) : Rat) := h.2
  have h3 : ((6755399441055744 : Nat) : Rat) = 6755399441055744 := rfl
  have h4 : ((2 ^ 50 : Nat) : Rat) = 1125899906842624 := rfl
  rw [h3, h4] at h2
  grind
theorem half_rv : Fin halfB ∧ Rv halfB = 1 / 2 := by
  have h := const_rv (c := halfB) (neg := false) (m := 2 ^ 52) 53 (by with_unfolding_all rfl) (by decide)
  refine ⟨h.1, ?_⟩
  have h2 : Rv halfB * ((2 ^ 53 : Nat) : Rat) = 1 * ((2 ^ 52 : Nat) : Rat) := h.2
  have h3 : ((2 ^ 52 : Nat) : Rat) = 4503599627370496 := rfl
  have h4 : ((2 ^ 53 : Nat) : Rat) = 9007199254740992 := rfl
  rw [h3, h4] at h2
  grind

/-- 10 to the -15 -/
noncomputable def e15 : Rat := 1 / 1000000000000000
theorem e15_pos : 0 < e15 := by unfold e15; grind
theorem u_eq (k : Nat) : u k * 9007199254740992 = p2 k := by
  have h1 : u k * ((2 ^ 53 : Nat) : Rat) = p2 k := rat_div_mul (by decide)
  exact h1
theorem p2_0 : p2 0 = 1 := rfl
theorem p2_1 : p2 1 = 2 := rfl
theorem p2_2 : p2 2 = 4 := rfl
theorem p2_3 : p2 3 = 8 := rfl
theorem u0_le : u 0 ≤ e15 := by have := u_eq 0; rw [p2_0] at this; unfold e15; grind
theorem u3_le : u 3 ≤ e15 := by have := u_eq 3; rw [p2_3] at this; unfold e15; grind

theorem Near.mono {r : UInt64} {X Y E E' : Rat} (h : Near r X E) (h1 : X - Y ≤ E' - E) (h2 : Y - X ≤ E' - E) : Near r Y E' := by
  obtain ⟨hf, a, b⟩ := h
  refine ⟨hf, ?_, ?_⟩ <;> grind

theorem add_n {x y : UInt64} {X Y E E' : Rat} (hx : Near x X E) (hy : Near y Y E') (h1 : X + Y + E + E' ≤ 8) (h2 : -8 ≤ X + Y - E - E') : Near (add x y) (X + Y) (E + E' + e15) := by
  obtain ⟨fx, a1, a2⟩ := hx
  obtain ⟨fy, b1, b2⟩ := hy
  have h3 := add_near 3 fx fy (by rw [p2_3]; grind) (by rw [p2_3]; grind) (by decide)
  have h4 := u3_le
  obtain ⟨f, c1, c2⟩ := h3
  refine ⟨f, ?_, ?_⟩ <;> grind
theorem sub_n {x y : UInt64} {X Y E E' : Rat} (hx : Near x X E) (hy : Near y Y E') (h1 : X - Y + E + E' ≤ 8) (h2 : -8 ≤ X - Y - E - E') : Near (sub x y) (X - Y) (E + E' + e15) := by
  obtain ⟨fx, a1, a2⟩ := hx
  obtain ⟨fy, b1, b2⟩ := hy
  have h3 := sub_near 3 fx fy (by rw [p2_3]; grind) (by rw [p2_3]; grind) (by decide)
  have h4 := u3_le
  obtain ⟨f, c1, c2⟩ := h3
  refine ⟨f, ?_, ?_⟩ <;> grind
theorem exact_n {x : UInt64} {X : Rat} (h : Fin x ∧ Rv x = X) : Near x X 0 := by
  refine ⟨h.1, ?_, ?_⟩ <;> rw [h.2] <;> grind
theorem div6_n {x : UInt64} {X E : Rat} (hx : Near x X E) (h1 : X + E ≤ 40) (h2 : -40 ≤ X - E) : Near (div x sixB) (X / 6) (E + e15) := by
  obtain ⟨fx, a1, a2⟩ := hx
  have h6 := six_rv
  have h3 := div_near (X := Rv x / 6) 3 fx h6.1 (by rw [h6.2]; grind) (by rw [h6.2]; grind) (by rw [p2_3]; grind) (by rw [p2_3]; grind) (by decide)
  have h4 := u3_le
  obtain ⟨f, c1, c2⟩ := h3
  have hE : 0 ≤ E := by grind
  refine ⟨f, ?_, ?_⟩ <;> grind
/-! sums and products -/
theorem prod_bound {a b c d : Rat} (h1 : a ≤ c) (h2 : -c ≤ a) (h3 : b ≤ d) (h4 : -d ≤ b) : a * b ≤ c * d ∧ -(c * d) ≤ a * b := by
  have e1 := Rat.mul_nonneg (show 0 ≤ c - a by grind) (show 0 ≤ d + b by grind)
  have e2 := Rat.mul_nonneg (show 0 ≤ c + a by grind) (show 0 ≤ d - b by grind)
  have e3 := Rat.mul_nonneg (show 0 ≤ c - a by grind) (show 0 ≤ d - b by grind)
  have e4 := Rat.mul_nonneg (show 0 ≤ c + a by grind) (show 0 ≤ d + b by grind)
  constructor
  · have e : (c - a) * (d + b) + (c + a) * (d - b) = 2 * (c * d) - 2 * (a * b) := by grind
    grind
  · have e : (c - a) * (d - b) + (c + a) * (d + b) = 2 * (c * d) + 2 * (a * b) := by grind
    grind
/-- near X, and how large X is -/
structure NB (r : UInt64) (X E A : Rat) : Prop where
  n : Near r X E
  lo : -A ≤ X
  hi : X ≤ A
theorem NB.add {x y : UInt64} {X Y E E' A B : Rat} (k : Nat) (A'' E'' : Rat) (hx : NB x X E A) (hy : NB y Y E' B) (h : k ≤ 800 ∧ A + B + E + E' ≤ p2 k ∧ E + E' + u k ≤ E'' ∧ A + B ≤ A'') : NB (add x y) (X + Y) E'' A'' := by
  obtain ⟨⟨fx, x1, x2⟩, x3, x4⟩ := hx
  obtain ⟨⟨fy, y1, y2⟩, y3, y4⟩ := hy
  obtain ⟨hk, h1, h2, h3⟩ := h
  obtain ⟨f, c1, c2⟩ := add_near k fx fy (by grind) (by grind) hk
  refine ⟨⟨f, ?_, ?_⟩, ?_, ?_⟩ <;> grind
theorem NB.sub {x y : UInt64} {X Y E E' A B : Rat} (k : Nat) (A'' E'' : Rat) (hx : NB x X E A) (hy : NB y Y E' B) (h : k ≤ 800 ∧ A + B + E + E' ≤ p2 k ∧ E + E' + u k ≤ E'' ∧ A + B ≤ A'') : NB (sub x y) (X - Y) E'' A'' := by
  obtain ⟨⟨fx, x1, x2⟩, x3, x4⟩ := hx
  obtain ⟨⟨fy, y1, y2⟩, y3, y4⟩ := hy
  obtain ⟨hk, h1, h2, h3⟩ := h
  obtain ⟨f, c1, c2⟩ := sub_near k fx fy (by grind) (by grind) hk
  refine ⟨⟨f, ?_, ?_⟩, ?_, ?_⟩ <;> grind
theorem NB.mul {x y : UInt64} {X Y E E' A B : Rat} (k : Nat) (A'' E'' : Rat) (hx : NB x X E A) (hy : NB y Y E' B) (h : k ≤ 800 ∧ (A + E) * (B + E') ≤ p2 k ∧ (A + E) * E' + B * E + u k ≤ E'' ∧ A * B ≤ A'') : NB (mul x y) (X * Y) E'' A'' := by
  obtain ⟨⟨fx, x1, x2⟩, x3, x4⟩ := hx
  obtain ⟨⟨fy, y1, y2⟩, y3, y4⟩ := hy
  obtain ⟨hk, h1, h2, h3⟩ := h
  have q1 := prod_bound (a := Rv x) (b := Rv y) (c := A + E) (d := B + E') (by grind) (by grind) (by grind) (by grind)
  have q2 := prod_bound (a := Rv x) (b := Rv y - Y) (c := A + E) (d := E') (by grind) (by grind) (by grind) (by grind)
  have q3 := prod_bound (a := Y) (b := Rv x - X) (c := B) (d := E) (by grind) (by grind) (by grind) (by grind)
  have q4 := prod_bound x4 x3 y4 y3
  obtain ⟨f, c1, c2⟩ := mul_near k fx fy (by grind) (by grind) hk
  have e : Rv x * Rv y - X * Y = Rv x * (Rv y - Y) + Y * (Rv x - X) := by grind
  clear x1 x2 x3 x4 y1 y2 y3 y4 h1
  refine ⟨⟨f, ?_, ?_⟩, ?_, ?_⟩ <;> grind
theorem Near.to {r : UInt64} {X Y E E' : Rat} (h : Near r X E) (h1 : X = Y) (h2 : E ≤ E') : Near r Y E' := by
  subst h1
  exact h.mono (by grind) (by grind)
theorem NB.up {r : UInt64} {X Y E E' A A' : Rat} (h : NB r X E A) (e : X = Y) (h2 : E ≤ E' ∧ A ≤ A') : NB r Y E' A' := by
  subst e
  obtain ⟨n, a, b⟩ := h
  exact ⟨n.to rfl h2.1, by grind, by grind⟩
/-- a smaller bound, where it is known -/
theorem NB.tight {r : UInt64} {X E A A' : Rat} (h : NB r X E A) (h1 : -A' ≤ X) (h2 : X ≤ A') : NB r X E A' := ⟨h.n, h1, h2⟩
theorem nb_ex {x : UInt64} {X A : Rat} (h : Fin x ∧ Rv x = X) (h1 : -A ≤ X) (h2 : X ≤ A) : NB x X 0 A := ⟨exact_n h, h1, h2⟩
theorem nb_const {x : UInt64} {X E : Rat} (A : Rat) (h : Near x X E) (h1 : -A ≤ X ∧ X ≤ A) : NB x X E A := ⟨h, h1.1, h1.2⟩
theorem nb_unit {x : UInt64} {X E : Rat} (h : Near x X E) (h0 : 0 ≤ X) (h1 : X ≤ 1) : NB x X E 1 := ⟨h, by grind, h1⟩

end Mine

/-! part N9 -/
namespace Mine
open PySem.Float64

/-- the raw hue by sector, of the fraction f -/
noncomputable def hs (s : Nat) (f : UInt64) : UInt64 := match s with
  | 0 => sub O f
  | 1 => sub (add twoB f) O
  | 2 => sub (add twoB O) f
  | 3 => sub (add fourB f) O
  | 4 => sub (add fourB O) f
  | _ => sub f O
noncomputable def hueS (s : Nat) (f : UInt64) : UInt64 := modF (div (hs s f) sixB)
/-- the exact one, in sixths of the turn -/
noncomputable def hx (s : Nat) (φ : Rat) : Rat := match s with
  | 0 => 1 - φ
  | 1 => 1 + φ
  | 2 => 3 - φ
  | 3 => 3 + φ
  | 4 => 5 - φ
  | _ => 5 + φ

theorem e15_small : e15 * 1000000000000000 = 1 := by unfold e15; grind

theorem hs_near {s : Nat} {f : UInt64} {φ : Rat} (hf : Near f φ e15) (h0 : 0 ≤ φ) (h1 : φ ≤ 1) (h : s ≤ 4) : Near (hs s f) (hx s φ) (3 * e15) := by
  have ho := nb_ex (A := 1) O_rv (by decide +kernel) (by decide +kernel)
  have h2 := nb_ex (A := 2) two_rv (by decide +kernel) (by decide +kernel)
  have h4 := nb_ex (A := 4) four_rv (by decide +kernel) (by decide +kernel)
  have hf := nb_unit hf h0 h1
  clear h0 h1
  have hs : s = 0 ∨ s = 1 ∨ s = 2 ∨ s = 3 ∨ s = 4 := by omega
  rcases hs with rfl | rfl | rfl | rfl | rfl
  · exact (NB.sub 3 2 (3 * e15) ho hf (by decide +kernel)).n
  · exact (NB.sub 3 4 (3 * e15) (NB.add 2 3 (2 * e15) h2 hf (by decide +kernel)) ho (by decide +kernel)).n.to (show 2 + φ - 1 = 1 + φ by grind) Rat.le_refl
  · exact (NB.sub 3 4 (3 * e15) (NB.add 2 3 e15 h2 ho (by decide +kernel)) hf (by decide +kernel)).n.to (show 2 + 1 - φ = 3 - φ by grind) Rat.le_refl
  · exact (NB.sub 3 6 (3 * e15) (NB.add 3 5 (2 * e15) h4 hf (by decide +kernel)) ho (by decide +kernel)).n.to (show 4 + φ - 1 = 3 + φ by grind) Rat.le_refl
  · exact (NB.sub 3 6 (3 * e15) (NB.add 3 5 e15 h4 ho (by decide +kernel)) hf (by decide +kernel)).n.to (show 4 + 1 - φ = 5 - φ by grind) Rat.le_refl
theorem hs5_near {f : UInt64} {φ : Rat} (hf : Near f φ e15) (h0 : 0 ≤ φ) (h1 : φ ≤ 1) : Near (hs 5 f) (φ - 1) (3 * e15) :=
  (NB.sub 3 2 (3 * e15) (nb_unit hf h0 h1) (nb_ex (A := 1) O_rv (by decide +kernel) (by decide +kernel)) (by decide +kernel)).n

/-- the fraction as a rational lies in 0 to 1; it is 1 or at most 63/64 -/
theorem frac_bounds {p q : Nat} (hp : p ≤ q) (hq : 0 < q) (hq2 : q ≤ 64) : 0 ≤ (p : Rat) / (q : Rat) ∧ (p : Rat) / (q : Rat) ≤ 1 ∧ (p < q → (p : Rat) / (q : Rat) ≤ 63 / 64) := by
  have hqr : (0 : Rat) < (q : Rat) := by exact_mod_cast hq
  have hq64 : (q : Rat) ≤ 64 := by exact_mod_cast hq2
  have hpr : (0 : Rat) ≤ (p : Rat) := Rat.natCast_nonneg
  have hpq : (p : Rat) ≤ (q : Rat) := by exact_mod_cast hp
  have hne : (q : Rat) ≠ 0 := fun c => by rw [c] at hqr; exact absurd hqr (by decide)
  have hm : (p : Rat) / (q : Rat) * (q : Rat) = (p : Rat) := rat_div_mul hne
  generalize (p : Rat) / (q : Rat) = X at *
  refine ⟨?_, ?_, fun hlt => ?_⟩
  · exact Rat.le_of_mul_le_mul_right (c := (q : Rat)) (by rw [hm, Rat.zero_mul]; exact hpr) hqr
  · exact Rat.le_of_mul_le_mul_right (c := (q : Rat)) (by rw [hm, Rat.one_mul]; exact hpq) hqr
  · have h1 : ((p + 1 : Nat) : Rat) ≤ (q : Rat) := by exact_mod_cast hlt
    rw [Rat.natCast_add] at h1
    have h2 : ((1 : Nat) : Rat) = 1 := rfl
    rw [h2] at h1
    refine Rat.le_of_mul_le_mul_right (c := (q : Rat)) ?_ hqr
    rw [hm]
    grind

theorem sub_self_zero {x : UInt64} (hx : Fin x) : Fin (sub x x) ∧ Rv (sub x x) = 0 := by
  obtain ⟨a, m, e, hd⟩ := hx
  rw [(sub_right hd hd).1 (by omega)]
  exact fin_zero _

theorem div6_zero {x : UInt64} (hx : Fin x ∧ Rv x = 0) : Fin (div x sixB) ∧ Rv (div x sixB) = 0 := by
  have h6 := six_rv
  obtain ⟨neg, W, D, hD, hr, hX⟩ := div_spec (X := 0) hx.1 h6.1 (by rw [h6.2]; grind) (by rw [hx.2]; grind)
  refine exact_of (q := 0) 0 hr hD hX (by decide) (by decide) ?_
  show (0 : Rat) * 1 = sg neg * 0
  grind

theorem rat_lt_le {a b c : Rat} (h : a < b) (k : b ≤ c) : a < c := by grind
theorem rat_le_lt {a b c : Rat} (h : a ≤ b) (k : b < c) : a < c := by grind
theorem hx_bounds {s p q : Nat} (s5 : s ≤ 5) (hpq : p ≤ q) (q0 : 0 < q) (q64 : q ≤ 64) (hlt : s = 5 → p < q) : 0 ≤ hx s ((p : Rat) / (q : Rat)) ∧ hx s ((p : Rat) / (q : Rat)) ≤ 6 - 1 / 64 ∧ (¬ (s = 0 ∧ p = q) → 1 / 64 ≤ hx s ((p : Rat) / (q : Rat))) := by
  obtain ⟨b0, b1, b2⟩ := frac_bounds hpq q0 q64
  have h6 : s = 0 ∨ s = 1 ∨ s = 2 ∨ s = 3 ∨ s = 4 ∨ s = 5 := by omega
  clear q0 q64 s5
  generalize (p : Rat) / (q : Rat) = φ at *
  rcases h6 with rfl | rfl | rfl | rfl | rfl | rfl <;> simp only [hx]
  · refine ⟨by grind, by grind, fun c => ?_⟩
    have := b2 (Nat.lt_of_le_of_ne hpq (fun e => c (by simp [e])))
    grind
  · refine ⟨by grind, by grind, fun c => by grind⟩
  · refine ⟨by grind, by grind, fun c => by grind⟩
  · refine ⟨by grind, by grind, fun c => by grind⟩
  · refine ⟨by grind, by grind, fun c => by grind⟩
  · have := b2 (hlt rfl)
    refine ⟨by grind, by grind, fun c => by grind⟩
theorem near_in {x : UInt64} {X E a b : Rat} (h : Near x X E) (h1 : a + E < X) (h2 : X < b - E) : a < Rv x ∧ Rv x < b := by
  obtain ⟨_, x1, x2⟩ := h
  constructor <;> grind
theorem F_n {p q : Nat} (hp : p ≤ q) (hq : 0 < q) (hq2 : q ≤ 64) : Near (F p q) ((p : Rat) / (q : Rat)) e15 := (F_near hp hq hq2).to rfl u0_le
theorem same_div {p : Nat} (hp : 0 < p) : (p : Rat) / (p : Rat) = 1 := by
  have hne : (p : Rat) ≠ 0 := fun c => by
    have : p = 0 := by exact_mod_cast c
    omega
  have := rat_div_mul (a := (p : Rat)) hne
  grind
/-- the hue of a sector, its place in the turn -/
theorem hueS_near {s p q : Nat} (hs4 : s ≤ 4) (hp : p ≤ q) (hq : 0 < q) (hq2 : q ≤ 64) : Near (hueS s (F p q)) (hx s ((p : Rat) / (q : Rat)) / 6) (5 * e15) ∧ 0 ≤ Rv (hueS s (F p q)) ∧ Rv (hueS s (F p q)) < 1 := by
  obtain ⟨b0, b1, _⟩ := frac_bounds hp hq hq2
  obtain ⟨c0, c1, c2⟩ := hx_bounds (show s ≤ 5 by omega) hp hq hq2 (fun e => by omega)
  by_cases hz : s = 0 ∧ p = q
  · obtain ⟨rfl, rfl⟩ := hz
    have h1 : hs 0 (F p p) = sub O O := by show sub O (F p p) = sub O O; rw [F_same hq hq2]
    have h2 := div6_zero (sub_self_zero O_rv.1)
    have h3 := modF_pos h2.1 (by rw [h2.2]; decide) (by rw [h2.2]; decide)
    have h4 : hueS 0 (F p p) = modF (div (sub O O) sixB) := by unfold hueS; rw [h1]
    rw [h4, same_div hq, h3.2, h2.2]
    exact ⟨(exact_n ⟨h3.1, h3.2.trans h2.2⟩).to (by show (0 : Rat) = (1 - 1) / 6; decide +kernel) (by decide +kernel), by decide, by decide⟩
  · have h1 := hs_near (F_n hp hq hq2) b0 b1 hs4
    have c2 := c2 hz
    unfold hueS
    generalize hs s (F p q) = y at *
    generalize hx s ((p : Rat) / (q : Rat)) = X at *
    clear b0 b1 c0 hz
    have he := e15_small
    obtain ⟨f, a1, a2⟩ := div6_n h1 (by grind) (by grind)
    have h3 := modF_pos f (by grind) (by grind)
    refine ⟨⟨h3.1, ?_, ?_⟩, ?_, ?_⟩ <;> rw [h3.2] <;> grind
theorem hue5_near {p q : Nat} (hp : p < q) (hq2 : q ≤ 64) : Near (hueS 5 (F p q)) (hx 5 ((p : Rat) / (q : Rat)) / 6) (6 * e15) ∧ 0 ≤ Rv (hueS 5 (F p q)) ∧ Rv (hueS 5 (F p q)) < 1 := by
  obtain ⟨b0, b1, b2⟩ := frac_bounds (Nat.le_of_lt hp) (by omega) hq2
  have b3 := b2 hp
  have h1 := hs5_near (F_n (Nat.le_of_lt hp) (by omega) hq2) b0 b1
  unfold hueS
  show Near _ ((5 + _) / 6) _ ∧ _
  generalize hs 5 (F p q) = y at *
  generalize (p : Rat) / (q : Rat) = φ at *
  clear b1 b2
  have he := e15_small
  obtain ⟨f, a1, a2⟩ := div6_n h1 (by grind) (by grind)
  obtain ⟨g, c1, c2⟩ := modF_neg f (by grind) (by grind)
  have h4 := u0_le
  clear h1
  refine ⟨⟨g, ?_, ?_⟩, ?_, ?_⟩ <;> grind
end Mine

/-! part N10 -/
namespace Mine
open PySem.Float64

noncomputable def mxN (r g b : Nat) : Nat := max r (max g b)
noncomputable def mnN (r g b : Nat) : Nat := min r (min g b)
noncomputable def rngN (r g b : Nat) : Nat := mxN r g b - mnN r g b
/-- the sector of a colour that is no grey -/
noncomputable def secN (r g b : Nat) : Nat :=
  if r = mxN r g b then (if b = mnN r g b then 0 else 5)
  else if g = mxN r g b then (if b = mnN r g b then 1 else 2)
  else (if r = mnN r g b then 3 else 4)
noncomputable def numN (r g b : Nat) : Nat :=
  if r = mxN r g b then (if b = mnN r g b then mxN r g b - g else mxN r g b - b)
  else if g = mxN r g b then (if b = mnN r g b then mxN r g b - r else mxN r g b - b)
  else (if r = mnN r g b then mxN r g b - g else mxN r g b - r)

theorem r_le_mx (r g b : Nat) : r ≤ mxN r g b := Nat.le_max_left _ _
theorem g_le_mx (r g b : Nat) : g ≤ mxN r g b := Nat.le_trans (Nat.le_max_left g b) (Nat.le_max_right r _)
theorem b_le_mx (r g b : Nat) : b ≤ mxN r g b := Nat.le_trans (Nat.le_max_right g b) (Nat.le_max_right r _)
theorem mn_le_r (r g b : Nat) : mnN r g b ≤ r := Nat.min_le_left _ _
theorem mn_le_g (r g b : Nat) : mnN r g b ≤ g := Nat.le_trans (Nat.min_le_right r _) (Nat.min_le_left g b)
theorem mn_le_b (r g b : Nat) : mnN r g b ≤ b := Nat.le_trans (Nat.min_le_right r _) (Nat.min_le_right g b)
theorem max_or (a b : Nat) : a = max a b ∨ b = max a b := by
  rcases Nat.le_total a b with h | h
  · exact .inr (Nat.max_eq_right h).symm
  · exact .inl (Nat.max_eq_left h).symm
theorem min_or (a b : Nat) : a = min a b ∨ b = min a b := by
  rcases Nat.le_total a b with h | h
  · exact .inl (Nat.min_eq_left h).symm
  · exact .inr (Nat.min_eq_right h).symm
theorem mx_or (r g b : Nat) : r = mxN r g b ∨ g = mxN r g b ∨ b = mxN r g b := by
  unfold mxN
  rcases max_or r (max g b) with h | h
  · exact .inl h
  · rcases max_or g b with k | k
    · exact .inr (.inl (k.trans h))
    · exact .inr (.inr (k.trans h))
theorem mn_or (r g b : Nat) : r = mnN r g b ∨ g = mnN r g b ∨ b = mnN r g b := by
  unfold mnN
  rcases min_or r (min g b) with h | h
  · exact .inl h
  · rcases min_or g b with k | k
    · exact .inr (.inl (k.trans h))
    · exact .inr (.inr (k.trans h))
theorem mn_le_mx (r g b : Nat) : mnN r g b ≤ mxN r g b := Nat.le_trans (mn_le_r r g b) (r_le_mx r g b)
theorem mx_le {r g b : Nat} (hr : r ≤ 64) (hg : g ≤ 64) (hb : b ≤ 64) : mxN r g b ≤ 64 := Nat.max_le.mpr ⟨hr, Nat.max_le.mpr ⟨hg, hb⟩⟩
/-- which part is least, when one is greatest and another is not least -/
theorem least {x y z M m : Nat} (one : x = m ∨ y = m ∨ z = m) (h1 : x = M) (h2 : z ≤ M) (h3 : ¬ z = m) (h4 : m ≤ z) : y = m := by
  rcases one with h | h | h
  · exact absurd (Nat.le_antisymm (h ▸ h1 ▸ h2) h4) h3
  · exact h
  · exact absurd h h3
/-- the six sectors -/
theorem sec_view (r g b : Nat) :
    (secN r g b = 0 ∧ numN r g b = mxN r g b - g ∧ r = mxN r g b ∧ b = mnN r g b) ∨
    (secN r g b = 5 ∧ numN r g b = mxN r g b - b ∧ r = mxN r g b ∧ g = mnN r g b ∧ b ≠ mnN r g b) ∨
    (secN r g b = 1 ∧ numN r g b = mxN r g b - r ∧ r ≠ mxN r g b ∧ g = mxN r g b ∧ b = mnN r g b) ∨
    (secN r g b = 2 ∧ numN r g b = mxN r g b - b ∧ r ≠ mxN r g b ∧ g = mxN r g b ∧ r = mnN r g b) ∨
    (secN r g b = 3 ∧ numN r g b = mxN r g b - g ∧ r ≠ mxN r g b ∧ g ≠ mxN r g b ∧ b = mxN r g b ∧ r = mnN r g b) ∨
    (secN r g b = 4 ∧ numN r g b = mxN r g b - r ∧ r ≠ mxN r g b ∧ g ≠ mxN r g b ∧ b = mxN r g b ∧ g = mnN r g b) := by
  have one := mn_or r g b
  have two := mx_or r g b
  have hr := r_le_mx r g b
  have hb := b_le_mx r g b
  have mr := mn_le_r r g b
  have mb := mn_le_b r g b
  unfold secN numN
  generalize mxN r g b = M at *
  generalize mnN r g b = m at *
  by_cases c1 : r = M
  · by_cases c2 : b = m
    · exact .inl ⟨by rw [if_pos c1, if_pos c2], by rw [if_pos c1, if_pos c2], c1, c2⟩
    · exact .inr (.inl ⟨by rw [if_pos c1, if_neg c2], by rw [if_pos c1, if_neg c2], c1, least one c1 hb c2 mb, c2⟩)
  · by_cases c2 : g = M
    · by_cases c3 : b = m
      · exact .inr (.inr (.inl ⟨by rw [if_neg c1, if_pos c2, if_pos c3], by rw [if_neg c1, if_pos c2, if_pos c3], c1, c2, c3⟩))
      · exact .inr (.inr (.inr (.inl ⟨by rw [if_neg c1, if_pos c2, if_neg c3], by rw [if_neg c1, if_pos c2, if_neg c3], c1, c2, least (one.elim (fun h => .inr (.inl h)) (fun h => h.elim .inl (fun h => .inr (.inr h)))) c2 hb c3 mb⟩)))
    · have c4 : b = M := (two.resolve_left c1).resolve_left c2
      by_cases c3 : r = m
      · exact .inr (.inr (.inr (.inr (.inl ⟨by rw [if_neg c1, if_neg c2, if_pos c3], by rw [if_neg c1, if_neg c2, if_pos c3], c1, c2, c4, c3⟩))))
      · exact .inr (.inr (.inr (.inr (.inr ⟨by rw [if_neg c1, if_neg c2, if_neg c3], by rw [if_neg c1, if_neg c2, if_neg c3], c1, c2, c4, least (one.elim (fun h => .inr (.inr h)) (fun h => h.elim (fun h => .inr (.inl h)) .inl)) c4 hr c3 mr⟩))))
theorem rng_pos {r g b : Nat} (h : mnN r g b ≠ mxN r g b) : 0 < rngN r g b := Nat.sub_pos_of_lt (Nat.lt_of_le_of_ne (mn_le_mx r g b) h)
theorem rng_le {r g b : Nat} (hr : r ≤ 64) (hg : g ≤ 64) (hb : b ≤ 64) : rngN r g b ≤ 64 := Nat.le_trans (Nat.sub_le _ _) (mx_le hr hg hb)

theorem hue_sector {r g b : Nat} (hr : r ≤ 64) (hg : g ≤ 64) (hb : b ≤ 64) (hne : mnN r g b ≠ mxN r g b) :
    hueF (cn r) (cn g) (cn b) (cn (mxN r g b)) (cn (rngN r g b)) = hueS (secN r g b) (F (numN r g b) (rngN r g b)) := by
  have hM : mxN r g b ≤ 1000 := Nat.le_trans (mx_le hr hg hb) (by decide)
  have full : ∀ x, x = mnN r g b → div (cn (mxN r g b - x)) (cn (rngN r g b)) = O := fun x e => by
    rw [e]
    exact F_same (rng_pos hne) (rng_le hr hg hb)
  have dv : ∀ x, div (cn x) (cn (rngN r g b)) = F x (rngN r g b) := fun _ => rfl
  unfold hueF hueS hueRaw eqF
  rw [cn_eq (Nat.le_trans hr (by decide)) hM, cn_eq (Nat.le_trans hg (by decide)) hM, cn_sub hM (r_le_mx r g b), cn_sub hM (g_le_mx r g b), cn_sub hM (b_le_mx r g b)]
  rcases sec_view r g b with ⟨s, n, c1, c2⟩ | ⟨s, n, c1, c2, _⟩ | ⟨s, n, c0, c1, c2⟩ | ⟨s, n, c0, c1, c2⟩ | ⟨s, n, c0, c3, c1, c2⟩ | ⟨s, n, c0, c3, c1, c2⟩
  · rw [s, n, if_pos (decide_eq_true c1), full b c2, dv]; rfl
  · rw [s, n, if_pos (decide_eq_true c1), full g c2, dv]; rfl
  · rw [s, n, if_neg (by rw [decide_eq_false c0]; decide), if_pos (decide_eq_true c1), full b c2, dv]; rfl
  · rw [s, n, if_neg (by rw [decide_eq_false c0]; decide), if_pos (decide_eq_true c1), full r c2, dv]; rfl
  · rw [s, n, if_neg (by rw [decide_eq_false c0]; decide), if_neg (by rw [decide_eq_false c3]; decide), full r c2, dv]; rfl
  · rw [s, n, if_neg (by rw [decide_eq_false c0]; decide), if_neg (by rw [decide_eq_false c3]; decide), full g c2, dv]; rfl

theorem num_le {r g b : Nat} : numN r g b ≤ rngN r g b := by
  have k : ∀ x, mnN r g b ≤ x → mxN r g b - x ≤ rngN r g b := fun x h => Nat.sub_le_sub_left h _
  rcases sec_view r g b with ⟨s, n, _⟩ | ⟨s, n, _⟩ | ⟨s, n, _⟩ | ⟨s, n, _⟩ | ⟨s, n, _⟩ | ⟨s, n, _⟩ <;> rw [n]
  · exact k _ (mn_le_g r g b)
  · exact k _ (mn_le_b r g b)
  · exact k _ (mn_le_r r g b)
  · exact k _ (mn_le_b r g b)
  · exact k _ (mn_le_g r g b)
  · exact k _ (mn_le_r r g b)
theorem num_lt {r g b : Nat} (h : secN r g b = 5) : numN r g b < rngN r g b := by
  rcases sec_view r g b with ⟨s, n, _⟩ | ⟨s, n, c1, c2, c3⟩ | ⟨s, n, _⟩ | ⟨s, n, _⟩ | ⟨s, n, _⟩ | ⟨s, n, _⟩
  · rw [s] at h; cases h
  · rw [n]
    have a := mn_le_b r g b
    have c := b_le_mx r g b
    unfold rngN
    generalize mxN r g b = M at *
    generalize mnN r g b = m at *
    clear s n h c1 c2
    omega
  all_goals (rw [s] at h; cases h)
theorem sec_le (r g b : Nat) : secN r g b ≤ 4 ∨ secN r g b = 5 := by
  rcases sec_view r g b with ⟨s, _⟩ | ⟨s, _⟩ | ⟨s, _⟩ | ⟨s, _⟩ | ⟨s, _⟩ | ⟨s, _⟩ <;> rw [s] <;> decide

/-- the exact hue, in sixths of the turn -/
noncomputable def hueX (r g b : Nat) : Rat := if mnN r g b = mxN r g b then 0 else hx (secN r g b) ((numN r g b : Rat) / (rngN r g b : Rat))
noncomputable def hueV (r g b : Nat) : UInt64 := (hsvF (cn r) (cn g) (cn b)).1

theorem hueV_eq {r g b : Nat} (hr : r ≤ 64) (hg : g ≤ 64) (hb : b ≤ 64) : hueV r g b = if mnN r g b = mxN r g b then 0 else hueS (secN r g b) (F (numN r g b) (rngN r g b)) := by
  have hM : mxN r g b ≤ 1000 := Nat.le_trans (mx_le hr hg hb) (by decide)
  have hm := mn_le_mx r g b
  unfold hueV hsvF eqF
  rw [cn_max (Nat.le_trans hr (by decide)) (Nat.le_trans hg (by decide)) (Nat.le_trans hb (by decide)), cn_min (Nat.le_trans hr (by decide)) (Nat.le_trans hg (by decide)) (Nat.le_trans hb (by decide))]
  rw [show max r (max g b) = mxN r g b from rfl, show min r (min g b) = mnN r g b from rfl]
  rw [cn_eq (Nat.le_trans hm hM) hM, cn_sub hM hm]
  by_cases h : mnN r g b = mxN r g b
  · rw [if_pos h, decide_eq_true h]; rfl
  · rw [if_neg h, decide_eq_false h]
    exact hue_sector hr hg hb h

theorem zero_rv : Fin (0 : UInt64) ∧ Rv (0 : UInt64) = 0 := by
  have h := fin_zero false
  have e : zero false = 0 := by decide +kernel
  rw [e] at h
  exact h

theorem hue_near {r g b : Nat} (hr : r ≤ 64) (hg : g ≤ 64) (hb : b ≤ 64) : Near (hueV r g b) (hueX r g b / 6) (6 * e15) ∧ 0 ≤ Rv (hueV r g b) ∧ Rv (hueV r g b) < 1 := by
  rw [hueV_eq hr hg hb]
  unfold hueX
  have he := e15_pos
  by_cases h : mnN r g b = mxN r g b
  · rw [if_pos h, if_pos h]
    have h0 := zero_rv
    refine ⟨⟨h0.1, ?_, ?_⟩, ?_, ?_⟩ <;> rw [h0.2] <;> grind
  · rw [if_neg h, if_neg h]
    have hq := rng_pos h
    have hq2 := rng_le hr hg hb
    rcases sec_le r g b with h4 | h5
    · have h1 := hueS_near h4 (num_le (r := r) (g := g) (b := b)) hq hq2
      exact ⟨h1.1.mono (by grind) (by grind), h1.2⟩
    · have h1 := hue5_near (num_lt h5) hq2
      rw [h5]
      exact h1
end Mine

/-! part N11 -/
namespace Mine

/-- a sector's direction, and its hue times q -/
noncomputable def wu (s : Nat) (p q : Int) : Int := match s with
  | 0 => q + p | 1 => q - 2 * p | 2 => p - 2 * q | 3 => p - 2 * q | 4 => q - 2 * p | _ => q + p
noncomputable def wv (s : Nat) (p q : Int) : Int := match s with
  | 0 => q - p | 1 => q | 2 => p | 3 => -p | 4 => -q | _ => p - q
noncomputable def hz (s : Nat) (p q : Int) : Int := match s with
  | 0 => q - p | 1 => q + p | 2 => 3 * q - p | 3 => 3 * q + p | 4 => 5 * q - p | _ => 5 * q + p

theorem six_cases {s : Nat} (h : s ≤ 5) : s = 0 ∨ s = 1 ∨ s = 2 ∨ s = 3 ∨ s = 4 ∨ s = 5 :=
  six_nat (P := fun s => s = 0 ∨ s = 1 ∨ s = 2 ∨ s = 3 ∨ s = 4 ∨ s = 5) (.inl rfl) (.inr (.inl rfl)) (.inr (.inr (.inl rfl))) (.inr (.inr (.inr (.inl rfl)))) (.inr (.inr (.inr (.inr (.inl rfl))))) (.inr (.inr (.inr (.inr (.inr rfl))))) s h

theorem prod_facts {p1 q1 p2 q2 : Int} (hp1 : 0 ≤ p1) (hq1 : p1 ≤ q1) (h1 : 0 < q1) (hp2 : 0 ≤ p2) (hq2 : p2 ≤ q2) (h2 : 0 < q2) :
    0 ≤ p1 * p2 ∧ p1 * p2 ≤ p1 * q2 ∧ p1 * p2 ≤ q1 * p2 ∧ p1 * q2 ≤ q1 * q2 ∧ q1 * p2 ≤ q1 * q2 ∧ 0 ≤ p1 * p2 - p1 * q2 - q1 * p2 + q1 * q2 ∧ 0 < q1 * q2 := by
  refine ⟨Int.mul_nonneg hp1 hp2, Int.mul_le_mul_of_nonneg_left hq2 hp1, Int.mul_le_mul_of_nonneg_right hq1 hp2, Int.mul_le_mul_of_nonneg_right hq1 (by omega), Int.mul_le_mul_of_nonneg_left hq2 (by omega), ?_, Int.mul_pos h1 h2⟩
  have := Int.mul_nonneg (show 0 ≤ q1 - p1 by omega) (show 0 ≤ q2 - p2 by omega)
  have e : (q1 - p1) * (q2 - p2) = p1 * p2 - p1 * q2 - q1 * p2 + q1 * q2 := by grind
  omega

theorem signI_eq {x y : Int} (h1 : 0 < x ↔ 0 < y) (h2 : x < 0 ↔ y < 0) : signI x = signI y := by
  unfold signI
  by_cases c1 : 0 < x
  · rw [if_pos c1, if_pos (h1.mp c1)]
  · rw [if_neg c1, if_neg (fun c => c1 (h1.mpr c))]
    by_cases c2 : x < 0
    · rw [if_pos c2, if_pos (h2.mp c2)]
    · rw [if_neg c2, if_neg (fun c => c2 (h2.mpr c))]

theorem lower_no {a b : Int} (h : 0 < b ∨ (b = 0 ∧ 0 ≤ a)) : lowerI a b = false := by
  unfold lowerI
  rcases h with h | ⟨h, k⟩
  · rw [decide_eq_false (show ¬ b < 0 by omega), decide_eq_false (show ¬ b = 0 by omega)]; rfl
  · rw [decide_eq_false (show ¬ b < 0 by omega), decide_eq_false (show ¬ a < 0 by omega), Bool.and_false]; rfl
theorem lower_yes {a b : Int} (h : b < 0 ∨ (b = 0 ∧ a < 0)) : lowerI a b = true := by
  unfold lowerI
  rcases h with h | ⟨h, k⟩
  · rw [decide_eq_true h]; rfl
  · rw [decide_eq_true h, decide_eq_true k, Bool.and_self, Bool.or_true]
/-- a direction lies in the lower half when its hue is at least half a turn -/
theorem lower_hz {s : Nat} {p q : Int} (hs : s ≤ 5) (hp : 0 ≤ p) (hq : p ≤ q) (h : 0 < q) (h5 : s = 5 → p < q) : lowerI (wu s p q) (wv s p q) = decide (3 * q ≤ hz s p q) := by
  rcases six_cases hs with rfl | rfl | rfl | rfl | rfl | rfl <;> simp only [wu, wv, hz]
  · rw [lower_no (by omega), decide_eq_false (by omega)]
  · rw [lower_no (by omega), decide_eq_false (by omega)]
  · by_cases c : p = 0
    · rw [lower_yes (by omega), decide_eq_true (by omega)]
    · rw [lower_no (by omega), decide_eq_false (by omega)]
  · rw [lower_yes (by omega), decide_eq_true (by omega)]
  · rw [lower_yes (by omega), decide_eq_true (by omega)]
  · have := h5 rfl
    rw [lower_yes (by omega), decide_eq_true (by omega)]

/-- the half turn back into the upper half -/
structure Upper (s : Nat) (p q : Int) (low : Bool) (x y z : Int) : Prop where
  s2 : s ≤ 2
  p0 : 0 ≤ p
  pq : p ≤ q
  lt : s = 2 → 0 < p
  u : x = if low then -wu s p q else wu s p q
  v : y = if low then -wv s p q else wv s p q
  h : z = if low then hz s p q + 3 * q else hz s p q
theorem upper_of {s : Nat} {p q : Int} (hs : s ≤ 5) (hp : 0 ≤ p) (hq : p ≤ q) (h : 0 < q) (h5 : s = 5 → p < q) : ∃ s' p', Upper s' p' q (lowerI (wu s p q) (wv s p q)) (wu s p q) (wv s p q) (hz s p q) := by
  rw [lower_hz hs hp hq h h5]
  by_cases c : 3 * q ≤ hz s p q
  · rw [decide_eq_true c]
    rcases six_cases hs with rfl | rfl | rfl | rfl | rfl | rfl <;> simp only [hz] at c
    · exfalso; omega
    · exfalso; omega
    · obtain rfl : p = 0 := by omega
      exact ⟨0, q, by decide, by omega, by omega, by omega, by simp only [wu, if_true] <;> omega, by simp only [wv, if_true] <;> omega, by simp only [hz, if_true] <;> omega⟩
    · exact ⟨0, q - p, by decide, by omega, by omega, by omega, by simp only [wu, if_true] <;> omega, by simp only [wv, if_true] <;> omega, by simp only [hz, if_true] <;> omega⟩
    · exact ⟨1, q - p, by decide, by omega, by omega, by omega, by simp only [wu, if_true] <;> omega, by simp only [wv, if_true] <;> omega, by simp only [hz, if_true] <;> omega⟩
    · exact ⟨2, q - p, by decide, by omega, by omega, by omega, by simp only [wu, if_true] <;> omega, by simp only [wv, if_true] <;> omega, by simp only [hz, if_true] <;> omega⟩
  · rw [decide_eq_false c]
    have hs2 : s ≤ 2 ∧ (s = 2 → 0 < p) := by
      rcases six_cases hs with rfl | rfl | rfl | rfl | rfl | rfl <;> simp only [hz] at c <;> omega
    exact ⟨s, p, hs2.1, hp, hq, hs2.2, rfl, rfl, rfl⟩
theorem three_cases {s : Nat} (h : s ≤ 2) : s = 0 ∨ s = 1 ∨ s = 2 := by omega
/-- the nine meetings of two sectors, in the four products -/
theorem meet00 {A B C D : Int} : signI (2 * B - 2 * C) = signI (B - C) := by apply signI_eq <;> omega
theorem meet01 {A B C : Int} (f1 : 0 ≤ A) (f2 : A ≤ B) (f3 : A ≤ C) : signI (2 * B + 2 * C - 2 * A) = signI (B + C) := by apply signI_eq <;> omega
theorem meet02 {A B C D : Int} (f3 : A ≤ C) (f4 : C ≤ D) (f6 : 0 ≤ A - B - C + D) (f7 : 0 < C) (f8 : 0 ≤ B) : signI (2 * A + 2 * D - 2 * B) = signI (2 * D - C + B) := by apply signI_eq <;> omega
theorem meet12 {A B C D : Int} (f2 : A ≤ B) (f3 : A ≤ C) (f4 : B ≤ D) (f5 : C ≤ D) (f6 : 0 ≤ A - B - C + D) : signI (2 * D - 2 * A) = signI (2 * D - C - B) := by apply signI_eq <;> omega
theorem signI_neg (x : Int) : signI (-x) = -signI x := by
  unfold signI
  by_cases c1 : 0 < x
  · rw [if_neg (by omega), if_pos (by omega), if_pos c1]
  · by_cases c2 : x < 0
    · rw [if_pos (by omega), if_neg c1, if_pos c2]; rfl
    · rw [if_neg (by omega), if_neg (by omega), if_neg c1, if_neg c2]; rfl
theorem cross_le {s1 s2 : Nat} {p1 q1 p2 q2 : Int} (hs2 : s2 ≤ 2) (h12 : s1 ≤ s2) (hp1 : 0 ≤ p1) (hq1 : p1 ≤ q1) (h1 : 0 < q1) (hp2 : 0 ≤ p2) (hq2 : p2 ≤ q2) (h2 : 0 < q2) (h52 : s2 = 2 → 0 < p2) :
    signI (crossI (wu s1 p1 q1) (wv s1 p1 q1) (wu s2 p2 q2) (wv s2 p2 q2)) = signI (hz s2 p2 q2 * q1 - hz s1 p1 q1 * q2) := by
  obtain ⟨f1, f2, f3, f4, f5, f6, f7⟩ := prod_facts hp1 hq1 h1 hp2 hq2 h2
  have hs1 : s1 ≤ 2 := Nat.le_trans h12 hs2
  unfold crossI
  have key : ∀ x y x' y' : Int, x = x' → y = y' → signI x' = signI y' → signI x = signI y := fun x y x' y' a b c => by rw [a, b, c]
  rcases three_cases hs1 with rfl | rfl | rfl <;> rcases three_cases hs2 with rfl | rfl | rfl
  · exact key _ _ _ _ (by simp only [wu, wv]; grind) (by simp only [hz]; grind) (meet00 (A := 0) (D := 0) (B := p1 * q2) (C := q1 * p2))
  · exact key _ _ _ _ (by simp only [wu, wv]; grind) (by simp only [hz]; grind) (meet01 f1 f2 f3)
  · exact key _ _ _ _ (by simp only [wu, wv]; grind) (by simp only [hz]; grind) (meet02 f3 f5 f6 (Int.mul_pos h1 (h52 rfl)) (Int.le_trans f1 f2))
  · exact absurd h12 (by decide)
  · exact key _ _ _ _ (by simp only [wu, wv]; grind) (by simp only [hz]; grind) (meet00 (A := 0) (D := 0) (B := q1 * p2) (C := p1 * q2))
  · exact key _ _ _ _ (by simp only [wu, wv]; grind) (by simp only [hz]; grind) (meet12 f2 f3 f4 f5 f6)
  · exact absurd h12 (by decide)
  · exact absurd h12 (by decide)
  · exact key _ _ _ _ (by simp only [wu, wv]; grind) (by simp only [hz]; grind) (meet00 (A := 0) (D := 0) (B := p1 * q2) (C := q1 * p2))
theorem cross_up {s1 s2 : Nat} {p1 q1 p2 q2 : Int} (hs1 : s1 ≤ 2) (hs2 : s2 ≤ 2) (hp1 : 0 ≤ p1) (hq1 : p1 ≤ q1) (h1 : 0 < q1) (h51 : s1 = 2 → 0 < p1) (hp2 : 0 ≤ p2) (hq2 : p2 ≤ q2) (h2 : 0 < q2) (h52 : s2 = 2 → 0 < p2) :
    signI (crossI (wu s1 p1 q1) (wv s1 p1 q1) (wu s2 p2 q2) (wv s2 p2 q2)) = signI (hz s2 p2 q2 * q1 - hz s1 p1 q1 * q2) := by
  rcases Nat.le_total s1 s2 with h | h
  · exact cross_le hs2 h hp1 hq1 h1 hp2 hq2 h2 h52
  · have k := cross_le hs1 h hp2 hq2 h2 hp1 hq1 h1 h51
    have e1 : crossI (wu s1 p1 q1) (wv s1 p1 q1) (wu s2 p2 q2) (wv s2 p2 q2) = -crossI (wu s2 p2 q2) (wv s2 p2 q2) (wu s1 p1 q1) (wv s1 p1 q1) := by unfold crossI; omega
    have e2 : hz s2 p2 q2 * q1 - hz s1 p1 q1 * q2 = -(hz s1 p1 q1 * q2 - hz s2 p2 q2 * q1) := by omega
    rw [e1, e2, signI_neg, signI_neg, k]
theorem cross_hz {s1 s2 : Nat} {p1 q1 p2 q2 : Int} (hs1 : s1 ≤ 5) (hs2 : s2 ≤ 5) (hp1 : 0 ≤ p1) (hq1 : p1 ≤ q1) (h1 : 0 < q1) (h51 : s1 = 5 → p1 < q1) (hp2 : 0 ≤ p2) (hq2 : p2 ≤ q2) (h2 : 0 < q2) (h52 : s2 = 5 → p2 < q2)
    (hl : lowerI (wu s1 p1 q1) (wv s1 p1 q1) = lowerI (wu s2 p2 q2) (wv s2 p2 q2)) :
    signI (crossI (wu s1 p1 q1) (wv s1 p1 q1) (wu s2 p2 q2) (wv s2 p2 q2)) = signI (hz s2 p2 q2 * q1 - hz s1 p1 q1 * q2) := by
  obtain ⟨t1, r1, a⟩ := upper_of hs1 hp1 hq1 h1 h51
  obtain ⟨t2, r2, b⟩ := upper_of hs2 hp2 hq2 h2 h52
  rw [← hl] at b
  generalize lowerI (wu s1 p1 q1) (wv s1 p1 q1) = l at a b
  have k := cross_up a.s2 b.s2 a.p0 a.pq h1 a.lt b.p0 b.pq h2 b.lt
  rw [a.u, a.v, a.h, b.u, b.v, b.h]
  cases l
  · exact k
  · simp only [if_true]
    have e1 : crossI (-wu t1 r1 q1) (-wv t1 r1 q1) (-wu t2 r2 q2) (-wv t2 r2 q2) = crossI (wu t1 r1 q1) (wv t1 r1 q1) (wu t2 r2 q2) (wv t2 r2 q2) := by unfold crossI; simp only [Int.neg_mul_neg]
    have e2 : (hz t2 r2 q2 + 3 * q2) * q1 - (hz t1 r1 q1 + 3 * q1) * q2 = hz t2 r2 q2 * q1 - hz t1 r1 q1 * q2 := by
      rw [Int.add_mul, Int.add_mul, Int.mul_assoc, Int.mul_assoc, Int.mul_comm q2 q1]; omega
    rw [e1, e2]
    exact k
theorem signI_zero {x : Int} (h : signI x = 0) : x = 0 := by
  unfold signI at h
  by_cases c1 : 0 < x
  · rw [if_pos c1] at h; cases h
  · rw [if_neg c1] at h
    by_cases c2 : x < 0
    · rw [if_pos c2] at h; cases h
    · omega
theorem half_hz {s1 s2 : Nat} {p1 q1 p2 q2 : Int} (hs1 : s1 ≤ 5) (hs2 : s2 ≤ 5) (hp1 : 0 ≤ p1) (hq1 : p1 ≤ q1) (h1 : 0 < q1) (h51 : s1 = 5 → p1 < q1) (hp2 : 0 ≤ p2) (hq2 : p2 ≤ q2) (h2 : 0 < q2) (h52 : s2 = 5 → p2 < q2)
    (hc : crossI (wu s1 p1 q1) (wv s1 p1 q1) (wu s2 p2 q2) (wv s2 p2 q2) = 0) (hn : hz s2 p2 q2 * q1 - hz s1 p1 q1 * q2 ≠ 0) :
    hz s2 p2 q2 * q1 - hz s1 p1 q1 * q2 = 3 * (q1 * q2) ∨ hz s2 p2 q2 * q1 - hz s1 p1 q1 * q2 = -3 * (q1 * q2) := by
  obtain ⟨t1, r1, a⟩ := upper_of hs1 hp1 hq1 h1 h51
  obtain ⟨t2, r2, b⟩ := upper_of hs2 hp2 hq2 h2 h52
  generalize lowerI (wu s1 p1 q1) (wv s1 p1 q1) = l1 at a
  generalize lowerI (wu s2 p2 q2) (wv s2 p2 q2) = l2 at b
  have k := cross_up a.s2 b.s2 a.p0 a.pq h1 a.lt b.p0 b.pq h2 b.lt
  rw [a.u, a.v, b.u, b.v] at hc
  rw [a.h, b.h] at hn ⊢
  have n1 : ∀ x y z w : Int, crossI (-x) (-y) z w = -crossI x y z w := fun x y z w => by unfold crossI; rw [Int.neg_mul, Int.mul_neg]; omega
  have n2 : ∀ x y z w : Int, crossI x y (-z) (-w) = -crossI x y z w := fun x y z w => by unfold crossI; rw [Int.neg_mul, Int.mul_neg]; omega
  have hc' : crossI (wu t1 r1 q1) (wv t1 r1 q1) (wu t2 r2 q2) (wv t2 r2 q2) = 0 := by
    cases l1 <;> cases l2 <;> simp only [if_true, Bool.false_eq_true, if_false, n1, n2, Int.neg_neg] at hc
    · exact hc
    · exact Int.neg_eq_zero.mp hc
    · exact Int.neg_eq_zero.mp hc
    · exact hc
  rw [hc'] at k
  have k0 := signI_zero k.symm
  have e : q2 * q1 = q1 * q2 := Int.mul_comm q2 q1
  clear hc hc' k n1 n2 a b
  generalize hz t2 r2 q2 = x at *
  generalize hz t1 r1 q1 = y at *
  cases l1 <;> cases l2 <;> simp only [if_true, Bool.false_eq_true, if_false, Int.add_mul, Int.mul_assoc, e] at hn ⊢
  · exact absurd k0 hn
  · left; clear hn; omega
  · right; clear hn; omega
  · exact absurd (by omega) hn
end Mine

/-! part N12 -/
namespace Mine

theorem order_hz {s1 s2 : Nat} {p1 q1 p2 q2 : Int} (hs1 : s1 ≤ 5) (hs2 : s2 ≤ 5) (hp1 : 0 ≤ p1) (hq1 : p1 ≤ q1) (h1 : 0 < q1) (h51 : s1 = 5 → p1 < q1) (hp2 : 0 ≤ p2) (hq2 : p2 ≤ q2) (h2 : 0 < q2) (h52 : s2 = 5 → p2 < q2) :
    orderI (wu s1 p1 q1) (wv s1 p1 q1) (wu s2 p2 q2) (wv s2 p2 q2) = signI (hz s2 p2 q2 * q1 - hz s1 p1 q1 * q2) := by
  unfold orderI
  by_cases hl : lowerI (wu s1 p1 q1) (wv s1 p1 q1) = lowerI (wu s2 p2 q2) (wv s2 p2 q2)
  · rw [if_pos hl]
    exact cross_hz hs1 hs2 hp1 hq1 h1 h51 hp2 hq2 h2 h52 hl
  · rw [if_neg hl]
    have l1 := lower_hz hs1 hp1 hq1 h1 h51
    have l2 := lower_hz hs2 hp2 hq2 h2 h52
    have e1 : 3 * q2 * q1 = 3 * (q1 * q2) := by grind
    have e2 : 3 * q1 * q2 = 3 * (q1 * q2) := by grind
    by_cases c2 : 3 * q2 ≤ hz s2 p2 q2
    · have c1 : ¬ 3 * q1 ≤ hz s1 p1 q1 := fun c => hl (by rw [l1, l2, decide_eq_true c, decide_eq_true c2])
      rw [l2, decide_eq_true c2, if_pos rfl]
      have a := Int.mul_le_mul_of_nonneg_right c2 (Int.le_of_lt h1)
      have b := Int.mul_lt_mul_of_pos_right (show hz s1 p1 q1 < 3 * q1 by omega) h2
      unfold signI
      rw [if_pos (by omega)]
    · have c1 : 3 * q1 ≤ hz s1 p1 q1 := by
        by_cases c : 3 * q1 ≤ hz s1 p1 q1
        · exact c
        · exact absurd (by rw [l1, l2, decide_eq_false c, decide_eq_false c2]) hl
      rw [l2, decide_eq_false c2, if_neg (by decide)]
      have a := Int.mul_le_mul_of_nonneg_right c1 (Int.le_of_lt h2)
      have b := Int.mul_lt_mul_of_pos_right (show hz s2 p2 q2 < 3 * q2 by omega) h1
      unfold signI
      rw [if_neg (by omega), if_pos (by omega)]

end Mine

/-! part N13 -/
namespace Mine

theorem way_eq (r g b : Nat) : 2 * (r : Int) - g - b = wu (secN r g b) (numN r g b) (rngN r g b) ∧ (g : Int) - b = wv (secN r g b) (numN r g b) (rngN r g b) := by
  have hc : ((rngN r g b : Nat) : Int) = (mxN r g b : Int) - (mnN r g b : Int) := Int.ofNat_sub (mn_le_mx r g b)
  have nr : ((mxN r g b - r : Nat) : Int) = (mxN r g b : Int) - r := Int.ofNat_sub (r_le_mx r g b)
  have ng : ((mxN r g b - g : Nat) : Int) = (mxN r g b : Int) - g := Int.ofNat_sub (g_le_mx r g b)
  have nb : ((mxN r g b - b : Nat) : Int) = (mxN r g b : Int) - b := Int.ofNat_sub (b_le_mx r g b)
  have v := sec_view r g b
  generalize mxN r g b = M at *
  generalize mnN r g b = m at *
  rw [hc]
  clear hc
  have up : ∀ {a b : Nat}, a = b → (a : Int) = b := fun h => by rw [h]
  rcases v with ⟨s, n, c1, c2⟩ | ⟨s, n, c1, c2, _⟩ | ⟨s, n, _, c1, c2⟩ | ⟨s, n, _, c1, c2⟩ | ⟨s, n, _, _, c1, c2⟩ | ⟨s, n, _, _, c1, c2⟩ <;> rw [s, n] <;> have c1 := up c1 <;> have c2 := up c2
  · rw [ng]; simp only [wu, wv]; clear s n ng nr nb; constructor <;> omega
  · rw [nb]; simp only [wu, wv]; clear s n ng nr nb; constructor <;> omega
  · rw [nr]; simp only [wu, wv]; clear s n ng nr nb; constructor <;> omega
  · rw [nb]; simp only [wu, wv]; clear s n ng nr nb; constructor <;> omega
  · rw [ng]; simp only [wu, wv]; clear s n ng nr nb; constructor <;> omega
  · rw [nr]; simp only [wu, wv]; clear s n ng nr nb; constructor <;> omega
theorem hx_hz {s : Nat} {p q : Nat} (hs : s ≤ 5) (hq : 0 < q) : hx s ((p : Rat) / (q : Rat)) * (q : Rat) = ((hz s p q : Int) : Rat) := by
  have hqr : (0 : Rat) < (q : Rat) := by exact_mod_cast hq
  have hne : (q : Rat) ≠ 0 := fun c => by rw [c] at hqr; exact absurd hqr (by decide)
  have hm : (p : Rat) / (q : Rat) * (q : Rat) = (p : Rat) := rat_div_mul hne
  generalize (p : Rat) / (q : Rat) = X at *
  rcases six_cases hs with rfl | rfl | rfl | rfl | rfl | rfl <;> simp only [hx, hz, Rat.intCast_sub, Rat.intCast_add, Rat.intCast_mul, Rat.intCast_natCast] <;> (try rw [show ((3 : Int) : Rat) = 3 from rfl]) <;> (try rw [show ((5 : Int) : Rat) = 5 from rfl]) <;> grind
end Mine

/-! part N14 -/
namespace Mine
open PySem.Float64

/-! equal hues, equal floats; the sign of a difference of hues -/
theorem tie01 : hueS 0 (F 0 1) = hueS 1 (F 0 1) := by decide +kernel
theorem tie12 : hueS 1 (F 1 1) = hueS 2 (F 1 1) := by decide +kernel
theorem tie23 : hueS 2 (F 0 1) = hueS 3 (F 0 1) := by decide +kernel
theorem tie34 : hueS 3 (F 1 1) = hueS 4 (F 1 1) := by decide +kernel
theorem tie45 : hueS 4 (F 0 1) = hueS 5 (F 0 1) := by decide +kernel
theorem F_zero {q : Nat} (hq : 0 < q) (hq2 : q ≤ 64) : F 0 q = F 0 1 := F_ratio (by decide) hq hq2 (by decide) (by decide) (by decide) (by omega)
theorem F_one {q : Nat} (hq : 0 < q) (hq2 : q ≤ 64) : F q q = F 1 1 := F_same hq hq2

/-- a sector's hue is c q and p, more or less -/
theorem hz_form {s : Nat} (hs : s ≤ 5) : ∃ c σ : Int, (σ = 1 ∨ σ = -1) ∧ ∀ p q : Int, hz s p q = c * q + σ * p := by
  rcases six_cases hs with rfl | rfl | rfl | rfl | rfl | rfl
  · exact ⟨1, -1, .inr rfl, fun p q => by simp only [hz]; omega⟩
  · exact ⟨1, 1, .inl rfl, fun p q => by simp only [hz]; omega⟩
  · exact ⟨3, -1, .inr rfl, fun p q => by simp only [hz]; omega⟩
  · exact ⟨3, 1, .inl rfl, fun p q => by simp only [hz]; omega⟩
  · exact ⟨5, -1, .inr rfl, fun p q => by simp only [hz]; omega⟩
  · exact ⟨5, 1, .inl rfl, fun p q => by simp only [hz]; omega⟩
theorem hz_lo {s : Nat} {p q : Int} (hs : s ≤ 5) (hp : 0 ≤ p) (hq : p ≤ q) : 0 ≤ hz s p q - (s : Int) * q := by
  rcases six_cases hs with rfl | rfl | rfl | rfl | rfl | rfl <;> simp only [hz] <;> omega
theorem hz_hi {s : Nat} {p q : Int} (hs : s ≤ 5) (hp : 0 ≤ p) (hq : p ≤ q) : 0 ≤ ((s : Int) + 1) * q - hz s p q := by
  rcases six_cases hs with rfl | rfl | rfl | rfl | rfl | rfl <;> simp only [hz] <;> omega
theorem same_sector {s : Nat} {p1 q1 p2 q2 : Int} (hs : s ≤ 5) (e : hz s p2 q2 * q1 = hz s p1 q1 * q2) : p1 * q2 = p2 * q1 := by
  obtain ⟨c, σ, h, f⟩ := hz_form hs
  rw [f, f] at e
  clear f
  rcases h with rfl | rfl <;> grind
/-- where one sector's hue ends, the next one's begins -/
theorem edge {s : Nat} {p q p' q' : Nat} (hs : s + 1 ≤ 5) (d1 : ((s : Int) + 1) * q - hz s p q = 0) (d2 : hz (s + 1) p' q' - ((s + 1 : Nat) : Int) * q' = 0) : (p = 0 ∧ p' = 0 ∧ s % 2 = 0) ∨ (p = q ∧ p' = q' ∧ s % 2 = 1) := by
  rcases six_cases (show s ≤ 5 by omega) with rfl | rfl | rfl | rfl | rfl | rfl
  · simp only [hz] at d1 d2
    exact .inl ⟨by omega, by omega, rfl⟩
  · simp only [hz] at d1 d2
    exact .inr ⟨by omega, by omega, rfl⟩
  · simp only [hz] at d1 d2
    exact .inl ⟨by omega, by omega, rfl⟩
  · simp only [hz] at d1 d2
    exact .inr ⟨by omega, by omega, rfl⟩
  · simp only [hz] at d1 d2
    exact .inl ⟨by omega, by omega, rfl⟩
  · exact absurd hs (by decide)
theorem edge0 {s : Nat} (hs : s ≤ 4) (h : s % 2 = 0) : hueS s (F 0 1) = hueS (s + 1) (F 0 1) := by
  have : s = 0 ∨ s = 2 ∨ s = 4 := by omega
  rcases this with rfl | rfl | rfl
  · exact tie01
  · exact tie23
  · exact tie45
theorem edge1 {s : Nat} (hs : s ≤ 4) (h : s % 2 = 1) : hueS s (F 1 1) = hueS (s + 1) (F 1 1) := by
  have : s = 1 ∨ s = 3 := by omega
  rcases this with rfl | rfl
  · exact tie12
  · exact tie34
theorem tie_sum (s1 s2 : Int) (q1 q2 h1 h2 : Int) (e : h2 * q1 = h1 * q2) : ((s1 + 1) * q1 - h1) * q2 + (h2 - s2 * q2) * q1 = (s1 + 1 - s2) * (q1 * q2) := by grind
theorem both_zero {a b c q1 q2 : Int} (ha : 0 ≤ a) (hb : 0 ≤ b) (h1 : 0 < q1) (h2 : 0 < q2) (hc : c ≤ 0) (e : a * q2 + b * q1 = c * (q1 * q2)) : a = 0 ∧ b = 0 ∧ c = 0 := by
  have k1 := Int.mul_nonneg ha (Int.le_of_lt h2)
  have k2 := Int.mul_nonneg hb (Int.le_of_lt h1)
  have D := Int.mul_pos h1 h2
  have c0 : c = 0 := by
    rcases Int.lt_or_le c 0 with h | h
    · have := Int.mul_lt_mul_of_pos_right h D
      rw [Int.zero_mul] at this
      omega
    · omega
  rw [c0, Int.zero_mul] at e
  refine ⟨?_, ?_, c0⟩
  · rcases Int.mul_eq_zero.mp (show a * q2 = 0 by omega) with h | h
    · exact h
    · omega
  · rcases Int.mul_eq_zero.mp (show b * q1 = 0 by omega) with h | h
    · exact h
    · omega
theorem tie_up {s1 s2 p1 q1 p2 q2 : Nat} (hs2 : s2 ≤ 5) (h12 : s1 ≤ s2) (hp1 : p1 ≤ q1) (h1 : 0 < q1) (hq1 : q1 ≤ 64) (hp2 : p2 ≤ q2) (h2 : 0 < q2) (hq2 : q2 ≤ 64)
    (e : hz s2 p2 q2 * q1 = hz s1 p1 q1 * q2) : hueS s1 (F p1 q1) = hueS s2 (F p2 q2) := by
  have hs1 : s1 ≤ 5 := Nat.le_trans h12 hs2
  have i1 : (0 : Int) < q1 := Int.ofNat_lt.mpr h1
  have i2 : (0 : Int) < q2 := Int.ofNat_lt.mpr h2
  by_cases hgap : s1 = s2
  · subst hgap
    have h := same_sector hs2 e
    rw [F_ratio (p' := p2) (q' := q2) (Nat.le_trans hp1 hq1) h1 hq1 (Nat.le_trans hp2 hq2) h2 hq2 (by exact_mod_cast h)]
  · have b1 := hz_hi (p := p1) (q := q1) hs1 (Int.natCast_nonneg _) (Int.ofNat_le.mpr hp1)
    have b2 := hz_lo (p := p2) (q := q2) hs2 (Int.natCast_nonneg _) (Int.ofNat_le.mpr hp2)
    obtain ⟨d1, d2, d3⟩ := both_zero b1 b2 i1 i2 (show (s1 : Int) + 1 - s2 ≤ 0 by omega) (tie_sum s1 s2 q1 q2 _ _ e)
    have h5 : s2 = s1 + 1 := by omega
    clear b1 b2 e i1 i2 d3 hgap h12
    subst h5
    have hs4 : s1 ≤ 4 := Nat.le_of_succ_le_succ hs2
    rcases edge hs2 d1 d2 with ⟨rfl, rfl, k⟩ | ⟨rfl, rfl, k⟩
    · rw [F_zero h1 hq1, F_zero h2 hq2, edge0 hs4 k]
    · rw [F_one h1 hq1, F_one h2 hq2, edge1 hs4 k]
theorem tie {s1 s2 p1 q1 p2 q2 : Nat} (hs1 : s1 ≤ 5) (hs2 : s2 ≤ 5) (hp1 : p1 ≤ q1) (h1 : 0 < q1) (hq1 : q1 ≤ 64) (hp2 : p2 ≤ q2) (h2 : 0 < q2) (hq2 : q2 ≤ 64)
    (e : hz s2 p2 q2 * q1 = hz s1 p1 q1 * q2) : hueS s1 (F p1 q1) = hueS s2 (F p2 q2) := by
  rcases Nat.le_total s1 s2 with h | h
  · exact tie_up hs2 h hp1 h1 hq1 hp2 h2 hq2 e
  · exact (tie_up hs1 h hp2 h2 hq2 hp1 h1 hq1 e.symm).symm

/-- a colour's sector and fraction; a grey counts as red -/
noncomputable def snN (r g b : Nat) : Nat := if mnN r g b = mxN r g b then 0 else secN r g b
noncomputable def pnN (r g b : Nat) : Nat := if mnN r g b = mxN r g b then 1 else numN r g b
noncomputable def qnN (r g b : Nat) : Nat := if mnN r g b = mxN r g b then 1 else rngN r g b
structure Names (s p q : Nat) : Prop where
  s5 : s ≤ 5
  pq : p ≤ q
  q0 : 0 < q
  q64 : q ≤ 64
  lt : s = 5 → p < q
theorem names {r g b : Nat} (hr : r ≤ 64) (hg : g ≤ 64) (hb : b ≤ 64) : Names (snN r g b) (pnN r g b) (qnN r g b) := by
  unfold snN pnN qnN
  by_cases h : mnN r g b = mxN r g b
  · simp only [if_pos h]
    exact ⟨by decide, by decide, by decide, by decide, by decide⟩
  · simp only [if_neg h]
    refine ⟨?_, num_le, rng_pos h, rng_le hr hg hb, num_lt⟩
    rcases sec_le r g b with h | h
    · exact Nat.le_succ_of_le h
    · exact Nat.le_of_eq h
theorem hueS_one : Rv (hueS 0 (F 1 1)) = 0 := by
  have h1 : hs 0 (F 1 1) = sub O O := rfl
  have h2 := div6_zero (sub_self_zero O_rv.1)
  have h3 := modF_pos h2.1 (by rw [h2.2]; grind) (by rw [h2.2]; grind)
  unfold hueS
  rw [h1, h3.2, h2.2]
theorem hue_rv {r g b : Nat} (hr : r ≤ 64) (hg : g ≤ 64) (hb : b ≤ 64) : Rv (hueV r g b) = Rv (hueS (snN r g b) (F (pnN r g b) (qnN r g b))) := by
  rw [hueV_eq hr hg hb]
  unfold snN pnN qnN
  by_cases h : mnN r g b = mxN r g b
  · simp only [if_pos h]
    rw [hueS_one, zero_rv.2]
  · simp only [if_neg h]
theorem hueX_eq (r g b : Nat) : hueX r g b = hx (snN r g b) ((pnN r g b : Rat) / (qnN r g b : Rat)) := by
  unfold hueX snN pnN qnN
  by_cases h : mnN r g b = mxN r g b
  · simp only [if_pos h]
    show (0 : Rat) = 1 - ((1 : Nat) : Rat) / ((1 : Nat) : Rat)
    have e : ((1 : Nat) : Rat) = 1 := rfl
    rw [e]
    grind
  · simp only [if_neg h]

theorem sub_same {x y : UInt64} (hx : Fin x) (hy : Fin y) (h : Rv x = Rv y) : Fin (sub x y) ∧ Rv (sub x y) = 0 := by
  rcases sub_spec hx hy with ⟨_, hf, hv⟩ | ⟨neg, W, hr, hX⟩
  · exact ⟨hf, hv⟩
  · rw [h] at hX
    have hX' : (0 : Rat) * (((1 : Nat) : Rat) * Kr) = sg neg * (W : Rat) := by rw [← hX]; grind
    refine exact_of (q := 0) 0 hr (by decide) hX' (by decide) (by decide) ?_
    show (0 : Rat) * 1 = sg neg * 0
    grind

theorem signF_rv {x : UInt64} (hx : Fin x) : signF x = if 0 < Rv x then 1 else if Rv x < 0 then -1 else 0 := by
  unfold signF
  rw [cmpInt_rv hx]
  have e : ((0 : Int) : Rat) = 0 := rfl
  rw [e]
  by_cases h1 : Rv x < 0
  · rw [if_pos h1, if_neg (show ¬ 0 < Rv x by grind), if_pos h1]; rfl
  · by_cases h2 : Rv x = 0
    · rw [if_neg h1, if_pos h2, if_neg (show ¬ 0 < Rv x by grind), if_neg h1]; rfl
    · rw [if_neg h1, if_neg h2, if_pos (show 0 < Rv x by grind)]; rfl

/-- the difference of two exact hues, times both bases -/
theorem hx_diff {s1 s2 p1 q1 p2 q2 : Nat} (n1 : Names s1 p1 q1) (n2 : Names s2 p2 q2) : (hx s2 ((p2 : Rat) / (q2 : Rat)) - hx s1 ((p1 : Rat) / (q1 : Rat))) * ((q1 : Rat) * (q2 : Rat)) = ((hz s2 p2 q2 * q1 - hz s1 p1 q1 * q2 : Int) : Rat) := by
  have h1 := hx_hz (p := p1) n1.s5 n1.q0
  have h2 := hx_hz (p := p2) n2.s5 n2.q0
  rw [Rat.intCast_sub, Rat.intCast_mul, Rat.intCast_mul, Rat.intCast_natCast, Rat.intCast_natCast, ← h1, ← h2]
  grind
theorem qq_bounds {q1 q2 : Nat} (a1 : 0 < q1) (a2 : q1 ≤ 64) (b1 : 0 < q2) (b2 : q2 ≤ 64) : (0 : Rat) < (q1 : Rat) * (q2 : Rat) ∧ (q1 : Rat) * (q2 : Rat) ≤ 4096 := by
  have h1 : 0 < q1 * q2 := Nat.mul_pos a1 b1
  have h2 : q1 * q2 ≤ 64 * 64 := Nat.mul_le_mul a2 b2
  rw [← Rat.natCast_mul]
  constructor
  · exact_mod_cast h1
  · have : ((q1 * q2 : Nat) : Rat) ≤ ((4096 : Nat) : Rat) := by exact_mod_cast h2
    exact this
theorem gap_pos {X Y : Rat} {z : Int} (hY : 0 < Y) (hY2 : Y ≤ 4096) (h : X * Y = (z : Rat)) (hz : 0 < z) : 1 / 4096 ≤ X := by
  have h1 : ((1 : Int) : Rat) ≤ (z : Rat) := Rat.intCast_le_intCast.mpr (by omega)
  have e : ((1 : Int) : Rat) = 1 := rfl
  rw [e, ← h] at h1
  refine Rat.le_of_mul_le_mul_right (c := Y) ?_ hY
  grind
theorem gap_neg {X Y : Rat} {z : Int} (hY : 0 < Y) (hY2 : Y ≤ 4096) (h : X * Y = (z : Rat)) (hz : z < 0) : X ≤ -(1 / 4096) := by
  have h1 : (z : Rat) ≤ ((-1 : Int) : Rat) := Rat.intCast_le_intCast.mpr (by omega)
  have e : ((-1 : Int) : Rat) = -1 := rfl
  rw [e, ← h] at h1
  refine Rat.le_of_mul_le_mul_right (c := Y) ?_ hY
  grind

/-- what is known of a hue float -/
structure HueOf (h : UInt64) (s p q : Nat) : Prop extends Names s p q where
  near : Near h (hx s ((p : Rat) / (q : Rat)) / 6) (6 * e15)
  lo : 0 ≤ Rv h
  hi : Rv h < 1
  rv : Rv h = Rv (hueS s (F p q))
theorem hueOf {r g b : Nat} (hr : r ≤ 64) (hg : g ≤ 64) (hb : b ≤ 64) : HueOf (hueV r g b) (snN r g b) (pnN r g b) (qnN r g b) := by
  have h := hue_near hr hg hb
  rw [hueX_eq] at h
  exact ⟨names hr hg hb, h.1, h.2.1, h.2.2, hue_rv hr hg hb⟩
theorem hue_sub {h1 h2 : UInt64} {s1 p1 q1 s2 p2 q2 : Nat} (a : HueOf h1 s1 p1 q1) (b : HueOf h2 s2 p2 q2) : Near (sub h2 h1) ((hx s2 ((p2 : Rat) / (q2 : Rat)) - hx s1 ((p1 : Rat) / (q1 : Rat))) / 6) (13 * e15) := by
  have he := e15_small
  have := a.lo; have := a.hi; have := b.lo; have := b.hi
  obtain ⟨f1, a1, a2⟩ := a.near
  obtain ⟨f2, b1, b2⟩ := b.near
  obtain ⟨f, c1, c2⟩ := sub_near 0 f2 f1 (by rw [p2_0]; grind) (by rw [p2_0]; grind) (by decide)
  have hu := u0_le
  refine ⟨f, ?_, ?_⟩ <;> grind
theorem hue_sign {h1 h2 : UInt64} {s1 p1 q1 s2 p2 q2 : Nat} (a : HueOf h1 s1 p1 q1) (b : HueOf h2 s2 p2 q2) : signF (sub h2 h1) = signI (hz s2 p2 q2 * q1 - hz s1 p1 q1 * q2) := by
  obtain ⟨f, c1, c2⟩ := hue_sub a b
  have hd := hx_diff a.toNames b.toNames
  obtain ⟨y0, y1⟩ := qq_bounds a.q0 a.q64 b.q0 b.q64
  have he := e15_small
  rw [signF_rv f]
  unfold signI
  rcases Int.lt_trichotomy (hz s2 p2 q2 * q1 - hz s1 p1 q1 * q2) 0 with h | h | h
  · have g := gap_neg y0 y1 hd h
    rw [if_neg (show ¬ 0 < Rv (sub h2 h1) by grind), if_pos (show Rv (sub h2 h1) < 0 by grind), if_neg (by omega), if_pos h]
  · have e : Rv h2 = Rv h1 := by
      rw [a.rv, b.rv, tie a.s5 b.s5 a.pq a.q0 a.q64 b.pq b.q0 b.q64 (by omega)]
    have h0 := (sub_same b.near.1 a.near.1 e).2
    rw [h0, h]
    decide
  · have g := gap_pos y0 y1 hd h
    rw [if_pos (show 0 < Rv (sub h2 h1) by grind), if_pos h]
end Mine

/-! part N15 -/
namespace Mine
open PySem.Float64

/-! far, and the pairs' hues -/
noncomputable abbrev tinyB : UInt64 := 4517329193108106637
theorem tiny_rv : Fin tinyB ∧ 1 / 2000000 ≤ Rv tinyB := by
  have h := const_rv (c := tinyB) (neg := false) (m := 4722366482869645) 72 (by with_unfolding_all rfl) (by decide)
  refine ⟨h.1, ?_⟩
  have h2 : Rv tinyB * ((2 ^ 72 : Nat) : Rat) = 1 * ((4722366482869645 : Nat) : Rat) := h.2
  have h3 : ((4722366482869645 : Nat) : Rat) = 4722366482869645 := rfl
  have h4 : ((2 ^ 72 : Nat) : Rat) = 4722366482869645213696 := rfl
  rw [h3, h4] at h2
  grind
theorem cmp_gt_false {x y : UInt64} (hx : Fin x) (hy : Fin y) (h : Rv x ≤ Rv y) : (cmp x y == some .gt) = false := by
  rw [cmp_rv hx hy]
  by_cases h1 : Rv x < Rv y
  · rw [if_pos h1]; rfl
  · rw [if_neg h1, if_pos (show Rv x = Rv y by grind)]; rfl
/-- near ones are not far -/
theorem farFF_false {x y : UInt64} (k : Nat) (hx : Fin x) (hy : Fin y) (hk : k ≤ 20) (h1 : Rv x - Rv y ≤ 1 / 10000000) (h2 : -(1 / 10000000) ≤ Rv x - Rv y) : farFF x y = false := by
  obtain ⟨f, c1, c2⟩ := sub_near 0 hx hy (by rw [p2_0]; grind) (by rw [p2_0]; grind) (by decide)
  obtain ⟨g, d1, d2⟩ := abs_rv f
  have hu := u0_le
  have he := e15_small
  have ht := tiny_rv
  unfold farFF
  refine cmp_gt_false g ht.1 ?_
  rcases d1 with d | d <;> rw [d] <;> grind
theorem far_near {x y : UInt64} {X Y E E' : Rat} (hx : Near x X E) (hy : Near y Y E') (h1 : X - Y + E + E' ≤ 1 / 10000000) (h2 : -(1 / 10000000) ≤ X - Y - E - E') : farFF x y = false := by
  obtain ⟨f, a1, a2⟩ := hx
  obtain ⟨g, b1, b2⟩ := hy
  refine farFF_false 0 f g (by decide) ?_ ?_ <;> grind
theorem farFI_near {x : UInt64} {X E : Rat} {i : Int} (hx : Near x X E) (hi : i.natAbs ≤ 2 ^ 53) (h1 : X - (i : Rat) + E ≤ 1 / 10000000) (h2 : -(1 / 10000000) ≤ X - (i : Rat) - E) : farFI x i = false := by
  unfold farFI
  exact far_near hx (exact_n (ofInt_rv hi)) (by grind) (by grind)

/-- a heading and the direction of its names: a grey's heading is shorter -/
noncomputable def HeadOf (x y : Int) (s p q : Nat) : Prop := (x = wu s p q ∧ y = wv s p q) ∨ (x = 1 ∧ y = 0 ∧ s = 0 ∧ p = 1 ∧ q = 1)
theorem lower_head {x y : Int} {s p q : Nat} (h : HeadOf x y s p q) : lowerI x y = lowerI (wu s p q) (wv s p q) := by
  rcases h with ⟨rfl, rfl⟩ | ⟨rfl, rfl, rfl, rfl, rfl⟩
  · rfl
  · decide
theorem cross_head {x1 y1 x2 y2 : Int} {s1 p1 q1 s2 p2 q2 : Nat} (h1 : HeadOf x1 y1 s1 p1 q1) (h2 : HeadOf x2 y2 s2 p2 q2) : (0 < crossI x1 y1 x2 y2 ↔ 0 < crossI (wu s1 p1 q1) (wv s1 p1 q1) (wu s2 p2 q2) (wv s2 p2 q2)) ∧ (crossI x1 y1 x2 y2 < 0 ↔ crossI (wu s1 p1 q1) (wv s1 p1 q1) (wu s2 p2 q2) (wv s2 p2 q2) < 0) := by
  rcases h1 with ⟨rfl, rfl⟩ | ⟨rfl, rfl, rfl, rfl, rfl⟩ <;> rcases h2 with ⟨rfl, rfl⟩ | ⟨rfl, rfl, rfl, rfl, rfl⟩
  · exact ⟨Iff.rfl, Iff.rfl⟩
  · generalize wu s1 p1 q1 = a
    generalize wv s1 p1 q1 = b
    unfold crossI
    simp only [wu, wv]
    constructor <;> omega
  · generalize wu s2 p2 q2 = a
    generalize wv s2 p2 q2 = b
    unfold crossI
    simp only [wu, wv]
    constructor <;> omega
  · decide
theorem order_head {x1 y1 x2 y2 : Int} {s1 p1 q1 s2 p2 q2 : Nat} (h1 : HeadOf x1 y1 s1 p1 q1) (h2 : HeadOf x2 y2 s2 p2 q2) : orderI x1 y1 x2 y2 = orderI (wu s1 p1 q1) (wv s1 p1 q1) (wu s2 p2 q2) (wv s2 p2 q2) := by
  obtain ⟨c1, c2⟩ := cross_head h1 h2
  unfold orderI
  rw [lower_head h1, lower_head h2, signI_eq c1 c2]

theorem hues_order {h1 h2 : UInt64} {s1 p1 q1 s2 p2 q2 : Nat} {x1 y1 x2 y2 : Int} (a : HueOf h1 s1 p1 q1) (b : HueOf h2 s2 p2 q2) (c1 : HeadOf x1 y1 s1 p1 q1) (c2 : HeadOf x2 y2 s2 p2 q2) :
    signF (sub h2 h1) = orderI x1 y1 x2 y2 := by
  have := a.pq; have := a.q0; have := b.pq; have := b.q0
  rw [order_head c1 c2, hue_sign a b, order_hz a.s5 b.s5 (by omega) (by omega) (by omega) (fun e => by have := a.lt e; omega) (by omega) (by omega) (by omega) (fun e => by have := b.lt e; omega)]
theorem hues_half {h1 h2 : UInt64} {s1 p1 q1 s2 p2 q2 : Nat} {x1 y1 x2 y2 : Int} (a : HueOf h1 s1 p1 q1) (b : HueOf h2 s2 p2 q2) (c1 : HeadOf x1 y1 s1 p1 q1) (c2 : HeadOf x2 y2 s2 p2 q2)
    (ho : orderI x1 y1 x2 y2 ≠ 0) (hc : crossI x1 y1 x2 y2 = 0) : farFF (abs (sub h2 h1)) halfB = false := by
  have := a.pq; have := a.q0; have := b.pq; have := b.q0
  obtain ⟨k1, k2⟩ := cross_head c1 c2
  have hc' : crossI (wu s1 p1 q1) (wv s1 p1 q1) (wu s2 p2 q2) (wv s2 p2 q2) = 0 := by omega
  have hn : hz s2 p2 q2 * q1 - hz s1 p1 q1 * q2 ≠ 0 := by
    intro h
    apply ho
    rw [← hues_order a b c1 c2, hue_sign a b, h]
    rfl
  have hh := half_hz a.s5 b.s5 (by omega) (by omega) (by omega) (fun e => by have := a.lt e; omega) (by omega) (by omega) (by omega) (fun e => by have := b.lt e; omega) hc' hn
  obtain ⟨f, d1, d2⟩ := hue_sub a b
  have hd := hx_diff a.toNames b.toNames
  obtain ⟨z0, z1⟩ := qq_bounds a.q0 a.q64 b.q0 b.q64
  have he := e15_small
  have h6 := half_rv
  obtain ⟨g, ab, pos⟩ := abs_rv f
  have hX : hx s2 ((p2 : Rat) / (q2 : Rat)) - hx s1 ((p1 : Rat) / (q1 : Rat)) = 3 ∨ hx s2 ((p2 : Rat) / (q2 : Rat)) - hx s1 ((p1 : Rat) / (q1 : Rat)) = -3 := by
    have hz0 : (q1 : Rat) * (q2 : Rat) ≠ 0 := fun c => by rw [c] at z0; exact absurd z0 (by decide)
    rcases hh with h | h
    · left
      have e : ((3 * ((q1 : Int) * q2) : Int) : Rat) = 3 * ((q1 : Rat) * (q2 : Rat)) := by rw [Rat.intCast_mul, Rat.intCast_mul, Rat.intCast_natCast, Rat.intCast_natCast]; rfl
      rw [h, e] at hd
      generalize (q1 : Rat) * (q2 : Rat) = Y at *
      grind
    · right
      have e : ((-3 * ((q1 : Int) * q2) : Int) : Rat) = -3 * ((q1 : Rat) * (q2 : Rat)) := by rw [Rat.intCast_mul, Rat.intCast_mul, Rat.intCast_natCast, Rat.intCast_natCast]; rfl
      rw [h, e] at hd
      generalize (q1 : Rat) * (q2 : Rat) = Y at *
      grind
  refine farFF_false 0 g h6.1 (by decide) ?_ ?_ <;> rw [h6.2] <;> rcases hX with h | h <;> rw [h] at d1 d2 <;> rcases ab with e | e <;> grind
end Mine

/-! part N16 -/
namespace Mine
open PySem.Float64

/-! constants -/
theorem p2_pos (i : Nat) : (0 : Rat) < p2 i := by
  have h : 0 < 2 ^ i := Nat.two_pow_pos i
  exact_mod_cast h
theorem const_c {c : UInt64} {m i : Nat} {X : Rat} (h : decode c = .fin false m (-(i : Int))) (hi : i ≤ 1074) (h1 : (m : Rat) ≤ (X + e15) * p2 i ∧ (X - e15) * p2 i ≤ (m : Rat)) : Near c X e15 := by
  obtain ⟨f, e⟩ := const_rv i h hi
  have e2 : Rv c * p2 i = (m : Rat) := by rw [e]; exact Rat.one_mul _
  obtain ⟨a, b⟩ := h1
  rw [← e2] at a b
  have a' := Rat.le_of_mul_le_mul_right a (p2_pos i)
  have b' := Rat.le_of_mul_le_mul_right b (p2_pos i)
  exact ⟨f, by grind, by grind⟩
noncomputable abbrev c30 : UInt64 := 4599075939470750515
theorem c30_n : Near c30 (3 / 10) e15 := const_c (m := 5404319552844595) (i := 54) (by with_unfolding_all rfl) (by decide) (by decide +kernel)
noncomputable abbrev c59 : UInt64 := 4603489467105573601
theorem c59_n : Near c59 (59 / 100) e15 := const_c (m := 5314247560297185) (i := 53) (by with_unfolding_all rfl) (by decide) (by decide +kernel)
noncomputable abbrev c11 : UInt64 := 4592590756007337001
theorem c11_n : Near c11 (11 / 100) e15 := const_c (m := 7926335344172073) (i := 56) (by with_unfolding_all rfl) (by decide) (by decide +kernel)
noncomputable abbrev c74 : UInt64 := 4604840546993784750
theorem c74_n : Near c74 (74 / 100) e15 := const_c (m := 6665327448508334) (i := 53) (by with_unfolding_all rfl) (by decide) (by decide +kernel)
noncomputable abbrev c27 : UInt64 := 4598535507515466056
theorem c27_n : Near c27 (27 / 100) e15 := const_c (m := 4863887597560136) (i := 54) (by with_unfolding_all rfl) (by decide) (by decide +kernel)
noncomputable abbrev c48 : UInt64 := 4602318531202457272
theorem c48_n : Near c48 (48 / 100) e15 := const_c (m := 8646911284551352) (i := 54) (by with_unfolding_all rfl) (by decide) (by decide +kernel)
noncomputable abbrev c41 : UInt64 := 4601057523306793533
theorem c41_n : Near c41 (41 / 100) e15 := const_c (m := 7385903388887613) (i := 54) (by with_unfolding_all rfl) (by decide) (by decide +kernel)
noncomputable abbrev cRi : UInt64 := 4606703976345377586
theorem cRi_n : Near cRi (9468822170900693 / 10000000000000000) e15 := const_c (m := 8528756800101170) (i := 53) (by with_unfolding_all rfl) (by decide) (by decide +kernel)
noncomputable abbrev cRq : UInt64 := 4603791717925830846
theorem cRq_n : Near cRq (6235565819861433 / 10000000000000000) e15 := const_c (m := 5616498380554430) (i := 53) (by with_unfolding_all rfl) (by decide) (by decide +kernel)
noncomputable abbrev cGi : UInt64 := 4598621754083818298
theorem cGi_n : Near cGi (27478764629897834 / 100000000000000000) e15 := const_c (m := 4950134165912378) (i := 54) (by with_unfolding_all rfl) (by decide) (by decide +kernel)
noncomputable abbrev cGq : UInt64 := 4603901015759978483
theorem cGq_n : Near cGq (6356910791873801 / 10000000000000000) e15 := const_c (m := 5725796214702067) (i := 53) (by with_unfolding_all rfl) (by decide) (by decide +kernel)
noncomputable abbrev cBi : UInt64 := 4607671262177584182
theorem cBi_n : Near cBi (11085450346420322 / 10000000000000000) e15 := const_c (m := 4992443004937270) (i := 52) (by with_unfolding_all rfl) (by decide) (by decide +kernel)
noncomputable abbrev cBq : UInt64 := 4610375502138591871
theorem cBq_n : Near cBq (17090069284064666 / 10000000000000000) e15 := const_c (m := 7696682965944959) (i := 52) (by with_unfolding_all rfl) (by decide) (by decide +kernel)
noncomputable abbrev cW : UInt64 := 4593770158677752786
theorem cW_n : Near cW (127735 / 1000000) e15 := const_c (m := 4602138387217362) (i := 55) (by with_unfolding_all rfl) (by decide) (by decide +kernel)
noncomputable abbrev c16 : UInt64 := 4595172819793696085
theorem c16_n : Near c16 (1 / 6) e15 := const_c (m := 6004799503160661) (i := 55) (by with_unfolding_all rfl) (by decide) (by decide +kernel)
noncomputable abbrev c23 : UInt64 := 4604180019048437077
theorem c23_n : Near c23 (2 / 3) e15 := const_c (m := 6004799503160661) (i := 53) (by with_unfolding_all rfl) (by decide) (by decide +kernel)
noncomputable abbrev c13 : UInt64 := 4599676419421066581
theorem c13_n : Near c13 (1 / 3) e15 := const_c (m := 6004799503160661) (i := 54) (by with_unfolding_all rfl) (by decide) (by decide +kernel)

/-! yiq -/
structure Unit01 (x : UInt64) (X : Rat) : Prop where
  near : Near x X 0
  lo : 0 ≤ X
  hi : X ≤ 1
noncomputable def lin (a b c R G B : Rat) : Rat := a * R + b * G + c * B
noncomputable def ab (a : Rat) : Rat := if a < 0 then -a else a
structure Cube (R G B : Rat) : Prop where
  r0 : 0 ≤ R
  r1 : R ≤ 1
  g0 : 0 ≤ G
  g1 : G ≤ 1
  b0 : 0 ≤ B
  b1 : B ≤ 1
theorem ab_mul {a R : Rat} (h0 : 0 ≤ R) (h1 : R ≤ 1) : a * R ≤ ab a ∧ -ab a ≤ a * R := by
  unfold ab
  by_cases c : a < 0
  · rw [if_pos c]
    have := prod_bound (a := a) (b := R) (c := -a) (d := 1) (by grind) (by grind) h1 (by grind)
    constructor <;> grind
  · rw [if_neg c]
    have := prod_bound (a := a) (b := R) (c := a) (d := 1) (by grind) (by grind) h1 (by grind)
    constructor <;> grind
theorem lin_bound {a b c R G B : Rat} (U : Cube R G B) : lin a b c R G B ≤ ab a + ab b + ab c ∧ -(ab a + ab b + ab c) ≤ lin a b c R G B := by
  have h1 := ab_mul (a := a) U.r0 U.r1
  have h2 := ab_mul (a := b) U.g0 U.g1
  have h3 := ab_mul (a := c) U.b0 U.b1
  unfold lin
  constructor <;> grind
section
variable {R G B : Rat}
theorem add_l {x y : UInt64} {a b c a' b' c' E E' : Rat} (A B' C E'' : Rat) (U : Cube R G B) (hx : Near x (lin a b c R G B) E) (hy : Near y (lin a' b' c' R G B) E') (h : a + a' = A ∧ b + b' = B' ∧ c + c' = C ∧ ab A + ab B' + ab C + E + E' ≤ 8 ∧ E + E' + e15 ≤ E'') : Near (add x y) (lin A B' C R G B) E'' := by
  obtain ⟨rfl, rfl, rfl, h1, h2⟩ := h
  have e : lin (a + a') (b + b') (c + c') R G B = lin a b c R G B + lin a' b' c' R G B := by unfold lin; grind
  have l := lin_bound (a := a + a') (b := b + b') (c := c + c') U
  rw [e] at l ⊢
  exact (add_n hx hy (by grind) (by grind)).to rfl h2
theorem sub_l {x y : UInt64} {a b c a' b' c' E E' : Rat} (A B' C E'' : Rat) (U : Cube R G B) (hx : Near x (lin a b c R G B) E) (hy : Near y (lin a' b' c' R G B) E') (h : a - a' = A ∧ b - b' = B' ∧ c - c' = C ∧ ab A + ab B' + ab C + E + E' ≤ 8 ∧ E + E' + e15 ≤ E'') : Near (sub x y) (lin A B' C R G B) E'' := by
  obtain ⟨rfl, rfl, rfl, h1, h2⟩ := h
  have e : lin (a - a') (b - b') (c - c') R G B = lin a b c R G B - lin a' b' c' R G B := by unfold lin; grind
  have l := lin_bound (a := a - a') (b := b - b') (c := c - c') U
  rw [e] at l ⊢
  exact (sub_n hx hy (by grind) (by grind)).to rfl h2
theorem mul_l {x y : UInt64} {k a b c E E' : Rat} (A B' C E'' : Rat) (U : Cube R G B) (hx : Near x k E) (hy : Near y (lin a b c R G B) E') (h : k * a = A ∧ k * b = B' ∧ k * c = C ∧ (ab k + E) * (ab a + ab b + ab c + E') ≤ p2 3 ∧ (ab k + E) * E' + (ab a + ab b + ab c) * E + u 3 ≤ E'') : Near (mul x y) (lin A B' C R G B) E'' := by
  obtain ⟨rfl, rfl, rfl, h1, h2⟩ := h
  have l := lin_bound (a := a) (b := b) (c := c) U
  have hk : -ab k ≤ k ∧ k ≤ ab k := by unfold ab; split <;> constructor <;> grind
  have m := NB.mul 3 (ab k * (ab a + ab b + ab c)) E'' ⟨hx, hk.1, hk.2⟩ ⟨hy, l.2, l.1⟩ ⟨by decide, h1, h2, Rat.le_refl⟩
  exact m.n.to (by unfold lin; grind) Rat.le_refl
theorem end_r {x : UInt64} {a b c E E'' : Rat} (U : Cube R G B) (h : Near x (lin a b c R G B) E) (h1 : ab (a - 1) + ab b + ab c + E ≤ E'') : Near x R E'' := by
  have l := lin_bound (a := a - 1) (b := b) (c := c) U
  have e : lin (a - 1) b c R G B = lin a b c R G B - R := by unfold lin; grind
  rw [e] at l
  exact h.mono (by grind) (by grind)
theorem end_g {x : UInt64} {a b c E E'' : Rat} (U : Cube R G B) (h : Near x (lin a b c R G B) E) (h1 : ab a + ab (b - 1) + ab c + E ≤ E'') : Near x G E'' := by
  have l := lin_bound (a := a) (b := b - 1) (c := c) U
  have e : lin a (b - 1) c R G B = lin a b c R G B - G := by unfold lin; grind
  rw [e] at l
  exact h.mono (by grind) (by grind)
theorem end_b {x : UInt64} {a b c E E'' : Rat} (U : Cube R G B) (h : Near x (lin a b c R G B) E) (h1 : ab a + ab b + ab (c - 1) + E ≤ E'') : Near x B E'' := by
  have l := lin_bound (a := a) (b := b) (c := c - 1) U
  have e : lin a b (c - 1) R G B = lin a b c R G B - B := by unfold lin; grind
  rw [e] at l
  exact h.mono (by grind) (by grind)
end
noncomputable def yX (R G B : Rat) : Rat := lin (3 / 10) (59 / 100) (11 / 100) R G B
noncomputable def iX (R G B : Rat) : Rat := lin (599 / 1000) (-2773 / 10000) (-3217 / 10000) R G B
noncomputable def qX (R G B : Rat) : Rat := lin (213 / 1000) (-5251 / 10000) (3121 / 10000) R G B
theorem cube_of {x y z : UInt64} {R G B : Rat} (hx : Unit01 x R) (hy : Unit01 y G) (hz : Unit01 z B) : Cube R G B ∧ Near x (lin 1 0 0 R G B) 0 ∧ Near y (lin 0 1 0 R G B) 0 ∧ Near z (lin 0 0 1 R G B) 0 :=
  ⟨⟨hx.lo, hx.hi, hy.lo, hy.hi, hz.lo, hz.hi⟩, hx.near.to (by unfold lin; grind) Rat.le_refl, hy.near.to (by unfold lin; grind) Rat.le_refl, hz.near.to (by unfold lin; grind) Rat.le_refl⟩
theorem y_near {x y z : UInt64} {R G B : Rat} (hx : Unit01 x R) (hy : Unit01 y G) (hz : Unit01 z B) : Near (yiqF x y z).1 (yX R G B) (8 * e15) ∧ 0 ≤ yX R G B ∧ yX R G B ≤ 1 := by
  obtain ⟨U, xn, yn, zn⟩ := cube_of hx hy hz
  have m1 := mul_l (3 / 10) (0) (0) (2 * e15) U c30_n xn (by decide +kernel)
  have m2 := mul_l (0) (59 / 100) (0) (2 * e15) U c59_n yn (by decide +kernel)
  have m3 := mul_l (0) (0) (11 / 100) (2 * e15) U c11_n zn (by decide +kernel)
  have s1 := add_l (3 / 10) (59 / 100) (0) (5 * e15) U m1 m2 (by decide +kernel)
  have s2 := add_l (3 / 10) (59 / 100) (11 / 100) (8 * e15) U s1 m3 (by decide +kernel)
  have r0 := U.r0; have g0 := U.g0; have b0 := U.b0
  have r1 := U.r1; have g1 := U.g1; have b1 := U.b1
  refine ⟨s2, ?_, ?_⟩ <;> unfold yX lin <;> grind
theorem iq_near {x y z : UInt64} {R G B : Rat} (hx : Unit01 x R) (hy : Unit01 y G) (hz : Unit01 z B) : NB (yiqF x y z).2.1 (iX R G B) (41 * e15) (6 / 5) ∧ NB (yiqF x y z).2.2 (qX R G B) (41 * e15) (6 / 5) := by
  obtain ⟨ny, _, _⟩ := y_near hx hy hz
  obtain ⟨U, xn, yn, zn⟩ := cube_of hx hy hz
  have d1 := sub_l (7 / 10) (-59 / 100) (-11 / 100) (9 * e15) U xn ny (by decide +kernel)
  have d2 := sub_l (-3 / 10) (-59 / 100) (89 / 100) (9 * e15) U zn ny (by decide +kernel)
  have m1 := mul_l (259 / 500) (-2183 / 5000) (-407 / 5000) (20 * e15) U c74_n d1 (by decide +kernel)
  have m2 := mul_l (-81 / 1000) (-1593 / 10000) (2403 / 10000) (20 * e15) U c27_n d2 (by decide +kernel)
  have m3 := mul_l (42 / 125) (-177 / 625) (-33 / 625) (20 * e15) U c48_n d1 (by decide +kernel)
  have m4 := mul_l (-123 / 1000) (-2419 / 10000) (3649 / 10000) (20 * e15) U c41_n d2 (by decide +kernel)
  have s1 := sub_l (599 / 1000) (-2773 / 10000) (-3217 / 10000) (41 * e15) U m1 m2 (by decide +kernel)
  have s2 := add_l (213 / 1000) (-5251 / 10000) (3121 / 10000) (41 * e15) U m3 m4 (by decide +kernel)
  have l1 := lin_bound (a := (599 / 1000)) (b := (-2773 / 10000)) (c := (-3217 / 10000)) U
  have l2 := lin_bound (a := (213 / 1000)) (b := (-5251 / 10000)) (c := (3121 / 10000)) U
  have k1 : ab (599 / 1000) + ab (-2773 / 10000) + ab (-3217 / 10000) ≤ 6 / 5 := by decide +kernel
  have k2 : ab (213 / 1000) + ab (-5251 / 10000) + ab (3121 / 10000) ≤ 6 / 5 := by decide +kernel
  have kn : ∀ a b : Rat, a ≤ b → -b ≤ -a := fun a b h => by grind
  exact ⟨⟨s1, Rat.le_trans (kn _ _ k1) l1.2, Rat.le_trans l1.1 k1⟩, ⟨s2, Rat.le_trans (kn _ _ k2) l2.2, Rat.le_trans l2.1 k2⟩⟩

theorem cmp_lt_rv {x y : UInt64} (hx : Fin x) (hy : Fin y) : (cmp x y == some .lt) = decide (Rv x < Rv y) := by
  rw [cmp_rv hx hy]
  by_cases h : Rv x < Rv y
  · rw [if_pos h, decide_eq_true h]; rfl
  · rw [if_neg h, decide_eq_false h]
    split <;> rfl
theorem lt_or {a b : Rat} (h : ¬ a < b) : a = b ∨ b < a := by grind
theorem lt_ne {a b : Rat} (h : a < b) : ¬ a = b := by grind
theorem lt_not {a b : Rat} (h : a < b) : ¬ b < a := by grind
theorem cmp_eq_rv {x y : UInt64} (hx : Fin x) (hy : Fin y) : (cmp x y == some .eq) = decide (Rv x = Rv y) := by
  rw [cmp_rv hx hy]
  by_cases h : Rv x < Rv y
  · rw [if_pos h, decide_eq_false (lt_ne h)]; rfl
  · rw [if_neg h]
    by_cases h2 : Rv x = Rv y
    · rw [if_pos h2, decide_eq_true h2]; rfl
    · rw [if_neg h2, decide_eq_false h2]; rfl
theorem cmp_gt_rv {x y : UInt64} (hx : Fin x) (hy : Fin y) : (cmp x y == some .gt) = decide (Rv y < Rv x) := by
  rw [cmp_rv hx hy]
  by_cases h : Rv x < Rv y
  · rw [if_pos h, decide_eq_false (lt_not h)]; rfl
  · rw [if_neg h]
    by_cases h2 : Rv x = Rv y
    · rw [if_pos h2, decide_eq_false (fun c => by rw [h2] at h; rw [h2] at c; exact h c)]; rfl
    · rw [if_neg h2, decide_eq_true ((lt_or h).resolve_left h2)]; rfl

theorem clamp_near {x : UInt64} {X E : Rat} (h : Near x X E) (h0 : 0 ≤ X) (h1 : X ≤ 1) : Near (clampF x) X E := by
  obtain ⟨f, a1, a2⟩ := h
  have hz := zero_rv
  have ho := one_rv
  unfold clampF gtF ltF
  rw [cmp_lt_rv f hz.1, hz.2]
  by_cases c : Rv x < 0
  · rw [decide_eq_true c]
    simp only [if_true]
    rw [cmp_gt_rv hz.1 ho.1, hz.2, ho.2, decide_eq_false (by decide)]
    simp only [Bool.false_eq_true, if_false]
    refine ⟨hz.1, ?_, ?_⟩ <;> rw [hz.2] <;> grind
  · rw [decide_eq_false c]
    simp only [Bool.false_eq_true, if_false]
    rw [cmp_gt_rv f ho.1, ho.2]
    by_cases d : 1 < Rv x
    · rw [decide_eq_true d]
      simp only [if_true]
      refine ⟨ho.1, ?_, ?_⟩ <;> rw [ho.2] <;> grind
    · rw [decide_eq_false d]
      simp only [Bool.false_eq_true, if_false]
      exact ⟨f, a1, a2⟩

theorem yiqr_near {x y z : UInt64} {R G B : Rat} (hx : Unit01 x R) (hy : Unit01 y G) (hz : Unit01 z B) :
    Near (yiqrF (yiqF x y z).1 (yiqF x y z).2.1 (yiqF x y z).2.2).1 R (1000 * e15) ∧ Near (yiqrF (yiqF x y z).1 (yiqF x y z).2.1 (yiqF x y z).2.2).2.1 G (1000 * e15) ∧ Near (yiqrF (yiqF x y z).1 (yiqF x y z).2.1 (yiqF x y z).2.2).2.2 B (1000 * e15) := by
  obtain ⟨ny, _, _⟩ := y_near hx hy hz
  obtain ⟨⟨ni, _, _⟩, ⟨nq, _, _⟩⟩ := iq_near hx hy hz
  obtain ⟨U, _, _, _⟩ := cube_of hx hy hz
  generalize (yiqF x y z).1 = fy at *
  generalize (yiqF x y z).2.1 = fi at *
  generalize (yiqF x y z).2.2 = fq at *
  have m1 := mul_l (5671824480369515107 / 10000000000000000000) (-26257043879907621689 / 100000000000000000000) (-30461200923787529381 / 100000000000000000000) (130 * e15) U cRi_n ni (by decide +kernel)
  have m2 := mul_l (1328175519630485229 / 10000000000000000000) (-32742956120092384683 / 100000000000000000000) (19461200923787532393 / 100000000000000000000) (130 * e15) U cRq_n nq (by decide +kernel)
  have m3 := mul_l (8229890006654401283 / 50000000000000000000) (-38099307159353346841 / 500000000000000000000) (-44199592907190665989 / 500000000000000000000) (130 * e15) U cGi_n ni (by decide +kernel)
  have m4 := mul_l (1354021998669119613 / 10000000000000000000) (-33380138568129329051 / 100000000000000000000) (19839918581438132921 / 100000000000000000000) (130 * e15) U cGq_n nq (by decide +kernel)
  have m5 := mul_l (3320092378752886439 / 5000000000000000000) (-15369976905311776453 / 50000000000000000000) (-17830946882217087937 / 50000000000000000000) (130 * e15) U cBi_n ni (by decide +kernel)
  have m6 := mul_l (1820092378752886929 / 5000000000000000000) (-44869976905311780583 / 50000000000000000000) (26669053117782911293 / 50000000000000000000) (130 * e15) U cBq_n nq (by decide +kernel)
  have r1 := add_l (8671824480369515107 / 10000000000000000000) (32742956120092378311 / 100000000000000000000) (-19461200923787529381 / 100000000000000000000) (150 * e15) U ny m1 (by decide +kernel)
  have r2 := add_l (625000000000000021 / 625000000000000000) (-1593 / 25000000000000000000) (753 / 25000000000000000000) (300 * e15) U r1 m2 (by decide +kernel)
  have g1 := sub_l (6770109993345598717 / 50000000000000000000) (333099307159353346841 / 500000000000000000000) (99199592907190665989 / 500000000000000000000) (150 * e15) U ny m3 (by decide +kernel)
  have g2 := sub_l (163 / 12500000000000000000) (15624999999999999753 / 15625000000000000000) (173 / 62500000000000000000) (300 * e15) U g1 m4 (by decide +kernel)
  have b1 := sub_l (-1820092378752886439 / 5000000000000000000) (44869976905311776453 / 50000000000000000000) (23330946882217087937 / 50000000000000000000) (150 * e15) U ny m5 (by decide +kernel)
  have b2 := add_l (49 / 500000000000000000) (-413 / 5000000000000000000) (4999999999999999923 / 5000000000000000000) (300 * e15) U b1 m6 (by decide +kernel)
  exact ⟨clamp_near (end_r U r2 (by decide +kernel)) U.r0 U.r1, clamp_near (end_g U g2 (by decide +kernel)) U.g0 U.g1, clamp_near (end_b U b2 (by decide +kernel)) U.b0 U.b1⟩
end Mine

/-! part N17 -/
namespace Mine
open PySem.Float64

/-! exact results -/
theorem exact_z {r : UInt64} {neg : Bool} {W D : Nat} {X : Rat} (i : Nat) (z : Int) (h : Right r neg W D) (hD : 0 < D) (hX : X * ((D : Rat) * Kr) = sg neg * (W : Rat)) (hi : i ≤ 1074) (hz : z.natAbs ≤ 2 ^ 53) (hXz : X * p2 i = (z : Rat)) : Fin r ∧ Rv r = X := by
  have hd : (0 : Rat) < (D : Rat) := by exact_mod_cast hD
  have hK := Rat.mul_pos hd Kr_pos
  have hp : (0 : Rat) < p2 i := by exact_mod_cast Nat.two_pow_pos i
  have hW : (0 : Rat) ≤ (W : Rat) := Rat.natCast_nonneg
  refine exact_of i h hD hX hi hz ?_
  rw [hXz]
  generalize (D : Rat) * Kr = Y at *
  have e0 : ((0 : Int) : Rat) = 0 := rfl
  cases neg
  · have h1 : X * Y = 1 * (W : Rat) := hX
    have h2 : 0 ≤ X := Rat.le_of_mul_le_mul_right (c := Y) (by rw [h1]; grind) hK
    have h3 : ((0 : Int) : Rat) ≤ (z : Rat) := by rw [← hXz, e0]; exact Rat.mul_nonneg h2 (Rat.le_of_lt hp)
    have h4 := Rat.intCast_le_intCast.mp h3
    rw [natAbs_cast z, decide_eq_false (by omega)]
  · have h1 : X * Y = -1 * (W : Rat) := hX
    have h2 : 0 ≤ -X := Rat.le_of_mul_le_mul_right (c := Y) (by grind) hK
    have h3 : (z : Rat) ≤ ((0 : Int) : Rat) := by
      have := Rat.mul_nonneg h2 (Rat.le_of_lt hp)
      rw [← hXz, e0]; grind
    have h4 := Rat.intCast_le_intCast.mp h3
    by_cases h5 : z < 0
    · rw [natAbs_cast z, decide_eq_true h5]
    · have h6 : z = 0 := by omega
      subst h6
      show (0 : Rat) = sg true * 0
      grind
theorem add_ex {x y : UInt64} {X Y : Rat} (i : Nat) (z : Int) (hx : Fin x ∧ Rv x = X) (hy : Fin y ∧ Rv y = Y) (h : (X + Y) * p2 i = (z : Rat)) (hz : z.natAbs ≤ 2 ^ 53) (hi : i ≤ 1074) : Fin (add x y) ∧ Rv (add x y) = X + Y := by
  obtain ⟨fx, rfl⟩ := hx
  obtain ⟨fy, rfl⟩ := hy
  rcases add_spec fx fy with ⟨h0, f, v⟩ | ⟨neg, W, hr, hX⟩
  · exact ⟨f, by rw [v, h0]⟩
  · exact exact_z i z hr (by decide) hX hi hz h
theorem sub_ex {x y : UInt64} {X Y : Rat} (i : Nat) (z : Int) (hx : Fin x ∧ Rv x = X) (hy : Fin y ∧ Rv y = Y) (h : (X - Y) * p2 i = (z : Rat)) (hz : z.natAbs ≤ 2 ^ 53) (hi : i ≤ 1074) : Fin (sub x y) ∧ Rv (sub x y) = X - Y := by
  obtain ⟨fx, rfl⟩ := hx
  obtain ⟨fy, rfl⟩ := hy
  rcases sub_spec fx fy with ⟨h0, f, v⟩ | ⟨neg, W, hr, hX⟩
  · exact ⟨f, by rw [v, h0]⟩
  · exact exact_z i z hr (by decide) hX hi hz h
theorem mul_ex {x y : UInt64} {X Y : Rat} (i : Nat) (z : Int) (hx : Fin x ∧ Rv x = X) (hy : Fin y ∧ Rv y = Y) (h : (X * Y) * p2 i = (z : Rat)) (hz : z.natAbs ≤ 2 ^ 53) (hi : i ≤ 1074) : Fin (mul x y) ∧ Rv (mul x y) = X * Y := by
  obtain ⟨fx, rfl⟩ := hx
  obtain ⟨fy, rfl⟩ := hy
  obtain ⟨neg, W, hr, hX⟩ := mul_spec fx fy
  exact exact_z i z hr (Nat.two_pow_pos 1074) hX hi hz h
theorem div_ex {x y : UInt64} {X Y : Rat} (i : Nat) (z : Int) (hx : Fin x ∧ Rv x = X * Y) (hy : Fin y ∧ Rv y = Y) (h0 : Y ≠ 0) (h : X * p2 i = (z : Rat)) (hz : z.natAbs ≤ 2 ^ 53) (hi : i ≤ 1074) : Fin (div x y) ∧ Rv (div x y) = X := by
  obtain ⟨fx, hx⟩ := hx
  obtain ⟨fy, rfl⟩ := hy
  obtain ⟨neg, W, D, hD, hr, hX⟩ := div_spec fx fy h0 hx.symm
  exact exact_z i z hr hD hX hi hz h

theorem cn_ex {n : Nat} (h : n ≤ 1000) : Fin (cn n) ∧ Rv (cn n) = (n : Rat) / 64 := ⟨cn_fin (by omega), cn_val (by omega)⟩
theorem int_ex {i : Int} (h : i.natAbs ≤ 2 ^ 53) : Fin (ofInt i) ∧ Rv (ofInt i) = (i : Rat) := ofInt_rv h
theorem nat_le {a b : Nat} (h : a ≤ b) : (a : Rat) ≤ (b : Rat) := by exact_mod_cast h
theorem nat_nn (a : Nat) : (0 : Rat) ≤ (a : Rat) := Rat.natCast_nonneg
theorem nat_pos {a : Nat} (h : 0 < a) : (0 : Rat) < (a : Rat) := by exact_mod_cast h
theorem cast64 : ((64 : Nat) : Rat) = 64 := rfl
theorem cn_unit {n : Nat} (h : n ≤ 64) : Unit01 (cn n) ((n : Rat) / 64) := by
  have h1 := nat_le h
  have h2 := nat_nn n
  rw [cast64] at h1
  exact ⟨exact_n (cn_ex (by omega)), by grind, by grind⟩
theorem ci64 : ((64 : Int) : Rat) = 64 := rfl
theorem ci128 : ((128 : Int) : Rat) = 128 := rfl
theorem ci6400 : ((6400 : Int) : Rat) = 6400 := rfl
theorem ci2 : ((2 : Int) : Rat) = 2 := rfl
theorem ci1 : ((1 : Int) : Rat) = 1 := rfl
theorem ci0 : ((0 : Int) : Rat) = 0 := rfl
theorem pw6 : p2 6 = 64 := rfl
theorem pw7 : p2 7 = 128 := rfl
theorem pw8 : p2 8 = 256 := rfl

theorem cmpInt_eq_false {x : UInt64} {i : Int} (hx : Fin x) (h : Rv x = (i : Rat)) : (cmpInt x i != some .eq) = false := by
  rw [cmpInt_rv hx, if_neg (show ¬ Rv x < (i : Rat) by grind), if_pos h]; rfl
theorem cmpInt_lt_false {x : UInt64} {i : Int} (hx : Fin x) (h : (i : Rat) ≤ Rv x) : (cmpInt x i == some .lt) = false := by
  rw [cmpInt_rv hx, if_neg (show ¬ Rv x < (i : Rat) by grind)]
  split <;> rfl
theorem cmpInt_ge_false {x : UInt64} {i : Int} (hx : Fin x) (h : Rv x < (i : Rat)) : (cmpInt x i == some .gt || cmpInt x i == some .eq) = false := by
  rw [cmpInt_rv hx, if_pos h]; rfl
theorem cmp_self {x : UInt64} (hx : Fin x) : (cmp x x != some .eq) = false := by
  rw [cmp_rv hx hx, if_neg (show ¬ Rv x < Rv x by grind), if_pos rfl]; rfl

theorem farFI_eq {x : UInt64} {X E : Rat} {i : Int} (hx : Near x X E) (hi : i.natAbs ≤ 2 ^ 53) (e : X = (i : Rat)) (h : E ≤ 1 / 10000000) : farFI x i = false :=
  farFI_near hx hi (by grind) (by grind)
theorem int_nb {i : Int} (A : Rat) (h : i.natAbs ≤ 2 ^ 53) (h1 : -A ≤ (i : Rat) ∧ (i : Rat) ≤ A) : NB (ofInt i) (i : Rat) 0 A := ⟨exact_n (int_ex h), h1.1, h1.2⟩
theorem unit_of {n : Nat} (h : n ≤ 64) : 0 ≤ (n : Rat) / 64 ∧ (n : Rat) / 64 ≤ 1 := by
  obtain ⟨_, a, b⟩ := cn_unit h
  exact ⟨a, b⟩
/-- a part that comes back, in 64ths -/
theorem back64 {x : UInt64} {n : Nat} (h : Near x ((n : Rat) / 64) (1000000 * e15)) (hn : n ≤ 64) : farFI (mul x (ofInt 64)) (n : Int) = false := by
  obtain ⟨h1, h2⟩ := unit_of hn
  have m := NB.mul 8 64 (1 / 10000000) (nb_unit h h1 h2) (int_nb (i := 64) 64 (by decide) (by decide +kernel)) (by decide +kernel)
  refine farFI_eq m.n (by omega) ?_ (by decide +kernel)
  rw [Rat.intCast_natCast, ci64]
  grind

/-! what the two roads tell of a colour -/
theorem eq_mnmx {r g b : Nat} (hr : r ≤ 64) (hg : g ≤ 64) (hb : b ≤ 64) : eqF (min3F (cn r) (cn g) (cn b)) (max3F (cn r) (cn g) (cn b)) = decide (mnN r g b = mxN r g b) := by
  have h1 := mn_le_mx r g b
  have h2 := mx_le hr hg hb
  unfold eqF
  rw [cn_max (by omega) (by omega) (by omega), cn_min (by omega) (by omega) (by omega)]
  exact cn_eq (by unfold mnN at h1; omega) (by unfold mxN at h2; omega)
theorem max_cn {r g b : Nat} (hr : r ≤ 64) (hg : g ≤ 64) (hb : b ≤ 64) : max3F (cn r) (cn g) (cn b) = cn (mxN r g b) := cn_max (by omega) (by omega) (by omega)
theorem min_cn {r g b : Nat} (hr : r ≤ 64) (hg : g ≤ 64) (hb : b ≤ 64) : min3F (cn r) (cn g) (cn b) = cn (mnN r g b) := cn_min (by omega) (by omega) (by omega)
theorem rng_cn {r g b : Nat} (hr : r ≤ 64) (hg : g ≤ 64) (hb : b ≤ 64) : sub (cn (mxN r g b)) (cn (mnN r g b)) = cn (rngN r g b) := by
  have h1 := mn_le_mx r g b
  have h2 := mx_le hr hg hb
  rw [cn_sub (by omega) h1]
  rfl

theorem hsv_value {r g b : Nat} (hr : r ≤ 64) (hg : g ≤ 64) (hb : b ≤ 64) : (hsvF (cn r) (cn g) (cn b)).2.2 = cn (mxN r g b) := by
  unfold hsvF
  rw [max_cn hr hg hb]
  split <;> rfl
theorem hsv_share {r g b : Nat} (hr : r ≤ 64) (hg : g ≤ 64) (hb : b ≤ 64) : (hsvF (cn r) (cn g) (cn b)).2.1 = if mnN r g b = mxN r g b then 0 else F (rngN r g b) (mxN r g b) := by
  unfold hsvF
  rw [eq_mnmx hr hg hb, max_cn hr hg hb, min_cn hr hg hb, rng_cn hr hg hb]
  by_cases h : mnN r g b = mxN r g b
  · rw [if_pos h, decide_eq_true h]; rfl
  · rw [if_neg h, decide_eq_false h]; rfl
theorem hls_hue {r g b : Nat} : (hlsF (cn r) (cn g) (cn b)).1 = (hsvF (cn r) (cn g) (cn b)).1 := by
  unfold hlsF hsvF
  split <;> rfl
theorem hls_light {r g b : Nat} : (hlsF (cn r) (cn g) (cn b)).2.1 = lightF (cn r) (cn g) (cn b) := by
  unfold hlsF
  split <;> rfl
theorem light_ex {r g b : Nat} (hr : r ≤ 64) (hg : g ≤ 64) (hb : b ≤ 64) : Fin (lightF (cn r) (cn g) (cn b)) ∧ Rv (lightF (cn r) (cn g) (cn b)) = ((mxN r g b : Rat) + (mnN r g b : Rat)) / 128 := by
  have h1 := mn_le_mx r g b
  have h2 := mx_le hr hg hb
  unfold lightF
  rw [max_cn hr hg hb, min_cn hr hg hb]
  have hc : ((((mxN r g b : Nat) : Int) + ((mnN r g b : Nat) : Int) : Int) : Rat) = (mxN r g b : Rat) + (mnN r g b : Rat) := by rw [Rat.intCast_add, Rat.intCast_natCast, Rat.intCast_natCast]
  have ha := add_ex 6 ((mxN r g b : Int) + (mnN r g b : Int)) (cn_ex (n := mxN r g b) (by omega)) (cn_ex (n := mnN r g b) (by omega)) (by rw [hc, pw6]; grind) (by omega) (by decide)
  have h2r := two_rv
  exact div_ex 7 ((mxN r g b : Int) + (mnN r g b : Int)) ⟨ha.1, by rw [ha.2]; grind⟩ h2r (by grind) (by rw [hc, pw7]; grind) (by omega) (by decide)
theorem light_half {r g b : Nat} (hr : r ≤ 64) (hg : g ≤ 64) (hb : b ≤ 64) : leF (lightF (cn r) (cn g) (cn b)) halfB = decide (mxN r g b + mnN r g b ≤ 64) := by
  have hl := light_ex hr hg hb
  have hh := half_rv
  unfold leF
  rw [cmp_lt_rv hl.1 hh.1, cmp_eq_rv hl.1 hh.1, hl.2, hh.2]
  have e : (mxN r g b : Rat) + (mnN r g b : Rat) = ((mxN r g b + mnN r g b : Nat) : Rat) := by rw [Rat.natCast_add]
  rw [e]
  by_cases h : mxN r g b + mnN r g b ≤ 64
  · rw [decide_eq_true h]
    have h3 := nat_le h
    rw [cast64] at h3
    by_cases h4 : ((mxN r g b + mnN r g b : Nat) : Rat) / 128 < 1 / 2
    · rw [decide_eq_true h4]; rfl
    · rw [decide_eq_false h4, decide_eq_true (show ((mxN r g b + mnN r g b : Nat) : Rat) / 128 = 1 / 2 by grind)]; rfl
  · rw [decide_eq_false h]
    have h3 := nat_le (show 65 ≤ mxN r g b + mnN r g b by omega)
    have e65 : ((65 : Nat) : Rat) = 65 := rfl
    rw [e65] at h3
    clear hl e
    generalize ((mxN r g b + mnN r g b : Nat) : Rat) = S at *
    have hne : ¬ S / 128 = 1 / 2 := by
      intro c
      have c2 : S = 64 := by grind
      rw [c2] at h3
      exact absurd h3 (by decide)
    rw [decide_eq_false (by grind), decide_eq_false hne]; rfl

/-- the room that the lightness leaves, in 64ths -/
noncomputable def roomN (r g b : Nat) : Nat := if mxN r g b + mnN r g b ≤ 64 then mxN r g b + mnN r g b else 128 - (mxN r g b + mnN r g b)
noncomputable def roomF (r g b : Nat) : UInt64 := if leF (lightF (cn r) (cn g) (cn b)) halfB then add (cn (mxN r g b)) (cn (mnN r g b)) else sub (sub twoB (cn (mxN r g b))) (cn (mnN r g b))
theorem sum_ex {r g b : Nat} (hr : r ≤ 64) (hg : g ≤ 64) (hb : b ≤ 64) : Fin (add (cn (mxN r g b)) (cn (mnN r g b))) ∧ Rv (add (cn (mxN r g b)) (cn (mnN r g b))) = ((mxN r g b : Rat) + (mnN r g b : Rat)) / 64 := by
  have h1 := mn_le_mx r g b
  have h2 := mx_le hr hg hb
  have hc : ((((mxN r g b : Nat) : Int) + ((mnN r g b : Nat) : Int) : Int) : Rat) = (mxN r g b : Rat) + (mnN r g b : Rat) := by rw [Rat.intCast_add, Rat.intCast_natCast, Rat.intCast_natCast]
  have ha := add_ex 6 ((mxN r g b : Int) + (mnN r g b : Int)) (cn_ex (n := mxN r g b) (by omega)) (cn_ex (n := mnN r g b) (by omega)) (by rw [hc, pw6]; grind) (by omega) (by decide)
  exact ⟨ha.1, by rw [ha.2]; grind⟩
theorem left_ex {r g b : Nat} (hr : r ≤ 64) (hg : g ≤ 64) (hb : b ≤ 64) : Fin (sub (sub twoB (cn (mxN r g b))) (cn (mnN r g b))) ∧ Rv (sub (sub twoB (cn (mxN r g b))) (cn (mnN r g b))) = (128 - (mxN r g b : Rat) - (mnN r g b : Rat)) / 64 := by
  have h1 := mn_le_mx r g b
  have h2 := mx_le hr hg hb
  have ha := sub_ex 6 (128 - (mxN r g b : Int)) two_rv (cn_ex (n := mxN r g b) (by omega)) (by rw [Rat.intCast_sub, Rat.intCast_natCast, ci128, pw6]; grind) (by omega) (by decide)
  have hb := sub_ex 6 (128 - (mxN r g b : Int) - (mnN r g b : Int)) ha (cn_ex (n := mnN r g b) (by omega)) (by rw [Rat.intCast_sub, Rat.intCast_sub, Rat.intCast_natCast, Rat.intCast_natCast, ci128, pw6]; grind) (by omega) (by decide)
  exact ⟨hb.1, by rw [hb.2]; grind⟩
theorem sub_cast {a b : Nat} (h : b ≤ a) : ((a - b : Nat) : Rat) = (a : Rat) - (b : Rat) := by
  have : ((a - b + b : Nat) : Rat) = (a : Rat) := by rw [Nat.sub_add_cancel h]
  rw [Rat.natCast_add] at this
  grind
theorem room_cast {r g b : Nat} (hr : r ≤ 64) (hg : g ≤ 64) (hb : b ≤ 64) : (roomN r g b : Rat) = if mxN r g b + mnN r g b ≤ 64 then (mxN r g b : Rat) + (mnN r g b : Rat) else 128 - ((mxN r g b : Rat) + (mnN r g b : Rat)) := by
  have hM := mx_le hr hg hb
  have h1 := mn_le_mx r g b
  unfold roomN
  by_cases h : mxN r g b + mnN r g b ≤ 64
  · rw [if_pos h, if_pos h, Rat.natCast_add]
  · rw [if_neg h, if_neg h, sub_cast (show mxN r g b + mnN r g b ≤ 128 by omega), Rat.natCast_add]
    rfl
theorem room_ex {r g b : Nat} (hr : r ≤ 64) (hg : g ≤ 64) (hb : b ≤ 64) : Fin (roomF r g b) ∧ Rv (roomF r g b) = (roomN r g b : Rat) / 64 := by
  rw [room_cast hr hg hb]
  unfold roomF
  rw [light_half hr hg hb]
  by_cases h : mxN r g b + mnN r g b ≤ 64
  · rw [decide_eq_true h, if_pos rfl, if_pos h]
    exact sum_ex hr hg hb
  · rw [decide_eq_false h, if_neg (by decide), if_neg h]
    have h3 := left_ex hr hg hb
    refine ⟨h3.1, ?_⟩
    rw [h3.2]
    generalize (mxN r g b : Rat) = M
    generalize (mnN r g b : Rat) = m
    grind
theorem room_bounds {r g b : Nat} (hr : r ≤ 64) (hg : g ≤ 64) (hb : b ≤ 64) (h : mnN r g b ≠ mxN r g b) : 0 < rngN r g b ∧ rngN r g b ≤ roomN r g b ∧ roomN r g b ≤ 64 ∧ 0 < mxN r g b ∧ rngN r g b ≤ mxN r g b := by
  have h1 := mn_le_mx r g b
  have h2 := mx_le hr hg hb
  unfold roomN rngN
  split <;> omega
theorem hls_depth {r g b : Nat} (hr : r ≤ 64) (hg : g ≤ 64) (hb : b ≤ 64) : (hlsF (cn r) (cn g) (cn b)).2.2 = if mnN r g b = mxN r g b then 0 else div (cn (rngN r g b)) (roomF r g b) := by
  unfold hlsF roomF
  rw [eq_mnmx hr hg hb, max_cn hr hg hb, min_cn hr hg hb, rng_cn hr hg hb]
  by_cases h : mnN r g b = mxN r g b
  · rw [if_pos h, decide_eq_true h]; rfl
  · rw [if_neg h, decide_eq_false h]
    simp only [Bool.false_eq_true, if_false]
    split <;> rfl

/-- the exact shares -/
noncomputable def shareX (r g b : Nat) : Rat := if mnN r g b = mxN r g b then 0 else (rngN r g b : Rat) / (mxN r g b : Rat)
noncomputable def depthX (r g b : Nat) : Rat := if mnN r g b = mxN r g b then 0 else (rngN r g b : Rat) / (roomN r g b : Rat)
theorem rng_zero {r g b : Nat} (h : mnN r g b = mxN r g b) : (rngN r g b : Rat) = 0 := by
  have : rngN r g b = 0 := by unfold rngN; omega
  rw [this]; rfl
theorem share_near {r g b : Nat} (hr : r ≤ 64) (hg : g ≤ 64) (hb : b ≤ 64) : Near (hsvF (cn r) (cn g) (cn b)).2.1 (shareX r g b) e15 ∧ shareX r g b * (mxN r g b : Rat) = (rngN r g b : Rat) ∧ 0 ≤ shareX r g b ∧ shareX r g b ≤ 1 := by
  rw [hsv_share hr hg hb]
  unfold shareX
  have he := e15_small
  have hM := mx_le hr hg hb
  by_cases h : mnN r g b = mxN r g b
  · rw [if_pos h, if_pos h, rng_zero h]
    have h0 := zero_rv
    refine ⟨(exact_n h0).mono (by grind) (by grind), by grind, by grind, by grind⟩
  · rw [if_neg h, if_neg h]
    obtain ⟨b1, b2, b3, b4, b5⟩ := room_bounds hr hg hb h
    obtain ⟨c1, c2, _⟩ := frac_bounds b5 b4 hM
    have hp := nat_pos b4
    refine ⟨(F_near b5 b4 hM).mono ?_ ?_, rat_div_mul (by grind), c1, c2⟩ <;> (have := u0_le; grind)
theorem depth_near {r g b : Nat} (hr : r ≤ 64) (hg : g ≤ 64) (hb : b ≤ 64) : Near (hlsF (cn r) (cn g) (cn b)).2.2 (depthX r g b) e15 ∧ depthX r g b * (roomN r g b : Rat) = (rngN r g b : Rat) ∧ 0 ≤ depthX r g b ∧ depthX r g b ≤ 1 := by
  rw [hls_depth hr hg hb]
  unfold depthX
  have he := e15_small
  have hM := mx_le hr hg hb
  by_cases h : mnN r g b = mxN r g b
  · rw [if_pos h, if_pos h, rng_zero h]
    have h0 := zero_rv
    refine ⟨(exact_n h0).mono (by grind) (by grind), by grind, by grind, by grind⟩
  · rw [if_neg h, if_neg h]
    obtain ⟨b1, b2, b3, b4, b5⟩ := room_bounds hr hg hb h
    obtain ⟨c1, c2, _⟩ := frac_bounds b2 (show 0 < roomN r g b by omega) b3
    have hp := nat_pos (show 0 < roomN r g b by omega)
    have hm : (rngN r g b : Rat) / (roomN r g b : Rat) * (roomN r g b : Rat) = (rngN r g b : Rat) := rat_div_mul (by grind)
    have hro := room_ex hr hg hb
    have hcn := cn_ex (n := rngN r g b) (by omega)
    refine ⟨(div_near (X := (rngN r g b : Rat) / (roomN r g b : Rat)) 0 hcn.1 hro.1 (by rw [hro.2]; grind) (by rw [hro.2, hcn.2, ← hm]; grind) (by rw [p2_0]; exact c2) (by rw [p2_0]; grind) (by decide)).mono ?_ ?_, hm, c1, c2⟩ <;> (have := u0_le; grind)
end Mine

/-! part N18 -/
namespace Mine
open PySem.Float64

theorem p0 : p2 0 = 1 := rfl
theorem pw9 : p2 9 = 512 := rfl
theorem pw14 : p2 14 = 16384 := rfl

theorem value_ok {r g b : Nat} (hr : r ≤ 64) (hg : g ≤ 64) (hb : b ≤ 64) : (cmpInt (mul (hsvF (cn r) (cn g) (cn b)).2.2 (ofInt 64)) ((mxN r g b : Nat) : Int) != some .eq) = false := by
  rw [hsv_value hr hg hb]
  have hM := mx_le hr hg hb
  have h := mul_ex 0 (mxN r g b : Int) (cn_ex (n := mxN r g b) (by omega)) (int_ex (i := 64) (by decide)) (by rw [ci64, p0, Rat.intCast_natCast]; grind) (by omega) (by decide)
  refine cmpInt_eq_false h.1 ?_
  rw [h.2, ci64, Rat.intCast_natCast]
  grind
theorem light_ok {r g b : Nat} (hr : r ≤ 64) (hg : g ≤ 64) (hb : b ≤ 64) : (cmpInt (mul (hlsF (cn r) (cn g) (cn b)).2.1 (ofInt 128)) (((mnN r g b : Nat) : Int) + ((mxN r g b : Nat) : Int)) != some .eq) = false := by
  rw [hls_light]
  have hM := mx_le hr hg hb
  have h1 := mn_le_mx r g b
  have hc : ((((mnN r g b : Nat) : Int) + ((mxN r g b : Nat) : Int) : Int) : Rat) = (mnN r g b : Rat) + (mxN r g b : Rat) := by rw [Rat.intCast_add, Rat.intCast_natCast, Rat.intCast_natCast]
  have h := mul_ex 0 ((mnN r g b : Int) + (mxN r g b : Int)) (light_ex hr hg hb) (int_ex (i := 128) (by decide)) (by rw [ci128, p0, hc]; grind) (by omega) (by decide)
  refine cmpInt_eq_false h.1 ?_
  rw [h.2, ci128, hc]
  grind
theorem two_rng {r g b : Nat} (hr : r ≤ 64) (hg : g ≤ 64) (hb : b ≤ 64) : (((2 * (rngN r g b : Int) : Int)) : Rat) = 2 * (rngN r g b : Rat) ∧ (2 * (rngN r g b : Int)).natAbs ≤ 2 ^ 53 := by
  have hM := mx_le hr hg hb
  have h2 : rngN r g b ≤ 64 := by unfold rngN; omega
  constructor
  · rw [Rat.intCast_mul, Rat.intCast_natCast]; rfl
  · omega
theorem share_ok {r g b : Nat} (hr : r ≤ 64) (hg : g ≤ 64) (hb : b ≤ 64) : farFI (mul (mul (hsvF (cn r) (cn g) (cn b)).2.1 (hsvF (cn r) (cn g) (cn b)).2.2) (ofInt 128)) (2 * (rngN r g b : Int)) = false := by
  rw [hsv_value hr hg hb]
  obtain ⟨n, s, s0, s1⟩ := share_near hr hg hb
  obtain ⟨un, u0, u1⟩ := cn_unit (mx_le hr hg hb)
  have m1 := NB.mul 3 1 (3 * e15) (nb_unit n s0 s1) (nb_unit un u0 u1) (by decide +kernel)
  have m2 := NB.mul 9 128 (1000 * e15) m1 (int_nb (i := 128) 128 (by decide) (by decide +kernel)) (by decide +kernel)
  obtain ⟨t1, t2⟩ := two_rng hr hg hb
  refine farFI_eq m2.n t2 ?_ (by decide +kernel)
  rw [t1, ci128, ← s]
  grind
theorem gap_ex {r g b : Nat} (hr : r ≤ 64) (hg : g ≤ 64) (hb : b ≤ 64) : Fin (sub (ofInt 1) (abs (sub (mul (ofInt 2) (lightF (cn r) (cn g) (cn b))) (ofInt 1)))) ∧ Rv (sub (ofInt 1) (abs (sub (mul (ofInt 2) (lightF (cn r) (cn g) (cn b))) (ofInt 1)))) = (roomN r g b : Rat) / 64 := by
  have hM := mx_le hr hg hb
  have h1 := mn_le_mx r g b
  have hc : ((((mxN r g b : Nat) : Int) + ((mnN r g b : Nat) : Int) : Int) : Rat) = (mxN r g b : Rat) + (mnN r g b : Rat) := by rw [Rat.intCast_add, Rat.intCast_natCast, Rat.intCast_natCast]
  have i1 := int_ex (i := 1) (by decide)
  have i2 := int_ex (i := 2) (by decide)
  rw [ci1] at i1
  rw [ci2] at i2
  have hroom := room_cast hr hg hb
  have hN : (roomN r g b : Int).natAbs ≤ 2 ^ 53 := by unfold roomN; split <;> omega
  have hS : ((mxN r g b : Rat) + (mnN r g b : Rat) ≤ 64 ∧ (roomN r g b : Rat) = (mxN r g b : Rat) + (mnN r g b : Rat)) ∨ (64 ≤ (mxN r g b : Rat) + (mnN r g b : Rat) ∧ (roomN r g b : Rat) = 128 - ((mxN r g b : Rat) + (mnN r g b : Rat))) := by
    by_cases h : mxN r g b + mnN r g b ≤ 64
    · have h3 := nat_le h
      rw [cast64, Rat.natCast_add] at h3
      rw [if_pos h] at hroom
      exact .inl ⟨h3, hroom⟩
    · have h3 := nat_le (show 64 ≤ mxN r g b + mnN r g b by omega)
      rw [cast64, Rat.natCast_add] at h3
      rw [if_neg h] at hroom
      exact .inr ⟨h3, hroom⟩
  clear hroom
  have hz : (((mxN r g b : Nat) : Int) + ((mnN r g b : Nat) : Int)).natAbs ≤ 128 := by omega
  have hl := light_ex hr hg hb
  generalize lightF (cn r) (cn g) (cn b) = l at *
  generalize ((mxN r g b : Nat) : Int) + ((mnN r g b : Nat) : Int) = z at *
  generalize (mxN r g b : Rat) + (mnN r g b : Rat) = S at *
  clear hr hg hb hM h1
  have a := mul_ex 6 z i2 hl (by rw [pw6, hc]; grind) (by omega) (by decide)
  have b' := sub_ex 6 (z - 64) a i1 (by rw [pw6, Rat.intCast_sub, hc, ci64]; grind) (by omega) (by decide)
  obtain ⟨f, v, w⟩ := abs_rv b'.1
  have hv : Rv (abs (sub (mul (ofInt 2) l) (ofInt 1))) = 1 - (roomN r g b : Rat) / 64 := by
    rw [b'.2] at v
    clear hc a b' hl i1 i2 f
    rcases hS with ⟨h3, h⟩ | ⟨h3, h⟩ <;> rw [h] <;> rcases v with v | v <;> rw [v] <;> rw [v] at w <;> grind
  have c := sub_ex 6 (roomN r g b : Int) i1 ⟨f, hv⟩ (by rw [pw6, Rat.intCast_natCast]; grind) hN (by decide)
  exact ⟨c.1, by rw [c.2]; grind⟩
theorem room_le {r g b : Nat} (hr : r ≤ 64) (hg : g ≤ 64) (hb : b ≤ 64) : roomN r g b ≤ 64 := by
  have hM := mx_le hr hg hb
  unfold roomN
  split <;> omega
theorem depth_ok {r g b : Nat} (hr : r ≤ 64) (hg : g ≤ 64) (hb : b ≤ 64) : farFI (mul (mul (hlsF (cn r) (cn g) (cn b)).2.2 (sub (ofInt 1) (abs (sub (mul (ofInt 2) (hlsF (cn r) (cn g) (cn b)).2.1) (ofInt 1))))) (ofInt 128)) (2 * (rngN r g b : Int)) = false := by
  rw [hls_light]
  obtain ⟨n, s, s0, s1⟩ := depth_near hr hg hb
  obtain ⟨u0, u1⟩ := unit_of (room_le hr hg hb)
  have m1 := NB.mul 3 1 (3 * e15) (nb_unit n s0 s1) (nb_unit (exact_n (gap_ex hr hg hb)) u0 u1) (by decide +kernel)
  have m2 := NB.mul 9 128 (1000 * e15) m1 (int_nb (i := 128) 128 (by decide) (by decide +kernel)) (by decide +kernel)
  obtain ⟨t1, t2⟩ := two_rng hr hg hb
  refine farFI_eq m2.n t2 ?_ (by decide +kernel)
  rw [t1, ci128, ← s]
  grind
theorem luma_ok {r g b : Nat} (hr : r ≤ 64) (hg : g ≤ 64) (hb : b ≤ 64) : farFI (mul (yiqF (cn r) (cn g) (cn b)).1 (ofInt 6400)) (30 * (r : Int) + 59 * (g : Int) + 11 * (b : Int)) = false := by
  obtain ⟨n, s0, s1⟩ := y_near (cn_unit hr) (cn_unit hg) (cn_unit hb)
  have m2 := NB.mul 14 6400 (1 / 10000000) (nb_unit n s0 s1) (int_nb (i := 6400) 6400 (by decide) (by decide +kernel)) (by decide +kernel)
  refine farFI_eq m2.n (by omega) ?_ (by decide +kernel)
  rw [Rat.intCast_add, Rat.intCast_add, Rat.intCast_mul, Rat.intCast_mul, Rat.intCast_mul, Rat.intCast_natCast, Rat.intCast_natCast, Rat.intCast_natCast, ci6400, show ((30 : Int) : Rat) = 30 from rfl, show ((59 : Int) : Rat) = 59 from rfl, show ((11 : Int) : Rat) = 11 from rfl]
  unfold yX lin
  grind
theorem yiqr_ok {r g b : Nat} (hr : r ≤ 64) (hg : g ≤ 64) (hb : b ≤ 64) :
    farFI (mul (yiqrF (yiqF (cn r) (cn g) (cn b)).1 (yiqF (cn r) (cn g) (cn b)).2.1 (yiqF (cn r) (cn g) (cn b)).2.2).1 (ofInt 64)) (r : Int) = false ∧
    farFI (mul (yiqrF (yiqF (cn r) (cn g) (cn b)).1 (yiqF (cn r) (cn g) (cn b)).2.1 (yiqF (cn r) (cn g) (cn b)).2.2).2.1 (ofInt 64)) (g : Int) = false ∧
    farFI (mul (yiqrF (yiqF (cn r) (cn g) (cn b)).1 (yiqF (cn r) (cn g) (cn b)).2.1 (yiqF (cn r) (cn g) (cn b)).2.2).2.2 (ofInt 64)) (b : Int) = false := by
  obtain ⟨a, b, c⟩ := yiqr_near (cn_unit hr) (cn_unit hg) (cn_unit hb)
  have k : 1000 * e15 ≤ 1000000 * e15 := by decide +kernel
  exact ⟨back64 (a.to rfl k) hr, back64 (b.to rfl k) hg, back64 (c.to rfl k) hb⟩

set_option maxRecDepth 20000 in
/-- what int makes of a float that is not negative -/
theorem trunc_rv {x : UInt64} (hx : Fin x) (h0 : 0 ≤ Rv x) : ((PySem.Flt.toInt truncOf x : Int) : Rat) ≤ Rv x ∧ Rv x < ((PySem.Flt.toInt truncOf x : Int) : Rat) + 1 := by
  obtain ⟨a, m, e, hd⟩ := hx
  rw [PySem.Flt.toInt_fin hd]
  have hm := rv_mul x
  have hK := Kr_pos
  have hv := val_eq hd
  have he := decode_ge hd
  have key : truncOf a m e = floorOf false m e ∧ (val x : Rat) = ((m * 2 ^ (e + 1074).toNat : Nat) : Rat) := by
    rw [hv, sgn_cast]
    cases a
    · refine ⟨rfl, ?_⟩
      show (1 : Rat) * _ = _
      grind
    · have h1 : (0 : Rat) ≤ (val x : Rat) := by rw [← hm]; exact Rat.mul_nonneg h0 (Rat.le_of_lt hK)
      have h2 : (0 : Rat) ≤ ((m * 2 ^ (e + 1074).toNat : Nat) : Rat) := Rat.natCast_nonneg
      have h3 : (val x : Rat) = -1 * ((m * 2 ^ (e + 1074).toNat : Nat) : Rat) := by rw [hv, sgn_cast]; rfl
      have h4 : ((m * 2 ^ (e + 1074).toNat : Nat) : Rat) = ((0 : Nat) : Rat) := by
        have e0 : ((0 : Nat) : Rat) = 0 := rfl
        rw [e0]; grind
      have h5 : m * 2 ^ (e + 1074).toNat = 0 := by
        generalize m * 2 ^ (e + 1074).toNat = z at h4
        exact_mod_cast h4
      have h6 : m = 0 := by
        rcases Nat.mul_eq_zero.mp h5 with h | h
        · exact h
        · exact absurd h (Nat.ne_of_gt (Nat.two_pow_pos (e + 1074).toNat))
      subst h6
      rw [h5]
      refine ⟨?_, ?_⟩
      · unfold truncOf ceilOf floorOf sgn
        simp
      · show sg true * (0 : Rat) = 0
        grind
  obtain ⟨k1, k2⟩ := key
  rw [k1]
  rw [k2] at hm
  clear k1 k2 hv hd
  unfold floorOf sgn
  simp only [Bool.false_eq_true, if_false]
  have hKn : ((Kn : Nat) : Rat) = Kr := by unfold Kr; rfl
  by_cases hpos : e ≥ 0
  · rw [if_pos hpos]
    have e1 : m * 2 ^ (e + 1074).toNat = (m * 2 ^ e.toNat) * Kn := by
      rw [Kn_def, Nat.mul_assoc, ← Nat.pow_add]
      congr 2
      omega
    rw [e1, Rat.natCast_mul] at hm
    have hm' : Rv x * Kr = ((m * 2 ^ e.toNat : Nat) : Rat) * Kr := by rw [hm, ← hKn]
    have e2 : ((m : Int) * 2 ^ e.toNat : Int) = ((m * 2 ^ e.toNat : Nat) : Int) := by
      rw [Int.natCast_mul, Int.natCast_pow]; rfl
    rw [e2, Rat.intCast_natCast]
    have e3 : Rv x = ((m * 2 ^ e.toNat : Nat) : Rat) := by
      have := Kr_ne
      grind
    rw [e3]
    constructor <;> grind
  · rw [if_neg hpos]
    have e1 : 2 ^ (-e).toNat * 2 ^ (e + 1074).toNat = Kn := by
      rw [Kn_def, ← Nat.pow_add]; congr 1; omega
    have hT : (0 : Rat) < ((2 ^ (-e).toNat : Nat) : Rat) := nat_pos (Nat.two_pow_pos _)
    have hU : (0 : Rat) < ((2 ^ (e + 1074).toNat : Nat) : Rat) := nat_pos (Nat.two_pow_pos _)
    have hKr : Kr = ((2 ^ (-e).toNat : Nat) : Rat) * ((2 ^ (e + 1074).toNat : Nat) : Rat) := by unfold Kr; rw [← e1, Rat.natCast_mul]
    rw [hKr, Rat.natCast_mul] at hm
    have e2 : ((m : Int).fdiv (2 ^ (-e).toNat) : Int) = ((m / 2 ^ (-e).toNat : Nat) : Int) := by
      have e3 : (2 ^ (-e).toNat : Int) = ((2 ^ (-e).toNat : Nat) : Int) := by rw [Int.natCast_pow]; rfl
      rw [e3, Int.fdiv_eq_ediv_of_nonneg _ (Int.natCast_nonneg _)]
      rfl
    rw [e2, Rat.intCast_natCast]
    have hTn : 0 < 2 ^ (-e).toNat := Nat.two_pow_pos _
    have d1 := Nat.div_add_mod m (2 ^ (-e).toNat)
    have d2 := Nat.mod_lt m hTn
    generalize 2 ^ (-e).toNat = T at *
    generalize ((2 ^ (e + 1074).toNat : Nat) : Rat) = U at *
    have hx : Rv x * (T : Rat) = (m : Rat) := by
      have hne : U ≠ 0 := fun c => by rw [c] at hU; exact absurd hU (by decide)
      grind
    have n1 : T * (m / T) ≤ m := by omega
    have n2 : m < T * (m / T) + T := by omega
    generalize m / T = k at *
    have q1 : (T : Rat) * (k : Rat) ≤ (m : Rat) := by exact_mod_cast n1
    have q2 : (m : Rat) < (T : Rat) * (k : Rat) + (T : Rat) := by exact_mod_cast n2
    constructor
    · refine Rat.le_of_mul_le_mul_right (c := (T : Rat)) ?_ hT
      rw [hx]; grind
    · refine Rat.not_le.mp fun c => ?_
      have := Rat.mul_le_mul_of_nonneg_right c (Rat.le_of_lt hT)
      rw [hx] at this
      grind
end Mine

/-! part N19 -/
namespace Mine
open PySem.Float64

/-! the wave that every part follows round the turn -/
noncomputable def step1 (x : Rat) : Rat := if x ≤ 0 then 0 else if x ≤ 1 then x else 1
noncomputable def chi (x : Rat) : Rat := step1 x - step1 (x - 3) + step1 (x - 6)
theorem step1_lo {x : Rat} (h : x ≤ 0) : step1 x = 0 := by unfold step1; rw [if_pos h]
theorem step1_mid {x : Rat} (h0 : 0 ≤ x) (h : x ≤ 1) : step1 x = x := by
  unfold step1
  by_cases c : x ≤ 0
  · rw [if_pos c]; exact Rat.le_antisymm h0 c
  · rw [if_neg c, if_pos h]
theorem step1_hi {x : Rat} (h : 1 ≤ x) : step1 x = 1 := by
  unfold step1
  rw [if_neg (by grind)]
  by_cases c : x ≤ 1
  · rw [if_pos c]; exact Rat.le_antisymm c h
  · rw [if_neg c]
theorem step1_01 (x : Rat) : 0 ≤ step1 x ∧ step1 x ≤ 1 := by
  unfold step1
  split
  · constructor <;> decide
  · split
    · constructor <;> grind
    · constructor <;> decide
theorem step1_lip {x y d : Rat} (h1 : x - y ≤ d) (h2 : y - x ≤ d) : step1 x - step1 y ≤ d := by
  have b := step1_01 x
  have c := step1_01 y
  unfold step1 at *
  split at * <;> split at * <;> grind
theorem chi_lip {x y d : Rat} (h1 : x - y ≤ d) (h2 : y - x ≤ d) : chi x - chi y ≤ 3 * d := by
  have a := step1_lip h1 h2
  have b := step1_lip (x := y - 3) (y := x - 3) (d := d) (by grind) (by grind)
  have c := step1_lip (x := x - 6) (y := y - 6) (d := d) (by grind) (by grind)
  unfold chi
  clear h1 h2
  grind
theorem chi_a {x : Rat} (h : x ≤ 0) : chi x = 0 := by
  unfold chi; rw [step1_lo h, step1_lo (by grind), step1_lo (by grind)]; decide +kernel
theorem chi_b {x : Rat} (h0 : 0 ≤ x) (h : x ≤ 1) : chi x = x := by
  unfold chi; rw [step1_mid h0 h, step1_lo (by grind), step1_lo (by grind)]; grind
theorem chi_c {x : Rat} (h0 : 1 ≤ x) (h : x ≤ 3) : chi x = 1 := by
  unfold chi; rw [step1_hi h0, step1_lo (by grind), step1_lo (by grind)]; decide +kernel
theorem chi_d {x : Rat} (h0 : 3 ≤ x) (h : x ≤ 4) : chi x = 4 - x := by
  unfold chi; rw [step1_hi (by grind), step1_mid (by grind) (by grind), step1_lo (by grind)]; grind
theorem chi_e {x : Rat} (h0 : 4 ≤ x) (h : x ≤ 6) : chi x = 0 := by
  unfold chi; rw [step1_hi (by grind), step1_hi (by grind), step1_lo (by grind)]; decide +kernel
theorem chi_f {x : Rat} (h0 : 6 ≤ x) (h : x ≤ 7) : chi x = x - 6 := by
  unfold chi; rw [step1_hi (by grind), step1_hi (by grind), step1_mid (by grind) (by grind)]; grind
theorem chi_g {x : Rat} (h0 : 7 ≤ x) : chi x = 1 := by
  unfold chi; rw [step1_hi (by grind), step1_hi (by grind), step1_hi (by grind)]; decide +kernel
theorem chi_01 (x : Rat) : 0 ≤ chi x ∧ chi x ≤ 1 := by
  by_cases c0 : x ≤ 3
  · by_cases c1 : x ≤ 0
    · rw [chi_a c1]; decide
    · unfold chi
      rw [step1_lo (x := x - 3) (by grind), step1_lo (x := x - 6) (by grind)]
      have := step1_01 x
      constructor <;> grind
  · by_cases c1 : x ≤ 6
    · unfold chi
      rw [step1_hi (x := x) (by grind), step1_lo (x := x - 6) (by grind)]
      have := step1_01 (x - 3)
      constructor <;> grind
    · unfold chi
      rw [step1_hi (x := x) (by grind), step1_hi (x := x - 3) (by grind)]
      have := step1_01 (x - 6)
      constructor <;> grind

/-- a sector's parts -/
noncomputable def secR (s : Nat) (φ : Rat) : Rat := match s with | 0 => 1 | 1 => 1 - φ | 2 => 0 | 3 => 0 | 4 => 1 - φ | _ => 1
noncomputable def secG (s : Nat) (φ : Rat) : Rat := match s with | 0 => 1 - φ | 1 => 1 | 2 => 1 | 3 => 1 - φ | 4 => 0 | _ => 0
noncomputable def secB (s : Nat) (φ : Rat) : Rat := match s with | 0 => 0 | 1 => 0 | 2 => 1 - φ | 3 => 1 | 4 => 1 | _ => 1 - φ
theorem chi_sec {s : Nat} {φ : Rat} (hs : s ≤ 5) (h0 : 0 ≤ φ) (h1 : φ ≤ 1) :
    chi (hx s φ + 2) = secR s φ ∧ chi (hx s φ) = secG s φ ∧ chi (hx s φ - 2) = secB s φ := by
  rcases six_cases hs with rfl | rfl | rfl | rfl | rfl | rfl <;> simp only [hx, secR, secG, secB]
  · exact ⟨chi_c (by grind) (by grind), chi_b (by grind) (by grind), chi_a (by grind)⟩
  · refine ⟨?_, chi_c (by grind) (by grind), chi_a (by grind)⟩
    rw [chi_d (by grind) (by grind)]; grind
  · refine ⟨chi_e (by grind) (by grind), chi_c (by grind) (by grind), ?_⟩
    rw [chi_b (by grind) (by grind)]; grind
  · refine ⟨chi_e (by grind) (by grind), ?_, chi_c (by grind) (by grind)⟩
    rw [chi_d (by grind) (by grind)]; grind
  · refine ⟨?_, chi_e (by grind) (by grind), chi_c (by grind) (by grind)⟩
    rw [chi_f (by grind) (by grind)]; grind
  · refine ⟨chi_g (by grind), chi_e (by grind) (by grind), ?_⟩
    rw [chi_d (by grind) (by grind)]; grind

theorem full_c {W M m : Rat} (h : W = M - m) : W * 1 = M - m := by rw [Rat.mul_one]; exact h
theorem none_c {W m : Rat} : W * 0 = m - m := by rw [Rat.mul_zero, Rat.sub_self]
theorem part_c {W M m x φ : Rat} (h : W = M - m) (e : φ * W = M - x) : W * (1 - φ) = x - m := by grind
theorem chi_colour {r g b : Nat} (h : mnN r g b ≠ mxN r g b) :
    (rngN r g b : Rat) * chi (hueX r g b + 2) = (r : Rat) - (mnN r g b : Rat) ∧ (rngN r g b : Rat) * chi (hueX r g b) = (g : Rat) - (mnN r g b : Rat) ∧ (rngN r g b : Rat) * chi (hueX r g b - 2) = (b : Rat) - (mnN r g b : Rat) := by
  have hqr := nat_pos (rng_pos h)
  have hs5 : secN r g b ≤ 5 := (sec_le r g b).elim Nat.le_succ_of_le Nat.le_of_eq
  have hW : (rngN r g b : Rat) = (mxN r g b : Rat) - (mnN r g b : Rat) := sub_cast (mn_le_mx r g b)
  have e : (numN r g b : Rat) / (rngN r g b : Rat) * (rngN r g b : Rat) = (numN r g b : Rat) := rat_div_mul (fun c => by rw [c] at hqr; exact absurd hqr (by decide))
  have f0 : 0 ≤ (numN r g b : Rat) / (rngN r g b : Rat) := Rat.le_of_mul_le_mul_right (c := (rngN r g b : Rat)) (by rw [e, Rat.zero_mul]; exact nat_nn _) hqr
  have f1 : (numN r g b : Rat) / (rngN r g b : Rat) ≤ 1 := Rat.le_of_mul_le_mul_right (c := (rngN r g b : Rat)) (by rw [e, Rat.one_mul]; exact nat_le num_le) hqr
  obtain ⟨c1, c2, c3⟩ := chi_sec hs5 f0 f1
  unfold hueX
  rw [if_neg h, c1, c2, c3]
  clear c1 c2 c3 f0 f1 hqr hs5
  generalize (numN r g b : Rat) / (rngN r g b : Rat) = φ at *
  have up : ∀ {a b : Nat}, a = b → (a : Rat) = b := fun h => by rw [h]
  have er : numN r g b = mxN r g b - r → φ * (rngN r g b : Rat) = (mxN r g b : Rat) - r := fun n => by rw [e, n, sub_cast (r_le_mx r g b)]
  have eg : numN r g b = mxN r g b - g → φ * (rngN r g b : Rat) = (mxN r g b : Rat) - g := fun n => by rw [e, n, sub_cast (g_le_mx r g b)]
  have eb : numN r g b = mxN r g b - b → φ * (rngN r g b : Rat) = (mxN r g b : Rat) - b := fun n => by rw [e, n, sub_cast (b_le_mx r g b)]
  have full : ∀ {x : Nat}, x = mxN r g b → (rngN r g b : Rat) * 1 = (x : Rat) - (mnN r g b : Rat) := fun h => by rw [h]; exact full_c hW
  have none : ∀ {x : Nat}, x = mnN r g b → (rngN r g b : Rat) * 0 = (x : Rat) - (mnN r g b : Rat) := fun h => by rw [h]; exact none_c
  rcases sec_view r g b with ⟨s, n, c1, c2⟩ | ⟨s, n, c1, c2, _⟩ | ⟨s, n, _, c1, c2⟩ | ⟨s, n, _, c1, c2⟩ | ⟨s, n, _, _, c1, c2⟩ | ⟨s, n, _, _, c1, c2⟩ <;> rw [s]
  · exact ⟨full c1, part_c hW (eg n), none c2⟩
  · exact ⟨full c1, none c2, part_c hW (eb n)⟩
  · exact ⟨part_c hW (er n), full c1, none c2⟩
  · exact ⟨none c2, full c1, part_c hW (eb n)⟩
  · exact ⟨none c2, part_c hW (eg n), full c1⟩
  · exact ⟨part_c hW (er n), none c2, full c1⟩
end Mine

/-! part N20 -/
namespace Mine
open PySem.Float64

/-! hsv back -/
/-- six times the hue -/
theorem hue_six {h : UInt64} {s p q : Nat} (a : HueOf h s p q) : Near (mul h sixB) (hx s ((p : Rat) / (q : Rat))) (50 * e15) ∧ 0 ≤ Rv (mul h sixB) ∧ Rv (mul h sixB) < 6 ∧ 0 ≤ hx s ((p : Rat) / (q : Rat)) ∧ hx s ((p : Rat) / (q : Rat)) ≤ 6 := by
  have h6 := six_rv
  obtain ⟨c0, c1, c2⟩ := hx_bounds a.s5 a.pq a.q0 a.q64 a.lt
  have hn := a.near
  have hz : s = 0 ∧ p = q → Rv (mul h sixB) = 0 := by
    rintro ⟨rfl, rfl⟩
    have hv : Rv h = 0 := by rw [a.rv, F_one a.q0 a.q64, hueS_one]
    have hm := mul_ex 0 0 ⟨hn.1, hv⟩ h6 (by rw [ci0, p0]; grind) (by decide) (by decide)
    rw [hm.2, Rat.zero_mul]
  clear a
  generalize hx s ((p : Rat) / (q : Rat)) = X at *
  have m := NB.mul 4 6 (50 * e15) (nb_unit hn (by grind) (by grind)) (nb_ex (A := 6) h6 (by decide +kernel) (by decide +kernel)) (by decide +kernel)
  have m2 : Near (mul h sixB) X (50 * e15) := m.n.to (by grind) Rat.le_refl
  have c6 : X ≤ 6 := Rat.le_trans c1 (by decide +kernel)
  by_cases hc : s = 0 ∧ p = q
  · have h0 := hz hc
    exact ⟨m2, by rw [h0]; exact Rat.le_refl, by rw [h0]; decide, c0, c6⟩
  · have k : (0 : Rat) + 50 * e15 < 1 / 64 ∧ (6 : Rat) - 1 / 64 < 6 - 50 * e15 := by decide +kernel
    have b := near_in (a := 0) (b := 6) m2 (rat_lt_le k.1 (c2 hc)) (rat_le_lt c1 k.2)
    exact ⟨m2, Rat.le_of_lt b.1, b.2, c0, c6⟩

/-- the whole part and the rest -/
theorem hue_parts {h : UInt64} {s p q : Nat} (a : HueOf h s p q) : 0 ≤ hsvrI h ∧ hsvrI h ≤ 5 ∧ isFinite (mul h sixB) = true ∧ ∃ f : Rat, Near (fracF h) f e15 ∧ 0 ≤ f ∧ f ≤ 1 ∧ ((hsvrI h : Int) : Rat) + f = Rv (mul h sixB) := by
  obtain ⟨⟨fn, _, _⟩, l0, l1, _⟩ := hue_six a
  have ht := trunc_rv fn l0
  have hfin : isFinite (mul h sixB) = true := by
    obtain ⟨a, m, e, hd⟩ := fn
    unfold isFinite
    rw [hd]
  have eI : PySem.Flt.toInt truncOf (mul h sixB) = hsvrI h := rfl
  have eF : fracF h = sub (mul h sixB) (ofInt (hsvrI h)) := rfl
  rw [eI] at ht
  rw [eF]
  generalize mul h sixB = x at *
  generalize hsvrI h = i at *
  obtain ⟨t0, t1⟩ := ht
  have i0 : 0 ≤ i := by
    have k : ((-1 : Int) : Rat) < (i : Rat) := by
      rw [show ((-1 : Int) : Rat) = -1 from rfl]
      grind
    have := Rat.intCast_lt_intCast.mp k
    omega
  have i5 : i ≤ 5 := by
    have k : (i : Rat) < ((6 : Int) : Rat) := rat_le_lt t0 l1
    have := Rat.intCast_lt_intCast.mp k
    omega
  have hi := int_ex (i := i) (by omega)
  have h0 : 0 ≤ Rv x - (i : Rat) := by grind
  have h1 : Rv x - (i : Rat) ≤ 1 := by grind
  have hs := sub_near 0 fn hi.1 (by rw [p2_0, hi.2]; exact h1) (by rw [p2_0, hi.2]; grind) (by decide)
  rw [hi.2] at hs
  exact ⟨i0, i5, hfin, _, hs.to rfl u0_le, h0, h1, by grind⟩

structure Sat (s v : UInt64) (S m W : Rat) : Prop where
  s_near : Near s S e15
  s0 : 0 ≤ S
  s1 : S ≤ 1
  v_near : Near v ((m + W) / 64) 0
  m0 : 0 ≤ m
  w0 : 0 ≤ W
  top : m + W ≤ 64
  sv : S * (m + W) = W
theorem Sat.v {s v : UInt64} {S m W : Rat} (a : Sat s v S m W) {c : Rat} (hc : c = 1) : Near v ((m + W * c) / 64) (20 * e15) := by
  have he := e15_small
  subst hc
  exact a.v_near.mono (by grind) (by grind)
theorem Sat.nb {s v : UInt64} {S m W : Rat} (a : Sat s v S m W) : NB s S e15 1 ∧ NB v ((m + W) / 64) 0 1 ∧ NB oneB 1 0 1 := by
  obtain ⟨n, s0, s1, vn, m0, w0, top, sv⟩ := a
  exact ⟨nb_unit n s0 s1, ⟨vn, by grind, by grind⟩, nb_ex one_rv (by decide +kernel) (by decide +kernel)⟩
/-- a part of the value taken off -/
theorem off_e {S m W f : Rat} (sv : S * (m + W) = W) : (m + W) / 64 * (1 - S * f) = (m + W * (1 - f)) / 64 := by
  have e1 : (m + W) / 64 * (1 - S * f) = ((m + W) - (S * (m + W)) * f) / 64 := by grind
  rw [e1, sv]; grind
theorem Sat.p {s v : UInt64} {S m W : Rat} (a : Sat s v S m W) {c : Rat} (hc : c = 0) : Near (pF s v) ((m + W * c) / 64) (20 * e15) := by
  obtain ⟨n, vn, on⟩ := a.nb
  have d := NB.sub 3 2 (2 * e15) on n (by decide +kernel)
  have r := NB.mul 3 2 (20 * e15) vn d (by decide +kernel)
  have e := off_e (f := 1) a.sv
  rw [Rat.mul_one, Rat.sub_self] at e
  exact r.n.to (by rw [e, hc]) Rat.le_refl
theorem frac_nb {x : UInt64} {f : Rat} (hf : Near x f e15) (f0 : 0 ≤ f) (f1 : f ≤ 1) : NB x f e15 1 := nb_unit hf f0 f1
theorem Sat.q {s v h : UInt64} {S m W f : Rat} (a : Sat s v S m W) (hf : Near (fracF h) f e15) (f0 : 0 ≤ f) (f1 : f ≤ 1) {c : Rat} (hc : c = 1 - f) : Near (qF h s v) ((m + W * c) / 64) (20 * e15) := by
  obtain ⟨n, vn, on⟩ := a.nb
  have k := NB.mul 3 1 (4 * e15) n (nb_unit hf f0 f1) (by decide +kernel)
  have d := NB.sub 3 2 (5 * e15) on k (by decide +kernel)
  have r := NB.mul 3 2 (20 * e15) vn d (by decide +kernel)
  exact r.n.to (by rw [off_e a.sv, hc]) Rat.le_refl
theorem Sat.t {s v h : UInt64} {S m W f : Rat} (a : Sat s v S m W) (hf : Near (fracF h) f e15) (f0 : 0 ≤ f) (f1 : f ≤ 1) {c : Rat} (hc : c = f) : Near (tF h s v) ((m + W * c) / 64) (20 * e15) := by
  obtain ⟨n, vn, on⟩ := a.nb
  have g := NB.sub 3 2 (2 * e15) on (nb_unit hf f0 f1) (by decide +kernel)
  have k := NB.mul 3 2 (6 * e15) n g (by decide +kernel)
  have d := NB.sub 3 3 (7 * e15) on k (by decide +kernel)
  have r := NB.mul 3 3 (20 * e15) vn d (by decide +kernel)
  exact r.n.to (by rw [off_e a.sv, hc, show 1 - (1 - f) = f by grind]) Rat.le_refl

theorem hsvr_near {h s v : UInt64} {S m W f : Rat} (a : Sat s v S m W) (ne : eqF s 0 = false) (i0 : 0 ≤ hsvrI h) (i5 : hsvrI h ≤ 5) (hf : Near (fracF h) f e15) (f0 : 0 ≤ f) (f1 : f ≤ 1) :
    Near (hsvrF h s v).1 ((m + W * chi (((hsvrI h : Int) : Rat) + f + 2)) / 64) (20 * e15) ∧ Near (hsvrF h s v).2.1 ((m + W * chi (((hsvrI h : Int) : Rat) + f)) / 64) (20 * e15) ∧ Near (hsvrF h s v).2.2 ((m + W * chi (((hsvrI h : Int) : Rat) + f - 2)) / 64) (20 * e15) := by
  have hi : hsvrI h = 0 ∨ hsvrI h = 1 ∨ hsvrI h = 2 ∨ hsvrI h = 3 ∨ hsvrI h = 4 ∨ hsvrI h = 5 := by omega
  unfold hsvrF
  rw [ne]
  simp only [Bool.false_eq_true, if_false]
  rcases hi with e | e | e | e | e | e <;> rw [e]
  · have ek : ((0 : Int) : Rat) = 0 := rfl
    rw [ek]
    rw [if_pos (show (0 : Int).fmod 6 = 0 by decide)]
    exact ⟨a.v (chi_c (by grind) (by grind)), a.t hf f0 f1 (by rw [chi_b (by grind) (by grind)]; grind), a.p (chi_a (by grind))⟩
  · have ek : ((1 : Int) : Rat) = 1 := rfl
    rw [ek]
    rw [if_neg (show ¬ (1 : Int).fmod 6 = 0 by decide)]
    rw [if_pos (show (1 : Int).fmod 6 = 1 by decide)]
    exact ⟨a.q hf f0 f1 (by rw [chi_d (by grind) (by grind)]; grind), a.v (chi_c (by grind) (by grind)), a.p (chi_a (by grind))⟩
  · have ek : ((2 : Int) : Rat) = 2 := rfl
    rw [ek]
    rw [if_neg (show ¬ (2 : Int).fmod 6 = 0 by decide)]
    rw [if_neg (show ¬ (2 : Int).fmod 6 = 1 by decide)]
    rw [if_pos (show (2 : Int).fmod 6 = 2 by decide)]
    exact ⟨a.p (chi_e (by grind) (by grind)), a.v (chi_c (by grind) (by grind)), a.t hf f0 f1 (by rw [chi_b (by grind) (by grind)]; grind)⟩
  · have ek : ((3 : Int) : Rat) = 3 := rfl
    rw [ek]
    rw [if_neg (show ¬ (3 : Int).fmod 6 = 0 by decide)]
    rw [if_neg (show ¬ (3 : Int).fmod 6 = 1 by decide)]
    rw [if_neg (show ¬ (3 : Int).fmod 6 = 2 by decide)]
    rw [if_pos (show (3 : Int).fmod 6 = 3 by decide)]
    exact ⟨a.p (chi_e (by grind) (by grind)), a.q hf f0 f1 (by rw [chi_d (by grind) (by grind)]; grind), a.v (chi_c (by grind) (by grind))⟩
  · have ek : ((4 : Int) : Rat) = 4 := rfl
    rw [ek]
    rw [if_neg (show ¬ (4 : Int).fmod 6 = 0 by decide)]
    rw [if_neg (show ¬ (4 : Int).fmod 6 = 1 by decide)]
    rw [if_neg (show ¬ (4 : Int).fmod 6 = 2 by decide)]
    rw [if_neg (show ¬ (4 : Int).fmod 6 = 3 by decide)]
    rw [if_pos (show (4 : Int).fmod 6 = 4 by decide)]
    exact ⟨a.t hf f0 f1 (by rw [chi_f (by grind) (by grind)]; grind), a.p (chi_e (by grind) (by grind)), a.v (chi_c (by grind) (by grind))⟩
  · have ek : ((5 : Int) : Rat) = 5 := rfl
    rw [ek]
    rw [if_neg (show ¬ (5 : Int).fmod 6 = 0 by decide)]
    rw [if_neg (show ¬ (5 : Int).fmod 6 = 1 by decide)]
    rw [if_neg (show ¬ (5 : Int).fmod 6 = 2 by decide)]
    rw [if_neg (show ¬ (5 : Int).fmod 6 = 3 by decide)]
    rw [if_neg (show ¬ (5 : Int).fmod 6 = 4 by decide)]
    exact ⟨a.v (chi_g (by grind)), a.p (chi_e (by grind) (by grind)), a.q hf f0 f1 (by rw [chi_d (by grind) (by grind)]; grind)⟩

/-- a part told by the wave, back in 64ths -/
theorem chan {y : UInt64} {m W x X : Rat} {n : Nat} (h : Near y ((m + W * chi x) / 64) (20 * e15)) (w0 : 0 ≤ W) (w1 : W ≤ 64) (h1 : x - X ≤ 50 * e15) (h2 : X - x ≤ 50 * e15) (hX : W * chi X = (n : Rat) - m) : Near y ((n : Rat) / 64) (1000000 * e15) := by
  have he := e15_small
  have c1 := chi_lip h1 h2
  have c2 := chi_lip h2 h1
  have b := prod_bound (a := W) (b := chi x - chi X) (c := 64) (d := 3 * (50 * e15)) w1 (by grind) c1 (by grind)
  have e : W * (chi x - chi X) = W * chi x - W * chi X := by grind
  clear h1 h2 c1 c2 w0 w1
  refine h.mono ?_ ?_ <;> grind

theorem mn_rng (r g b : Nat) : (mnN r g b : Rat) + (rngN r g b : Rat) = (mxN r g b : Rat) := by
  have hW : (rngN r g b : Rat) = (mxN r g b : Rat) - (mnN r g b : Rat) := sub_cast (mn_le_mx r g b)
  rw [hW]; grind
theorem sat_of {r g b : Nat} (hr : r ≤ 64) (hg : g ≤ 64) (hb : b ≤ 64) : Sat (hsvF (cn r) (cn g) (cn b)).2.1 (hsvF (cn r) (cn g) (cn b)).2.2 (shareX r g b) (mnN r g b : Rat) (rngN r g b : Rat) := by
  obtain ⟨n, s, s0, s1⟩ := share_near hr hg hb
  have hM := mx_le hr hg hb
  have hMr := nat_le hM
  rw [cast64] at hMr
  refine ⟨n, s0, s1, ?_, nat_nn _, nat_nn _, by rw [mn_rng]; exact hMr, by rw [mn_rng]; exact s⟩
  rw [mn_rng, hsv_value hr hg hb]
  exact exact_n (cn_ex (Nat.le_trans hM (by decide)))
theorem grey_all {r g b : Nat} (h : mnN r g b = mxN r g b) : mxN r g b = r ∧ mxN r g b = g ∧ mxN r g b = b :=
  ⟨Nat.le_antisymm (h ▸ mn_le_r r g b) (r_le_mx r g b), Nat.le_antisymm (h ▸ mn_le_g r g b) (g_le_mx r g b), Nat.le_antisymm (h ▸ mn_le_b r g b) (b_le_mx r g b)⟩
theorem eq_zero : eqF 0 0 = true := by
  unfold eqF
  have h := zero_rv
  rw [cmp_eq_rv h.1 h.1]
  simp
theorem ne_zero {x : UInt64} {S D W : Rat} (h : Near x S e15) (s0 : 0 ≤ S) (hD : D ≤ 64) (e : S * D = W) (hW : 1 ≤ W) : eqF x 0 = false := by
  obtain ⟨f, n1, n2⟩ := h
  have hz := zero_rv
  have he := e15_small
  have hS : 1 / 64 ≤ S := by
    have := Rat.mul_le_mul_of_nonneg_left hD s0
    grind
  unfold eqF
  rw [cmp_eq_rv f hz.1, hz.2]
  refine decide_eq_false fun c => ?_
  rw [c] at n1 n2
  clear e hW hD f hz
  grind
theorem rng_one {r g b : Nat} (h : mnN r g b ≠ mxN r g b) : (1 : Rat) ≤ (rngN r g b : Rat) := nat_le (rng_pos h)
theorem share_ne {r g b : Nat} (hr : r ≤ 64) (hg : g ≤ 64) (hb : b ≤ 64) (h : mnN r g b ≠ mxN r g b) : eqF (hsvF (cn r) (cn g) (cn b)).2.1 0 = false := by
  obtain ⟨n, s, s0, s1⟩ := share_near hr hg hb
  exact ne_zero n s0 (nat_le (mx_le hr hg hb)) s (rng_one h)
theorem hsvr_ok {r g b : Nat} (hr : r ≤ 64) (hg : g ≤ 64) (hb : b ≤ 64) :
    farFI (mul (hsvrF (hsvF (cn r) (cn g) (cn b)).1 (hsvF (cn r) (cn g) (cn b)).2.1 (hsvF (cn r) (cn g) (cn b)).2.2).1 (ofInt 64)) (r : Int) = false ∧
    farFI (mul (hsvrF (hsvF (cn r) (cn g) (cn b)).1 (hsvF (cn r) (cn g) (cn b)).2.1 (hsvF (cn r) (cn g) (cn b)).2.2).2.1 (ofInt 64)) (g : Int) = false ∧
    farFI (mul (hsvrF (hsvF (cn r) (cn g) (cn b)).1 (hsvF (cn r) (cn g) (cn b)).2.1 (hsvF (cn r) (cn g) (cn b)).2.2).2.2 (ofInt 64)) (b : Int) = false := by
  have hM := mx_le hr hg hb
  have key : Near (hsvrF (hsvF (cn r) (cn g) (cn b)).1 (hsvF (cn r) (cn g) (cn b)).2.1 (hsvF (cn r) (cn g) (cn b)).2.2).1 ((r : Rat) / 64) (1000000 * e15) ∧ Near (hsvrF (hsvF (cn r) (cn g) (cn b)).1 (hsvF (cn r) (cn g) (cn b)).2.1 (hsvF (cn r) (cn g) (cn b)).2.2).2.1 ((g : Rat) / 64) (1000000 * e15) ∧ Near (hsvrF (hsvF (cn r) (cn g) (cn b)).1 (hsvF (cn r) (cn g) (cn b)).2.1 (hsvF (cn r) (cn g) (cn b)).2.2).2.2 ((b : Rat) / 64) (1000000 * e15) := by
    by_cases h : mnN r g b = mxN r g b
    · obtain ⟨g1, g2, g3⟩ := grey_all h
      rw [hsv_share hr hg hb, hsv_value hr hg hb, if_pos h]
      unfold hsvrF
      rw [eq_zero, if_pos rfl]
      have hc := (exact_n (cn_ex (n := mxN r g b) (Nat.le_trans hM (by decide)))).to rfl (show (0 : Rat) ≤ 1000000 * e15 by decide +kernel)
      refine ⟨?_, ?_, ?_⟩
      · rw [g1] at hc ⊢; exact hc
      · rw [g2] at hc ⊢; exact hc
      · rw [g3] at hc ⊢; exact hc
    · have a := sat_of hr hg hb
      have hue : HueOf (hsvF (cn r) (cn g) (cn b)).1 (snN r g b) (pnN r g b) (qnN r g b) := hueOf hr hg hb
      obtain ⟨i0, i5, _, f, hf, f0, f1, hs⟩ := hue_parts hue
      obtain ⟨⟨_, x1, x2⟩, _⟩ := hue_six hue
      rw [← hueX_eq, ← hs] at x1 x2
      obtain ⟨c1, c2, c3⟩ := hsvr_near a (share_ne hr hg hb h) i0 i5 hf f0 f1
      obtain ⟨k1, k2, k3⟩ := chi_colour h
      have w1 : (rngN r g b : Rat) ≤ 64 := by have := a.top; have := a.m0; grind
      have sh : ∀ {x y d e : Rat}, x - y ≤ d → (x + e) - (y + e) ≤ d := fun h => by grind
      have sh2 : ∀ {x y d e : Rat}, x - y ≤ d → (x - e) - (y - e) ≤ d := fun h => by grind
      exact ⟨chan c1 a.w0 w1 (sh x1) (sh x2) k1, chan c2 a.w0 w1 x1 x2 k2, chan c3 a.w0 w1 (sh2 x1) (sh2 x2) k3⟩
  obtain ⟨a, b, c⟩ := key
  exact ⟨back64 a hr, back64 b hg, back64 c hb⟩
end Mine

/-! part N21 -/
namespace Mine
open PySem.Float64

/-! hls back -/
theorem modF_big {x : UInt64} (hx : Fin x) (h1 : 1 ≤ Rv x) (h2 : Rv x < 2) : Fin (modF x) ∧ Rv (modF x) = Rv x - 1 := by
  obtain ⟨hf, hv⟩ := fmod_big hx h1 h2
  rw [modF_eq]
  by_cases h : isZero (fmod x oneB) = true
  · rw [if_pos h]
    refine ⟨(fin_zero _).1, ?_⟩
    rw [(fin_zero _).2, ← hv]
    by_cases c : Rv (fmod x oneB) = 0
    · exact c.symm
    · rw [isZero_rv hf c] at h; cases h
  · rw [if_neg h]
    have hl : lt (fmod x oneB) (zero false) = false := by
      unfold lt
      rw [cmp_rv hf (fin_zero _).1, (fin_zero _).2, hv]
      rw [if_neg (by grind)]
      split <;> rfl
    rw [hl, if_neg (by decide)]
    exact ⟨hf, hv⟩

/-- the remainder by one does not leave the wave -/
theorem mod_chi {x : UInt64} (hx : Fin x) (h1 : -(1 / 3) - 20 * e15 ≤ Rv x) (h2 : Rv x ≤ 4 / 3 + 20 * e15) : Fin (modF x) ∧ -e15 ≤ Rv (modF x) ∧ Rv (modF x) ≤ 1 + e15 ∧ chi (6 * Rv (modF x)) - chi (6 * Rv x) ≤ 200 * e15 ∧ chi (6 * Rv x) - chi (6 * Rv (modF x)) ≤ 200 * e15 := by
  have he := e15_small
  by_cases c : Rv x < 0
  · obtain ⟨f, a1, a2⟩ := modF_neg hx (by grind) c
    have hu := u0_le
    rw [chi_a (x := 6 * Rv x) (by grind)]
    generalize Rv (modF x) = w at *
    generalize Rv x = z at *
    have h01 := chi_01 (6 * w)
    have hle : chi (6 * w) ≤ 200 * e15 := by
      by_cases d : 6 * w ≤ 4
      · rw [chi_d (by grind) d]; grind
      · by_cases d2 : 6 * w ≤ 6
        · rw [chi_e (by grind) d2]; grind
        · rw [chi_f (by grind) (by grind)]; grind
    refine ⟨f, by grind, by grind, by grind, by grind⟩
  · by_cases d : Rv x < 1
    · obtain ⟨f, v⟩ := modF_pos hx d (by grind)
      rw [v]
      refine ⟨f, by grind, by grind, by grind, by grind⟩
    · obtain ⟨f, v⟩ := modF_big hx (by grind) (by grind)
      rw [v]
      generalize Rv x = z at *
      have e : chi (6 * (z - 1)) = chi (6 * z) := by
        by_cases d2 : 6 * z ≤ 7
        · rw [chi_b (by grind) (by grind), chi_f (by grind) d2]; grind
        · rw [chi_c (by grind) (by grind), chi_g (by grind)]
      rw [e]
      refine ⟨f, by grind, by grind, by grind, by grind⟩

theorem near_wave {y : UInt64} {m W a b c E : Rat} (E' : Rat) (h : Near y ((m + W * a) / 64) E) (w0 : 0 ≤ W) (w1 : W ≤ 64) (h1 : a - b ≤ c) (h2 : b - a ≤ c) (hE : E + c ≤ E') : Near y ((m + W * b) / 64) E' := by
  have k := prod_bound (a := W) (b := a - b) (c := 64) (d := c) w1 (by grind) h1 (by grind)
  have e : W * (a - b) = W * a - W * b := by grind
  clear h1 h2
  refine h.mono ?_ ?_ <;> grind
/-- the wave's pieces, a little past their ends -/
theorem piece_a {w t : Rat} (h1 : -e15 ≤ w) (h2 : w < t) (h3 : t - 1 / 6 ≤ e15) : 6 * w - chi (6 * w) ≤ 20 * e15 ∧ chi (6 * w) - 6 * w ≤ 20 * e15 := by
  have he := e15_small
  by_cases g1 : 6 * w ≤ 0
  · rw [chi_a g1]; constructor <;> grind
  · by_cases g2 : 6 * w ≤ 1
    · rw [chi_b (by grind) g2]; constructor <;> grind
    · rw [chi_c (by grind) (by grind)]; constructor <;> grind
theorem piece_b {w t : Rat} (h1 : ¬ w < t) (h2 : w < 1 / 2) (h3 : 1 / 6 - t ≤ e15) : 1 - chi (6 * w) ≤ 20 * e15 ∧ chi (6 * w) - 1 ≤ 20 * e15 := by
  have he := e15_small
  by_cases g2 : 6 * w ≤ 1
  · rw [chi_b (by grind) g2]; constructor <;> grind
  · rw [chi_c (by grind) (by grind)]; constructor <;> grind
theorem piece_c {w t : Rat} (h1 : ¬ w < 1 / 2) (h2 : w < t) (h3 : t - 2 / 3 ≤ e15) : (4 - 6 * w) - chi (6 * w) ≤ 20 * e15 ∧ chi (6 * w) - (4 - 6 * w) ≤ 20 * e15 := by
  have he := e15_small
  by_cases g1 : 6 * w ≤ 4
  · rw [chi_d (by grind) g1]; constructor <;> grind
  · rw [chi_e (by grind) (by grind)]; constructor <;> grind
theorem piece_d {w t : Rat} (h1 : ¬ w < t) (h2 : w ≤ 1 + e15) (h3 : 2 / 3 - t ≤ e15) : 0 - chi (6 * w) ≤ 20 * e15 ∧ chi (6 * w) - 0 ≤ 20 * e15 := by
  have he := e15_small
  have q0 := (chi_01 (6 * w)).1
  by_cases g1 : 6 * w ≤ 4
  · rw [chi_d (by grind) g1] at q0 ⊢; constructor <;> grind
  · by_cases g2 : 6 * w ≤ 6
    · rw [chi_e (by grind) g2]; constructor <;> grind
    · rw [chi_f (by grind) (by grind)] at q0 ⊢; constructor <;> grind
/-- m1 + (m2 - m1) * x * 6 -/
theorem ramp {m1 m2 x : UInt64} {m W X E : Rat} (n1 : NB m1 (m / 64) (20 * e15) 1) (n2 : NB m2 ((m + W) / 64) (20 * e15) 1) (hx : NB x X E 2) (hE : E ≤ 3 * e15) : Near (add m1 (mul (mul (sub m2 m1) x) sixB)) ((m + W * (6 * X)) / 64) (650 * e15) := by
  have hx' := hx.up rfl ⟨hE, Rat.le_refl⟩
  have d := NB.sub 3 2 (42 * e15) n2 n1 (by decide +kernel)
  have p := NB.mul 3 4 (96 * e15) d hx' (by decide +kernel)
  have q := NB.mul 5 24 (590 * e15) p (nb_ex (A := 6) six_rv (by decide +kernel) (by decide +kernel)) (by decide +kernel)
  have r := NB.add 5 25 (620 * e15) n1 q (by decide +kernel)
  exact r.n.to (by grind) (by decide +kernel)
theorem v_near {m1 m2 x : UInt64} {m W : Rat} (n1 : NB m1 (m / 64) (20 * e15) 1) (n2 : NB m2 ((m + W) / 64) (20 * e15) 1) (w0 : 0 ≤ W) (w1 : W ≤ 64) (hx : Fin x) (h1 : -(1 / 3) - 20 * e15 ≤ Rv x) (h2 : Rv x ≤ 4 / 3 + 20 * e15) :
    Near (vF m1 m2 x) ((m + W * chi (6 * Rv x)) / 64) (3000 * e15) := by
  obtain ⟨f, l0, l1, k1, k2⟩ := mod_chi hx h1 h2
  have hw : NB (modF x) (Rv (modF x)) 0 2 := by
    have he := e15_small
    exact ⟨⟨f, by grind, by grind⟩, by grind, by grind⟩
  obtain ⟨f16, t1, t2⟩ := c16_n
  have s23 := c23_n
  obtain ⟨f23, t3, t4⟩ := c23_n
  obtain ⟨fh, vh⟩ := half_rv
  generalize chi (6 * Rv x) = K at *
  clear h1 h2 hx
  have fin : ∀ (y : UInt64) (a : Rat), Near y ((m + W * a) / 64) (700 * e15) → a - chi (6 * Rv (modF x)) ≤ 20 * e15 ∧ chi (6 * Rv (modF x)) - a ≤ 20 * e15 → Near y ((m + W * K) / 64) (3000 * e15) := fun y a h q =>
    near_wave (3000 * e15) (near_wave (800 * e15) h w0 w1 q.1 q.2 (by decide +kernel)) w0 w1 k1 k2 (by decide +kernel)
  unfold vF ltF
  rw [cmp_lt_rv f f16, cmp_lt_rv f fh, cmp_lt_rv f f23, vh]
  by_cases b1 : Rv (modF x) < Rv c16
  · rw [if_pos (decide_eq_true b1)]
    exact fin _ _ ((ramp n1 n2 hw (by decide +kernel)).to rfl (by decide +kernel)) (piece_a l0 b1 t1)
  · rw [if_neg (by rw [decide_eq_false b1]; decide)]
    by_cases b2 : Rv (modF x) < 1 / 2
    · rw [if_pos (decide_eq_true b2)]
      exact fin _ 1 (n2.n.to (by rw [Rat.mul_one]) (by decide +kernel)) (piece_b b1 b2 t2)
    · rw [if_neg (by rw [decide_eq_false b2]; decide)]
      by_cases b3 : Rv (modF x) < Rv c23
      · rw [if_pos (decide_eq_true b3)]
        have s := (NB.sub 3 3 (3 * e15) (nb_const 1 s23 (by decide +kernel)) hw (by decide +kernel)).tight (A' := 2) (by have he := e15_small; grind) (by have he := e15_small; grind)
        exact fin _ _ ((ramp n1 n2 s Rat.le_refl).to rfl (by decide +kernel)) (by
          have q := piece_c b2 b3 t3
          have e : 6 * (2 / 3 - Rv (modF x)) = 4 - 6 * Rv (modF x) := by grind
          rw [e]; exact q)
      · rw [if_neg (by rw [decide_eq_false b3]; decide)]
        exact fin _ 0 (n1.n.to (by rw [Rat.mul_zero, Rat.add_zero]) (by decide +kernel)) (piece_d b3 l1 t4)
end Mine

/-! part N22 -/
namespace Mine
open PySem.Float64

/-! hls back, the axes of a pair -/
theorem m_near {r g b : Nat} (hr : r ≤ 64) (hg : g ≤ 64) (hb : b ≤ 64) :
    NB (m1F (lightF (cn r) (cn g) (cn b)) (hlsF (cn r) (cn g) (cn b)).2.2) ((mnN r g b : Rat) / 64) (20 * e15) 1 ∧ NB (m2F (lightF (cn r) (cn g) (cn b)) (hlsF (cn r) (cn g) (cn b)).2.2) (((mnN r g b : Rat) + (rngN r g b : Rat)) / 64) (20 * e15) 1 := by
  obtain ⟨n, s, s0, s1⟩ := depth_near hr hg hb
  have hl := light_ex hr hg hb
  have hlh := light_half hr hg hb
  have hroom := room_cast hr hg hb
  obtain ⟨M0, M1⟩ := unit_of (mx_le hr hg hb)
  obtain ⟨m0, m1⟩ := unit_of (Nat.le_trans (mn_le_mx r g b) (mx_le hr hg hb))
  rw [mn_rng]
  have hW : (rngN r g b : Rat) = (mxN r g b : Rat) - (mnN r g b : Rat) := sub_cast (mn_le_mx r g b)
  rw [hW] at s
  generalize (hlsF (cn r) (cn g) (cn b)).2.2 = d at *
  generalize lightF (cn r) (cn g) (cn b) = l at *
  generalize depthX r g b = D at *
  have kc : decide (mxN r g b + mnN r g b ≤ 64) = true ∧ (roomN r g b : Rat) = (mxN r g b : Rat) + (mnN r g b : Rat) ∨ decide (mxN r g b + mnN r g b ≤ 64) = false ∧ (roomN r g b : Rat) = 128 - ((mxN r g b : Rat) + (mnN r g b : Rat)) := by
    rw [hroom]
    by_cases c : mxN r g b + mnN r g b ≤ 64
    · rw [if_pos c]; exact .inl ⟨decide_eq_true c, rfl⟩
    · rw [if_neg c]; exact .inr ⟨decide_eq_false c, rfl⟩
  rw [← hlh] at kc
  clear hroom hlh hW hr hg hb
  generalize (roomN r g b : Rat) = R at *
  generalize (mxN r g b : Rat) = M at *
  generalize (mnN r g b : Rat) = m at *
  have ln : NB l ((M + m) / 128) 0 1 := nb_ex hl (by grind) (by grind)
  have dn := nb_unit n s0 s1
  clear hl n s0 s1
  have key : Near (m2F l d) (M / 64) (6 * e15) := by
      unfold m2F
      rcases kc with ⟨c, e⟩ | ⟨c, e⟩ <;> rw [c]
      · rw [e] at s
        have a := NB.add 3 2 (2 * e15) (nb_ex (A := 1) one_rv (by decide +kernel) (by decide +kernel)) dn (by decide +kernel)
        have k := NB.mul 3 2 (6 * e15) ln a (by decide +kernel)
        refine k.n.to ?_ Rat.le_refl
        have e1 : (M + m) / 128 * (1 + D) = ((M + m) + D * (M + m)) / 128 := by grind
        rw [e1, s]
        clear k a s e e1 ln dn M0 M1 m0 m1
        grind
      · rw [e] at s
        have a := NB.add 3 2 (2 * e15) ln dn (by decide +kernel)
        have k := NB.mul 3 1 (3 * e15) ln dn (by decide +kernel)
        have f := NB.sub 3 3 (6 * e15) a k (by decide +kernel)
        refine f.n.to ?_ Rat.le_refl
        have e1 : (M + m) / 128 + D - (M + m) / 128 * D = ((M + m) + D * (128 - (M + m))) / 128 := by grind
        rw [e1, s]
        clear k a f s e e1 ln dn M0 M1 m0 m1
        grind
  have t := NB.mul 3 2 e15 (nb_ex (A := 2) two_rv (by decide +kernel) (by decide +kernel)) ln (by decide +kernel)
  have f := NB.sub 3 3 (20 * e15) t (nb_unit key M0 M1) (by decide +kernel)
  exact ⟨nb_unit (f.n.to (by clear kc ln dn s key t f M0 M1 m0 m1; grind) Rat.le_refl) m0 m1, nb_unit (key.to rfl (by decide +kernel)) M0 M1⟩

theorem depth_ne {r g b : Nat} (hr : r ≤ 64) (hg : g ≤ 64) (hb : b ≤ 64) (h : mnN r g b ≠ mxN r g b) : eqF (hlsF (cn r) (cn g) (cn b)).2.2 0 = false := by
  obtain ⟨n, s, s0, s1⟩ := depth_near hr hg hb
  exact ne_zero n s0 (nat_le (room_le hr hg hb)) s (rng_one h)

/-- a third of the turn on, and back, on the wave -/
theorem wave_of {y x : UInt64} {m W X : Rat} {n : Nat} (h : Near y ((m + W * chi (6 * Rv x)) / 64) (3000 * e15)) (w0 : 0 ≤ W) (w1 : W ≤ 64) (h1 : 6 * Rv x - X ≤ 100 * e15) (h2 : X - 6 * Rv x ≤ 100 * e15) (hX : W * chi X = (n : Rat) - m) : Near y ((n : Rat) / 64) (1000000 * e15) := by
  have k := near_wave (b := chi X) (1000000 * e15) h w0 w1 (chi_lip h1 h2) (chi_lip h2 h1) (by decide +kernel)
  rw [hX] at k
  exact k.to (by clear h h1 h2 hX k; grind) Rat.le_refl
theorem hlsr_ok {r g b : Nat} (hr : r ≤ 64) (hg : g ≤ 64) (hb : b ≤ 64) :
    farFI (mul (hlsrF (hsvF (cn r) (cn g) (cn b)).1 (hlsF (cn r) (cn g) (cn b)).2.1 (hlsF (cn r) (cn g) (cn b)).2.2).1 (ofInt 64)) (r : Int) = false ∧
    farFI (mul (hlsrF (hsvF (cn r) (cn g) (cn b)).1 (hlsF (cn r) (cn g) (cn b)).2.1 (hlsF (cn r) (cn g) (cn b)).2.2).2.1 (ofInt 64)) (g : Int) = false ∧
    farFI (mul (hlsrF (hsvF (cn r) (cn g) (cn b)).1 (hlsF (cn r) (cn g) (cn b)).2.1 (hlsF (cn r) (cn g) (cn b)).2.2).2.2 (ofInt 64)) (b : Int) = false := by
  rw [hls_light]
  have key : Near (hlsrF (hsvF (cn r) (cn g) (cn b)).1 (lightF (cn r) (cn g) (cn b)) (hlsF (cn r) (cn g) (cn b)).2.2).1 ((r : Rat) / 64) (1000000 * e15) ∧ Near (hlsrF (hsvF (cn r) (cn g) (cn b)).1 (lightF (cn r) (cn g) (cn b)) (hlsF (cn r) (cn g) (cn b)).2.2).2.1 ((g : Rat) / 64) (1000000 * e15) ∧ Near (hlsrF (hsvF (cn r) (cn g) (cn b)).1 (lightF (cn r) (cn g) (cn b)) (hlsF (cn r) (cn g) (cn b)).2.2).2.2 ((b : Rat) / 64) (1000000 * e15) := by
    by_cases h : mnN r g b = mxN r g b
    · obtain ⟨g1, g2, g3⟩ := grey_all h
      have hl := exact_n (light_ex hr hg hb)
      rw [h] at hl
      have hl2 : Near (lightF (cn r) (cn g) (cn b)) ((mxN r g b : Rat) / 64) (1000000 * e15) := hl.to (by grind) (by decide +kernel)
      rw [hls_depth hr hg hb, if_pos h]
      unfold hlsrF
      rw [eq_zero, if_pos rfl]
      refine ⟨?_, ?_, ?_⟩
      · rw [g1] at hl2; exact hl2
      · rw [g2] at hl2; exact hl2
      · rw [g3] at hl2; exact hl2
    · obtain ⟨n1, n2⟩ := m_near hr hg hb
      have hue : HueOf (hsvF (cn r) (cn g) (cn b)).1 (snN r g b) (pnN r g b) (qnN r g b) := hueOf hr hg hb
      obtain ⟨_, _, _, x0, x6⟩ := hue_six hue
      have hn := hue.near
      have lo := hue.lo
      have hi := hue.hi
      rw [← hueX_eq] at hn x0 x6
      obtain ⟨k1, k2, k3⟩ := chi_colour h
      have w0 := nat_nn (rngN r g b)
      have w1 : (rngN r g b : Rat) ≤ 64 := nat_le (rng_le hr hg hb)
      unfold hlsrF
      rw [depth_ne hr hg hb h, if_neg (by decide)]
      clear h hue
      generalize (hsvF (cn r) (cn g) (cn b)).1 = t at *
      generalize hueX r g b = X at *
      generalize (rngN r g b : Rat) = W at *
      generalize (mnN r g b : Rat) = m at *
      have tn : NB t (X / 6) (6 * e15) 1 := nb_unit hn (by grind) (by grind)
      have cn3 := nb_const 1 c13_n (by decide +kernel)
      have a := (NB.add 3 2 (9 * e15) tn cn3 (by decide +kernel)).n
      have s := (NB.sub 3 2 (9 * e15) tn cn3 (by decide +kernel)).n
      have z : ∀ {y : UInt64} {c : Rat}, Near y (X / 6 + c) (9 * e15) → -(1 / 3) ≤ c → c ≤ 1 / 3 → Fin y ∧ (-(1 / 3) - 20 * e15 ≤ Rv y) ∧ (Rv y ≤ 4 / 3 + 20 * e15) ∧ 6 * Rv y - (X + 6 * c) ≤ 100 * e15 ∧ (X + 6 * c) - 6 * Rv y ≤ 100 * e15 := fun {y c} h c0 c1 => by
        have he := e15_pos
        obtain ⟨f, d1, d2⟩ := h
        refine ⟨f, ?_, ?_, ?_, ?_⟩ <;> clear hn lo hi k1 k2 k3 w0 w1 n1 n2 tn cn3 a s f <;> grind
      obtain ⟨fa, a1, a2, a3, a4⟩ := z a (by decide +kernel) (by decide +kernel)
      obtain ⟨fs, s1, s2, s3, s4⟩ := z (s.to (show X / 6 - 1 / 3 = X / 6 + -(1 / 3) by grind) Rat.le_refl) (by decide +kernel) (by decide +kernel)
      obtain ⟨fh, h1, h2, h3, h4⟩ := z (c := 0) (hn.to (show X / 6 = X / 6 + 0 by grind) (by decide +kernel)) (by decide +kernel) (by decide +kernel)
      rw [show 6 * (1 / 3 : Rat) = 2 by decide +kernel] at a3 a4
      rw [show X + 6 * (-(1 / 3) : Rat) = X - 2 by grind] at s3 s4
      rw [show X + 6 * (0 : Rat) = X by grind] at h3 h4
      exact ⟨wave_of (v_near n1 n2 w0 w1 fa a1 a2) w0 w1 a3 a4 k1, wave_of (v_near n1 n2 w0 w1 fh h1 h2) w0 w1 h3 h4 k2, wave_of (v_near n1 n2 w0 w1 fs s1 s2) w0 w1 s3 s4 k3⟩
  obtain ⟨a, b, c⟩ := key
  exact ⟨back64 a hr, back64 b hg, back64 c hb⟩

/-! the axes of two colours -/
theorem neg_near {x : UInt64} {X E : Rat} (h : Near x X E) : Near (neg x) (-X) E := by
  obtain ⟨⟨a, m, e, hd⟩, h1, h2⟩ := h
  have hv : Rv (neg x) = -Rv x := by
    unfold Rv
    rw [neg_val hd, Rat.intCast_neg]
    grind
  exact ⟨⟨_, _, _, neg_decode hd⟩, by rw [hv]; grind, by rw [hv]; grind⟩
theorem ci4096 : ((4096 : Int) : Rat) = 4096 := rfl
theorem iX_eq (r g b : Rat) : iX (r / 64) (g / 64) (b / 64) = (599 / 1000 * r - 2773 / 10000 * g - 3217 / 10000 * b) / 64 := by unfold iX lin; grind
theorem qX_eq (r g b : Rat) : qX (r / 64) (g / 64) (b / 64) = (213 / 1000 * r - 5251 / 10000 * g + 3121 / 10000 * b) / 64 := by unfold qX lin; grind
theorem cross_id (r1 g1 b1 r2 g2 b2 : Rat) : (iX (r1 / 64) (g1 / 64) (b1 / 64) * qX (r2 / 64) (g2 / 64) (b2 / 64) - iX (r2 / 64) (g2 / 64) (b2 / 64) * qX (r1 / 64) (g1 / 64) (b1 / 64)) * 4096 = -(127735 / 1000000) * ((2 * r1 - g1 - b1) * (g2 - b2) - (2 * r2 - g2 - b2) * (g1 - b1)) := by
  rw [iX_eq, iX_eq, qX_eq, qX_eq]
  grind
theorem far_eq {x y : UInt64} {X E E' : Rat} (hx : Near x X E) (hy : Near y X E') (h : E + E' ≤ 1 / 10000000) : farFF x y = false :=
  far_near hx hy (by clear hx hy; grind) (by clear hx hy; grind)
theorem way_bound {r g b g' b' : Nat} (h1 : r ≤ 64) (h2 : g ≤ 64) (h3 : b ≤ 64) (h5 : g' ≤ 64) (h6 : b' ≤ 64) : ((2 * (r : Int) - g - b) * ((g' : Int) - b')).natAbs ≤ 8192 := by
  rw [Int.natAbs_mul]
  exact Nat.mul_le_mul (show (2 * (r : Int) - g - b).natAbs ≤ 128 by omega) (show ((g' : Int) - b').natAbs ≤ 64 by omega)
theorem axes_ok {r1 g1 b1 r2 g2 b2 : Nat} (h1 : r1 ≤ 64) (h2 : g1 ≤ 64) (h3 : b1 ≤ 64) (h4 : r2 ≤ 64) (h5 : g2 ≤ 64) (h6 : b2 ≤ 64) :
    farFF (mul (crossF (yiqF (cn r1) (cn g1) (cn b1)).2.1 (yiqF (cn r1) (cn g1) (cn b1)).2.2 (yiqF (cn r2) (cn g2) (cn b2)).2.1 (yiqF (cn r2) (cn g2) (cn b2)).2.2) (ofInt 4096)) (mul (neg cW) (ofInt (crossI (2 * (r1 : Int) - g1 - b1) ((g1 : Int) - b1) (2 * (r2 : Int) - g2 - b2) ((g2 : Int) - b2)))) = false := by
  obtain ⟨ni1, nq1⟩ := iq_near (cn_unit h1) (cn_unit h2) (cn_unit h3)
  obtain ⟨ni2, nq2⟩ := iq_near (cn_unit h4) (cn_unit h5) (cn_unit h6)
  have p := NB.mul 3 2 (200 * e15) ni1 nq2 (by decide +kernel)
  have q := NB.mul 3 2 (200 * e15) ni2 nq1 (by decide +kernel)
  have c := NB.sub 3 4 (500 * e15) p q (by decide +kernel)
  have m1 := NB.mul 15 20000 (1 / 20000000) c (int_nb (i := 4096) 4096 (by decide) (by decide +kernel)) (by decide +kernel)
  rw [ci4096, cross_id] at m1
  have a1 := way_bound (r := r1) (g := g1) (b := b1) (g' := g2) (b' := b2) h1 h2 h3 h5 h6
  have a2 := way_bound (r := r2) (g := g2) (b := b2) (g' := g1) (b' := b1) h4 h5 h6 h2 h3
  have hc : ((crossI (2 * (r1 : Int) - g1 - b1) ((g1 : Int) - b1) (2 * (r2 : Int) - g2 - b2) ((g2 : Int) - b2) : Int) : Rat) = (2 * (r1 : Rat) - g1 - b1) * ((g2 : Rat) - b2) - (2 * (r2 : Rat) - g2 - b2) * ((g1 : Rat) - b1) := by
    unfold crossI
    simp only [Rat.intCast_sub, Rat.intCast_mul, Rat.intCast_natCast, ci2]
  rw [← hc] at m1
  have hb : -16384 ≤ crossI (2 * (r1 : Int) - g1 - b1) ((g1 : Int) - b1) (2 * (r2 : Int) - g2 - b2) ((g2 : Int) - b2) ∧ crossI (2 * (r1 : Int) - g1 - b1) ((g1 : Int) - b1) (2 * (r2 : Int) - g2 - b2) ((g2 : Int) - b2) ≤ 16384 := by
    unfold crossI
    generalize (2 * (r1 : Int) - g1 - b1) * ((g2 : Int) - b2) = x at *
    generalize (2 * (r2 : Int) - g2 - b2) * ((g1 : Int) - b1) = y at *
    clear m1 hc p q c ni1 nq1 ni2 nq2
    omega
  clear hc a1 a2 p q c ni1 nq1 ni2 nq2
  generalize crossI (2 * (r1 : Int) - g1 - b1) ((g1 : Int) - b1) (2 * (r2 : Int) - g2 - b2) ((g2 : Int) - b2) = z at *
  obtain ⟨b1', b2'⟩ := hb
  have hn := int_nb (i := z) 16384 (by omega) ⟨Rat.intCast_le_intCast.mpr b1', Rat.intCast_le_intCast.mpr b2'⟩
  have m2 := NB.mul 16 16384 (1 / 20000000) (nb_const 1 (neg_near cW_n) (by decide +kernel)) hn (by decide +kernel)
  exact far_eq m1.n m2.n (by decide +kernel)
end Mine

/-! part J1 -/
namespace Mine
open PySem.Float64

/-! the walk's two facts -/
theorem cf_nat (n : Nat) : cf (n : Int) = cn n := by
  unfold cf
  rw [cf_cn (by omega)]
  rfl
theorem if_up {x y : Int} (h : y ≤ x) : (if x - y < 0 then -(x - y) else x - y) = x - y := if_neg (Int.not_lt.mpr (Int.sub_nonneg.mpr h))
theorem if_dn {x y : Int} (h : x ≤ y) : (if x - y < 0 then -(x - y) else x - y) = y - x := by
  by_cases c : x - y < 0
  · rw [if_pos c]; omega
  · rw [if_neg c]; omega
theorem max_cast (a b : Nat) : max (a : Int) (b : Int) = ((max a b : Nat) : Int) := by omega
theorem min_cast (a b : Nat) : min (a : Int) (b : Int) = ((min a b : Nat) : Int) := by omega
theorem up_int {a b : Nat} (h : a ≤ b) : (a : Int) ≤ (b : Int) := Int.ofNat_le.mpr h
theorem around_rng (r g b : Nat) : aroundI r g b = 2 * (rngN r g b : Int) := by
  have hc : ((rngN r g b : Nat) : Int) = (mxN r g b : Int) - (mnN r g b : Int) := Int.ofNat_sub (mn_le_mx r g b)
  rw [hc]
  have rM := up_int (r_le_mx r g b)
  have gM := up_int (g_le_mx r g b)
  have bM := up_int (b_le_mx r g b)
  have mr := up_int (mn_le_r r g b)
  have mg := up_int (mn_le_g r g b)
  have mb := up_int (mn_le_b r g b)
  have v := sec_view r g b
  unfold aroundI
  generalize mxN r g b = M at *
  generalize mnN r g b = m at *
  rcases v with ⟨_, _, c1, c2⟩ | ⟨_, _, c1, c2, _⟩ | ⟨_, _, _, c1, c2⟩ | ⟨_, _, _, c1, c2⟩ | ⟨_, _, _, _, c1, c2⟩ | ⟨_, _, _, _, c1, c2⟩ <;> subst c1 c2
  · rw [if_up gM, if_up mg, if_dn mr]; omega
  · rw [if_up gM, if_dn mb, if_dn bM]; omega
  · rw [if_dn rM, if_up mg, if_dn mr]; omega
  · rw [if_dn rM, if_up bM, if_up mb]; omega
  · rw [if_dn mg, if_dn gM, if_up rM]; omega
  · rw [if_up mr, if_dn mb, if_up rM]; omega
theorem around_grey {r g b : Nat} : aroundI r g b = 0 ↔ mnN r g b = mxN r g b := by
  have h := mn_le_mx r g b
  rw [around_rng]
  unfold rngN
  omega
theorem colour_ok {r g b : Nat} (hr : r ≤ 64) (hg : g ≤ 64) (hb : b ≤ 64) : ColourOK (r : Int) (g : Int) (b : Int) := by
  have hM := mx_le hr hg hb
  have hue : HueOf (hsvF (cn r) (cn g) (cn b)).1 (snN r g b) (pnN r g b) (qnN r g b) := hueOf hr hg hb
  obtain ⟨i0, i5, fin6, _⟩ := hue_parts hue
  have hz := zero_rv
  have hmax : max (r : Int) (max (g : Int) (b : Int)) = ((mxN r g b : Nat) : Int) := by unfold mxN; rw [max_cast, max_cast]
  have hmin : min (r : Int) (min (g : Int) (b : Int)) = ((mnN r g b : Nat) : Int) := by unfold mnN; rw [min_cast, min_cast]
  have nz : ∀ n : Nat, 0 < n → n ≤ 1000 → isZero (cn n) = false := fun n h0 h1 => by
    have hc := cn_ex (n := n) h1
    have hp := nat_pos h0
    refine isZero_rv hc.1 ?_
    rw [hc.2]
    grind
  have H1 : mnN r g b ≠ mxN r g b → isZero (cn (mxN r g b)) = false ∧ isZero (sub (cn (mxN r g b)) (cn (mnN r g b))) = false := fun h => by
    rw [rng_cn hr hg hb]
    obtain ⟨b1, b2, b3, b4, b5⟩ := room_bounds hr hg hb h
    exact ⟨nz _ b4 (by omega), nz _ b1 (by omega)⟩
  show ColourP (cf r) (cf g) (cf b) r g b
  rw [cf_nat, cf_nat, cf_nat]
  constructor
  · rw [eq_mnmx hr hg hb, max_cn hr hg hb, min_cn hr hg hb]
    intro h
    exact H1 (of_decide_eq_false h)
  · rw [eq_mnmx hr hg hb, max_cn hr hg hb, min_cn hr hg hb]
    intro h
    have h := of_decide_eq_false h
    refine ⟨(H1 h).2, ?_, fun _ => ?_⟩
    · have hs := sum_ex hr hg hb
      refine isZero_rv hs.1 ?_
      rw [hs.2]
      have h1 := nat_pos (show 0 < mxN r g b by omega)
      have h2 := nat_nn (mnN r g b)
      grind
    · have hs := left_ex hr hg hb
      refine isZero_rv hs.1 ?_
      rw [hs.2]
      have h1 := nat_le hM
      have h2 := nat_le (show mnN r g b + 1 ≤ mxN r g b by omega)
      rw [Rat.natCast_add] at h2
      rw [cast64] at h1
      have e1 : ((1 : Nat) : Rat) = 1 := rfl
      rw [e1] at h2
      grind
  · exact fun _ => ⟨fin6, i0, i5⟩
  · rw [hls_hue]
    exact cmp_self hue.near.1
  · exact cmpInt_lt_false hue.near.1 hue.lo
  · exact cmpInt_ge_false hue.near.1 hue.hi
  · intro h
    have h := around_grey.mp h
    have e : (hsvF (cn r) (cn g) (cn b)).1 = 0 := by
      have := hueV_eq hr hg hb
      rw [if_pos h] at this
      exact this
    rw [e]
    exact cmpInt_eq_false hz.1 hz.2
  · intro h
    have h := around_grey.mp h
    rw [hsv_share hr hg hb, if_pos h]
    exact cmpInt_eq_false hz.1 hz.2
  · intro h
    have h := around_grey.mp h
    rw [hls_depth hr hg hb, if_pos h]
    exact cmpInt_eq_false hz.1 hz.2
  · rw [hmax]
    exact value_ok hr hg hb
  · rw [hmax, hmin]
    exact light_ok hr hg hb
  · rw [around_rng]
    exact share_ok hr hg hb
  · rw [around_rng]
    exact depth_ok hr hg hb
  · exact luma_ok hr hg hb
  · exact (hsvr_ok hr hg hb).1
  · exact (hsvr_ok hr hg hb).2.1
  · exact (hsvr_ok hr hg hb).2.2
  · rw [← hls_hue]; exact (by rw [hls_hue]; exact (hlsr_ok hr hg hb).1)
  · exact (hlsr_ok hr hg hb).2.1
  · exact (hlsr_ok hr hg hb).2.2
  · exact (yiqr_ok hr hg hb).1
  · exact (yiqr_ok hr hg hb).2.1
  · exact (yiqr_ok hr hg hb).2.2

theorem head_of (r g b : Nat) : HeadOf (headX r g b) (headY r g b) (snN r g b) (pnN r g b) (qnN r g b) := by
  have hm := mn_le_mx r g b
  unfold headX headY snN pnN qnN
  by_cases h : mnN r g b = mxN r g b
  · have ha := around_grey.mpr h
    rw [ha]
    simp only [if_pos h]
    exact .inr ⟨rfl, rfl, rfl, rfl, rfl⟩
  · have ha : 0 < aroundI r g b := by
      rw [around_rng]
      unfold rngN
      omega
    simp only [if_neg h, if_pos ha]
    obtain ⟨e1, e2⟩ := way_eq r g b
    exact .inl ⟨e1, e2⟩
theorem pair_ok' {r1 g1 b1 r2 g2 b2 : Nat} (h1 : r1 ≤ 64) (h2 : g1 ≤ 64) (h3 : b1 ≤ 64) (h4 : r2 ≤ 64) (h5 : g2 ≤ 64) (h6 : b2 ≤ 64) : PairOK (r1 : Int) (g1 : Int) (b1 : Int) (r2 : Int) (g2 : Int) (b2 : Int) := by
  have a : HueOf (hsvF (cn r1) (cn g1) (cn b1)).1 (snN r1 g1 b1) (pnN r1 g1 b1) (qnN r1 g1 b1) := hueOf h1 h2 h3
  have b : HueOf (hsvF (cn r2) (cn g2) (cn b2)).1 (snN r2 g2 b2) (pnN r2 g2 b2) (qnN r2 g2 b2) := hueOf h4 h5 h6
  show PairP (cf r1) (cf g1) (cf b1) (cf r2) (cf g2) (cf b2) r1 g1 b1 r2 g2 b2
  rw [cf_nat, cf_nat, cf_nat, cf_nat, cf_nat, cf_nat]
  constructor
  · exact axes_ok h1 h2 h3 h4 h5 h6
  · exact hues_order a b (head_of r1 g1 b1) (head_of r2 g2 b2)
  · exact hues_half a b (head_of r1 g1 b1) (head_of r2 g2 b2)

theorem nat_of {r : Int} (h : 0 ≤ r ∧ r ≤ 64) : ∃ n : Nat, r = (n : Int) ∧ n ≤ 64 := ⟨r.toNat, by omega, by omega⟩
theorem all_colours : AllColours := by
  intro r g b ⟨hr, hg, hb⟩
  obtain ⟨r', er, kr⟩ := nat_of hr
  obtain ⟨g', eg, kg⟩ := nat_of hg
  obtain ⟨b', eb, kb⟩ := nat_of hb
  simp only at er eg eb
  rw [er, eg, eb]
  exact colour_ok kr kg kb
theorem all_pairs : AllPairs := by
  intro r1 g1 b1 r2 g2 b2 ⟨h1, h2, h3⟩ ⟨h4, h5, h6⟩
  obtain ⟨n1, e1, k1⟩ := nat_of h1
  obtain ⟨n2, e2, k2⟩ := nat_of h2
  obtain ⟨n3, e3, k3⟩ := nat_of h3
  obtain ⟨n4, e4, k4⟩ := nat_of h4
  obtain ⟨n5, e5, k5⟩ := nat_of h5
  obtain ⟨n6, e6, k6⟩ := nat_of h6
  simp only at e1 e2 e3 e4 e5 e6
  rw [e1, e2, e3, e4, e5, e6]
  exact pair_ok' k1 k2 k3 k4 k5 k6
theorem done : PySem.Challenge.rw_sh0005_01.Holds := law_holds all_colours all_pairs
end Mine

theorem PySem.Challenge.cw_sh0005_01_holds : PySem.Challenge.rw_sh0005_01.Holds :=
  Mine.done

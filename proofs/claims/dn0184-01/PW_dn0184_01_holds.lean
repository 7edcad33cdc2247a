import PyProof.Rows.All
import Wide.All
import OpenK.AllK
import Wide.FinOn
import PySem.Challenge.RW_dn0184_01
open PySem PySem.W PyProof.Rows
set_option Elab.async false
set_option maxRecDepth 100000
set_option maxHeartbeats 40000000
namespace Mine
/-- the element of a comprehension is a bool -/
def ElB (news : List (Addr × Obj)) (b : Bool) (y : Value) (news' : List (Addr × Obj)) : Prop := news' = news ∧ y = .bool b
theorem elB_of {news news' : List (Addr × Obj)} {b b' : Bool} {y : Value} (e : b = b') (hn : news' = news) (hy : y = .bool b') : ElB news b y news' := by subst e; exact ⟨hn, hy⟩
section
variable {prog : Program} {w : World} {A : Around} {h₀ : Heap} {L : Addr} {m : Str → Option Value} {env : Env} {elt : Expr} {x : Str} {scope : Scope} {cl : List (Str × Addr)} {s : Shared} {S : List (Addr × Obj) → Prop} {P : Nat → Value → Prop} {Fin : List Value → List (Addr × Obj) → Prop} {news : List (Addr × Obj)}
theorem comp_bools {vs : List Value} {ns : List Int} (g : Int → Bool) (R : Int → Prop) (hi : IntsAre vs ns) (hR : ∀ k ∈ ns, R k)
    (turn : ∀ k t I oI C oC D m₂ ys h tk (E' : Value → Shared → Prop), R k → LCg.NsObj oC m₂ → m₂ x = some (.int k t) → Fr h₀ L h m → News h₀ L h ((I, oI) :: (C, oC) :: (D, LCg.lst ys) :: news) → LCg.Off3 I C D news → ((@Ne Nat I C) ∧ (@Ne Nat I D) ∧ (@Ne Nat C D)) →
      wpAny (model prog w) A (eval elt (compEnvC scope cl C env)) (LCg.CompEnd h₀ L m { s with heap := h, toks := tk } I oI C oC D (LCg.lst ys) S (fun y news' => ElB news (g k) y news')) E' { s with heap := h, toks := tk })
    (fin : ∀ ys, LSm.BoolsAre ys (ns.map g) → Fin ys news) : LCg.CompRest prog w A h₀ L m env elt x scope cl s S (fun i v => vs.toArray[i]? = some v) Fin vs.toArray.size 0 [] news := by
  have hl : vs.toArray.size = ns.length := by rw [List.size_toArray]; exact hi.length
  have key : ∀ (j i : Nat) (ys : List Value), i + j = vs.toArray.size → LSm.BoolsAre ys ((ns.take i).map g) → LCg.CompRest prog w A h₀ L m env elt x scope cl s S (fun i v => vs.toArray[i]? = some v) Fin j i ys news := by
    intro j
    induction j with
    | zero =>
      intro i ys hi' hy
      have e : i = ns.length := by omega
      subst e
      rw [List.take_length] at hy
      exact LCg.CompRest.zero (fin ys hy)
    | succ j ih =>
      intro i ys hi' hy
      refine LCg.CompRest.succ ?_
      intro v I oI C oC D m₂ h tk E' hv hC hx F N off ne
      obtain ⟨k, t, hv', hk⟩ := IntsAre.at hi i v (by simpa using hv)
      rw [hv'] at hx
      refine wpAny_mono (turn k t I oI C oC D m₂ ys h tk E' (hR k (List.mem_of_getElem? hk)) hC hx F N off ne) (fun y s₂ hq => ?_) fun _ _ e => e
      obtain ⟨h', tk', nw, e, F', N', off', hS, hn, hy'⟩ := hq
      rw [hn] at N' off' hS
      refine ⟨h', tk', news, e, F', N', off', hS, ?_⟩
      rw [hy']
      refine ih (i + 1) _ (by omega) ?_
      rw [List.take_add_one, hk]
      simpa using kbo_app hy (.cons (g k) .nil)
  exact key _ 0 [] (by omega) (by simp only [List.take_zero, List.map_nil]; exact .nil)
end
def base : List Int := [64975, 64976, 65007, 65008, 65533, 65534, 65535, 65536, 1114109, 1114110, 1114111]
def codeOf (x : Int) : Int := if Int.fmod x 1112064 < 55296 then Int.fmod x 1112064 else Int.fmod x 1112064 + 2048
def nearOf (x : Int) : Int := if Int.fmod x 108 < 68 then 65536 * (Int.fdiv (Int.fmod x 108) 4) + 65532 + Int.fmod (Int.fmod x 108) 4 else 64904 + Int.fmod x 108
def two (x : Int) : List Int := [codeOf x, nearOf x]
def octets (c : Int) : List Int :=
  if c < 128 then [c] else if c < 2048 then [192 + Int.fdiv c 64, 128 + Int.fmod c 64]
  else if c < 65536 then [224 + Int.fdiv c 4096, 128 + Int.fmod (Int.fdiv c 64) 64, 128 + Int.fmod c 64]
  else [240 + Int.fdiv c 262144, 128 + Int.fmod (Int.fdiv c 4096) 64, 128 + Int.fmod (Int.fdiv c 64) 64, 128 + Int.fmod c 64]
def inC4 (c : Int) : Bool := decide (64976 ≤ c) && (decide (c < 65008) || decide (c % 65536 = 65534) || decide (c % 65536 = 65535))
def Code (c : Int) : Prop := 0 ≤ c ∧ c ≤ 1114111
theorem fm (x n : Int) (h : 0 < n) : Int.fmod x n = x % n := Int.fmod_eq_emod_of_nonneg x (by omega)
theorem fd (x n : Int) (h : 0 < n) : Int.fdiv x n = x / n := Int.fdiv_eq_ediv_of_nonneg x (by omega)
theorem codeOf_ok (x : Int) : Code (codeOf x) := by
  unfold codeOf Code
  rw [fm x 1112064 (by decide)]
  split <;> omega
theorem nearOf_ok (x : Int) : Code (nearOf x) := by
  unfold nearOf Code
  rw [fm x 108 (by decide), fm _ 4 (by decide), fd _ 4 (by decide)]
  split <;> omega
theorem codes_ok (xs : List Int) : ∀ c ∈ base ++ xs.flatMap two, Code c := by
  intro c hc
  rcases List.mem_append.mp hc with h | h
  · revert c
    show ∀ c, c ∈ base ++ xs.flatMap two → c ∈ base → Code c
    intro c _ h
    simp only [base, List.mem_cons, List.not_mem_nil, or_false] at h
    unfold Code
    rcases h with h | h | h | h | h | h | h | h | h | h | h <;> omega
  · obtain ⟨x, _, hx⟩ := List.mem_flatMap.mp h
    simp only [two, List.mem_cons, List.not_mem_nil, or_false] at hx
    rcases hx with rfl | rfl
    · exact codeOf_ok x
    · exact nearOf_ok x
def P1 (pre codes : List Int) : Prop := codes = base ++ pre.flatMap two ∧ codes.length = 11 + 2 * pre.length
def P2 (pre row : List Int) : Prop := row = pre.flatMap octets ∧ row.length ≤ 4 * pre.length
theorem octets_len (c : Int) : (octets c).length ≤ 4 := by
  unfold octets
  repeat' split
  all_goals simp
theorem p1_turn {pre codes : List Int} {n a b : Int} (h : codes = base ++ pre.flatMap two) (hl : codes.length = 11 + 2 * pre.length) (ha : a = codeOf n) (hb : b = nearOf n) : codes ++ [a] ++ [b] = base ++ (pre ++ [n]).flatMap two ∧ (codes ++ [a] ++ [b]).length = 11 + 2 * (pre ++ [n]).length := by
  subst ha hb h
  refine ⟨?_, ?_⟩
  · simp [two]
  · simp only [List.length_append, List.length_cons, List.length_nil] at hl ⊢
    omega
theorem p2_turn {pre row ws : List Int} {c : Int} (h : row = pre.flatMap octets) (hl : row.length ≤ 4 * pre.length) (hw : ws = octets c) : row ++ ws = (pre ++ [c]).flatMap octets ∧ (row ++ ws).length ≤ 4 * (pre ++ [c]).length := by
  subst hw h
  refine ⟨by simp, ?_⟩
  have := octets_len c
  simp only [List.length_append, List.length_cons, List.length_nil] at hl ⊢
  omega
theorem codes_ok' {codes pre : List Int} (h : codes = base ++ pre.flatMap two) : ∀ c ∈ codes, Code c := h ▸ codes_ok pre
section
variable {prog : Program} {w : World} {A : Around} {E : Value → Shared → Prop} {s : Shared} {h₀ : Heap} {L D b : Addr} {m : Str → Option Value} {news news' : List (Addr × Obj)}
theorem my_extend {vs ws : List Value} {ns ms : List Int} {n n2 : Nat} {Q : Value → Shared → Prop} (F : Fr h₀ L s.heap m) (N : News h₀ L s.heap news) (hb : (b, listOf ws.toArray n2) ∈ news) (hi : IntsAre vs ns) (hj : IntsAre ws ms)
    (U : Upd D (listOf vs.toArray n) (listOf (vs ++ ws).toArray (n + 1)) news news') (hne : ws.length ≠ 0) (hw : ws.length ≤ 1000) (hl : ns.length ≤ 100000)
    (h : ∀ h', Fr h₀ L h' m → News h₀ L h' news' → IntsAre (vs ++ ws) (ns ++ ms) → Q .none { s with heap := h' }) : wpAny (model prog w) A (call (.builtin "list.extend") [.ref D, .ref b]) Q E s := by
  have hv := hi.length
  refine kl_extend (its := vs.toArray) (its2 := ws.toArray) (l := vs ++ ws) F N hb (by simp) (by simpa using hne) U ?_ ?_ ?_ (fun h' F' N' => h h' F' N' (IntsAre.append hi hj))
  · simp only [Builtin.List.listTooLong, List.size_toArray]
    intro hc
    simp at hc
    have := sizeLine_eq
    omega
  · rw [sizeLine_eq]; simp; omega
  · rw [sizeLine_eq]; simp; omega
theorem compEnd_b {I C : Addr} {oI oC oD : Obj} {S : List (Addr × Obj) → Prop} {bb bb' : Bool} {h' : Heap} {tk : Nat} {all : List (Addr × Obj)}
    (F : Fr h₀ L h' m) (N : News h₀ L h' all) (sub : ∀ p ∈ (I, oI) :: (C, oC) :: (D, oD) :: news, p ∈ all) (off : LCg.Off3 I C D news) (hS : S news) (e : bb = bb') :
    LCg.CompEnd h₀ L m s I oI C oC D oD S (fun y news' => ElB news bb y news') (.bool bb') { s with heap := h', toks := tk } :=
  LCg.CompEnd.intro F N news sub off hS (elB_of e rfl rfl)
end
def stepF (r : List Int) (st : List Int × Int) (p : Nat) : List Int × Int :=
  let one := r.getD p 0
  let two := r.getD (p + 1) 0
  let three := r.getD (p + 2) 0
  let four := r.getD (p + 3) 0
  let s := if one < 128 ∨ one > 191 then st.2 + 1 else st.2
  let f1 := if one = 239 ∧ two = 183 ∧ 144 ≤ three ∧ three ≤ 175 then st.1 ++ [s - 1] else st.1
  let f2 := if one = 239 ∧ two = 191 ∧ three ≥ 190 then f1 ++ [s - 1] else f1
  let f3 := if one ≥ 240 ∧ Int.fmod two 16 = 15 ∧ three = 191 ∧ four ≥ 190 then f2 ++ [s - 1] else f2
  (f3, s)
def scan (r : List Int) : Nat → List Int × Int
  | 0 => ([], 0)
  | p + 1 => stepF r (scan r p) p
theorem four_of {ws : List Value} {r : List Int} {k : Int} (hI : IntsAre ws (List.take (min (k + 4).toNat r.length - k.toNat) (List.drop k.toNat r))) (h0 : 0 ≤ k) (h4 : k.toNat + 4 ≤ r.length) :
    ∃ a b c d t1 t2 t3 t4, ws = [.int a t1, .int b t2, .int c t3, .int d t4] ∧ a = r.getD k.toNat 0 ∧ b = r.getD (k.toNat + 1) 0 ∧ c = r.getD (k.toNat + 2) 0 ∧ d = r.getD (k.toNat + 3) 0 := by
  have e : min (k + 4).toNat r.length - k.toNat = 4 := by omega
  rw [e] at hI
  generalize k.toNat = p at *
  have e1 : List.drop p r = r.getD p 0 :: r.getD (p + 1) 0 :: r.getD (p + 2) 0 :: r.getD (p + 3) 0 :: List.drop (p + 4) r := by
    have g : ∀ j, j < r.length → List.drop j r = r.getD j 0 :: List.drop (j + 1) r := fun j hj => by
      rw [List.drop_eq_getElem_cons hj, List.getD_eq_getElem?_getD, List.getElem?_eq_getElem hj]; rfl
    rw [g p (by omega), g (p + 1) (by omega), g (p + 2) (by omega), g (p + 3) (by omega)]
  rw [e1] at hI
  simp only [List.take_succ_cons, List.take_zero] at hI
  cases hI with
  | cons _ t1 hI =>
    cases hI with
    | cons _ t2 hI =>
      cases hI with
      | cons _ t3 hI =>
        cases hI with
        | cons _ t4 hI =>
          cases hI
          exact ⟨_, _, _, _, t1, t2, t3, t4, rfl, rfl, rfl, rfl, rfl⟩
theorem p3_turn {r pre found f' : List Int} {signs s' k a b c d : Int} (h1 : found = (scan r pre.length).1) (h2 : signs = (scan r pre.length).2) (h3 : found.length ≤ 3 * pre.length) (hk : k = 0 + (pre.length : Int))
    (ha : a = r.getD k.toNat 0) (hb : b = r.getD (k.toNat + 1) 0) (hc : c = r.getD (k.toNat + 2) 0) (hd : d = r.getD (k.toNat + 3) 0)
    (hs : s' = if a < 128 ∨ a > 191 then signs + 1 else signs)
    (hf : f' = if a = 239 ∧ b = 183 ∧ 144 ≤ c ∧ c ≤ 175 then found ++ [s' - 1] else if a = 239 ∧ b = 191 ∧ c ≥ 190 then found ++ [s' - 1] else if a ≥ 240 ∧ Int.fmod b 16 = 15 ∧ c = 191 ∧ d ≥ 190 then found ++ [s' - 1] else found) :
    f' = (scan r (pre ++ [k]).length).1 ∧ s' = (scan r (pre ++ [k]).length).2 ∧ f'.length ≤ 3 * (pre ++ [k]).length := by
  have hk' : k.toNat = pre.length := by omega
  rw [hk'] at ha hb hc hd
  have e : scan r (pre ++ [k]).length = stepF r (scan r pre.length) pre.length := by
    rw [List.length_append, List.length_singleton]; rfl
  have e2 : stepF r (scan r pre.length) pre.length = (f', s') := by
    unfold stepF
    simp only [← ha, ← hb, ← hc, ← hd, ← h1, ← h2, ← hs]
    refine Prod.ext ?_ rfl
    subst hf
    show _ = _
    simp only
    (repeat' split) <;> first | rfl | (exfalso; omega)
  rw [e, e2]
  refine ⟨rfl, rfl, ?_⟩
  have : f'.length ≤ found.length + 1 := by
    subst hf
    (repeat' split) <;> simp
  rw [List.length_append, List.length_singleton]
  omega
theorem inC4_low {k : Int} (h : ((k.toNat : Nat) : Int) < 64976) (h0 : 0 ≤ k) : inC4 k = false := by
  unfold inC4
  have : ¬ (64976 ≤ k) := by omega
  simp [this]
theorem inC4_mid {k : Int} (h : ¬ ((k.toNat : Nat) : Int) < 64976) (h' : ((k.toNat : Nat) : Int) < 65008) (h0 : 0 ≤ k) : inC4 k = true := by
  unfold inC4
  have : 64976 ≤ k := by omega
  have : k < 65008 := by omega
  simp [*]
theorem inC4_high {k : Int} (h : ¬ ((k.toNat : Nat) : Int) < 64976) (h' : ¬ ((k.toNat : Nat) : Int) < 65008) (h0 : 0 ≤ k) : inC4 k = ([65534, 65535].any fun x => x == Builtin.bitAnd ((k.toNat : Nat) : Int) 65535) := by
  have e : ((k.toNat : Nat) : Int) = k := by omega
  rw [e] at *
  rw [bitAnd_m16]
  unfold inC4
  have : 64976 ≤ k := by omega
  have : ¬ k < 65008 := by omega
  rw [Bool.eq_iff_iff]
  simp only [*, decide_true, decide_false, Bool.true_and, Bool.false_or, Bool.or_eq_true, decide_eq_true_eq, List.any_cons, List.any_nil, Bool.or_false, beq_iff_eq]
  omega
def SelEl (news : List (Addr × Obj)) (k : Int) (p : Bool) (y : Value) (news' : List (Addr × Obj)) : Prop := news' = news ∧ p = true ∧ ∃ t, y = .int k t
def SelNo (news : List (Addr × Obj)) (p : Bool) (news' : List (Addr × Obj)) : Prop := news' = news ∧ p = false
section
variable {prog : Program} {w : World} {A : Around} {h₀ : Heap} {L : Addr} {m : Str → Option Value} {env : Env} {ct elt : Expr} {x : Str} {scope : Scope} {cl : List (Str × Addr)} {s : Shared} {S : List (Addr × Obj) → Prop} {Fin : List Value → List (Addr × Obj) → Prop} {news : List (Addr × Obj)}
theorem comp_sel {n : Nat} {a : Int} (p : Int → Bool)
    (turn : ∀ k t I oI C oC D m₂ ys h tk (E' : Value → Shared → Prop), a ≤ k → k < a + (n : Int) → LCg.NsObj oC m₂ → m₂ x = some (.int k t) → Fr h₀ L h m → News h₀ L h ((I, oI) :: (C, oC) :: (D, LCg.lst ys) :: news) → LCg.Off3 I C D news → ((@Ne Nat I C) ∧ (@Ne Nat I D) ∧ (@Ne Nat C D)) →
      wpAny (model prog w) A (isTrue ct (compEnvC scope cl C env) (eval ct (compEnvC scope cl C env))) (fun b s' => if b = true then wpAny (model prog w) A (eval elt (compEnvC scope cl C env)) (LCg.CompEnd h₀ L m { s with heap := h, toks := tk } I oI C oC D (LCg.lst ys) S (fun y news' => SelEl news k (p k) y news')) E' s'
        else LCg.CompEnd h₀ L m { s with heap := h, toks := tk } I oI C oC D (LCg.lst ys) S (fun _ news' => SelNo news (p k) news') Value.none s') E' { s with heap := h, toks := tk })
    (fin : ∀ ys, IntsAre ys ((rangeKs a n).filter p) → ((rangeKs a n).filter p).length ≤ n → Fin ys news) : LCt.CompRestT prog w A h₀ L m env ct elt x scope cl s S (fun i v => ∃ t, v = .int (a + (i : Int)) t) Fin n 0 [] news := by
  have hks := rangeKs_length a n
  have key : ∀ (j i : Nat) (ys : List Value), i + j = n → IntsAre ys (((rangeKs a n).take i).filter p) → LCt.CompRestT prog w A h₀ L m env ct elt x scope cl s S (fun i v => ∃ t, v = .int (a + (i : Int)) t) Fin j i ys news := by
    intro j
    induction j with
    | zero =>
      intro i ys hi hy
      have e : i = (rangeKs a n).length := by omega
      rw [e, List.take_length] at hy
      refine LCt.CompRestT.zero (fin ys hy ?_)
      have := List.length_filter_le p (rangeKs a n)
      omega
    | succ j ih =>
      intro i ys hi hy
      refine LCt.CompRestT.succ ?_
      intro v I oI C oC D m₂ h tk E' hv hC hx F N off ne
      obtain ⟨t, hv'⟩ := hv
      have hk : (rangeKs a n)[i]? = some (a + (i : Int)) := by
        have : i < n := by omega
        simp [rangeKs, this]
      rw [hv'] at hx
      have hs : ((rangeKs a n).take (i + 1)).filter p = ((rangeKs a n).take i).filter p ++ (if p (a + (i : Int)) then [a + (i : Int)] else []) := by
        rw [List.take_add_one, hk, List.filter_append]
        simp only [Option.toList_some, List.filter_cons, List.filter_nil]
      refine wpAny_mono (turn (a + (i : Int)) t I oI C oC D m₂ ys h tk E' (by omega) (by omega) hC hx F N off ne) (fun b s₂ hq => ?_) fun _ _ e => e
      cases b with
      | true =>
        simp only [if_true] at hq ⊢
        refine wpAny_mono hq (fun y s₃ hr => ?_) fun _ _ e => e
        obtain ⟨h', tk', nw, e, F', N', off', hS, hn, hp, t', hy'⟩ := hr
        rw [hn] at N' off' hS
        refine ⟨h', tk', news, e, F', N', off', hS, ?_⟩
        rw [hy']
        refine ih (i + 1) _ (by omega) ?_
        rw [hs, hp]
        exact IntsAre.append hy (.cons _ t' .nil)
      | false =>
        simp only [Bool.false_eq_true, if_false] at hq ⊢
        obtain ⟨h', tk', nw, e, F', N', off', hS, hn, hp⟩ := hq
        rw [hn] at N' off' hS
        refine ⟨h', tk', news, e, F', N', off', hS, ih (i + 1) _ (by omega) ?_⟩
        rw [hs, hp]
        simpa using hy
  exact key n 0 [] (by omega) (by simp only [List.take_zero, List.filter_nil]; exact .nil)
variable {I C D : Addr} {oI oC oD : Obj} {h' : Heap} {tk : Nat} {all : List (Addr × Obj)}
theorem compEnd_el {k : Int} {p : Bool} {t : Tok}
    (F : Fr h₀ L h' m) (N : News h₀ L h' all) (sub : ∀ p ∈ (I, oI) :: (C, oC) :: (D, oD) :: news, p ∈ all) (off : LCg.Off3 I C D news) (hS : S news) (e : p = true) :
    LCg.CompEnd h₀ L m s I oI C oC D oD S (fun y news' => SelEl news k p y news') (.int k t) { s with heap := h', toks := tk } :=
  LCg.CompEnd.intro F N news sub off hS ⟨rfl, e, t, rfl⟩
theorem compEnd_no {p : Bool}
    (F : Fr h₀ L h' m) (N : News h₀ L h' all) (sub : ∀ p ∈ (I, oI) :: (C, oC) :: (D, oD) :: news, p ∈ all) (off : LCg.Off3 I C D news) (hS : S news) (e : p = false) :
    LCg.CompEnd h₀ L m s I oI C oC D oD S (fun _ news' => SelNo news p news') Value.none { s with heap := h', toks := tk } :=
  LCg.CompEnd.intro F N news sub off hS ⟨rfl, e⟩
end
section
variable {prog : Program} {w : World} {A : Around} {h₀ : Heap} {L : Addr} {m : Str → Option Value} {env : Env} {ct elt : Expr} {x : Str} {scope : Scope} {cl : List (Str × Addr)} {s : Shared} {S : List (Addr × Obj) → Prop} {Fin : List Value → List (Addr × Obj) → Prop} {news : List (Addr × Obj)}
theorem comp_selT {n : Nat} {a : Int} {vs : List Value} {bs : List Bool} (_ : LSm.BoolsAre vs bs)
    (turn : ∀ k t I oI C oC D m₂ ys h tk (E' : Value → Shared → Prop), a ≤ k → k < a + (n : Int) → LCg.NsObj oC m₂ → m₂ x = some (.int k t) → Fr h₀ L h m → News h₀ L h ((I, oI) :: (C, oC) :: (D, LCg.lst ys) :: news) → LCg.Off3 I C D news → ((@Ne Nat I C) ∧ (@Ne Nat I D) ∧ (@Ne Nat C D)) →
      wpAny (model prog w) A (isTrue ct (compEnvC scope cl C env) (eval ct (compEnvC scope cl C env))) (fun b s' => if b = true then wpAny (model prog w) A (eval elt (compEnvC scope cl C env)) (LCg.CompEnd h₀ L m { s with heap := h, toks := tk } I oI C oC D (LCg.lst ys) S (fun y news' => SelEl news k (bs.getD k.toNat false) y news')) E' s'
        else LCg.CompEnd h₀ L m { s with heap := h, toks := tk } I oI C oC D (LCg.lst ys) S (fun _ news' => SelNo news (bs.getD k.toNat false) news') Value.none s') E' { s with heap := h, toks := tk })
    (fin : ∀ ys, IntsAre ys ((rangeKs a n).filter fun k => bs.getD k.toNat false) → ((rangeKs a n).filter fun k => bs.getD k.toNat false).length ≤ n → Fin ys news) : LCt.CompRestT prog w A h₀ L m env ct elt x scope cl s S (fun i v => ∃ t, v = .int (a + (i : Int)) t) Fin n 0 [] news :=
  comp_sel (fun k => bs.getD k.toNat false) turn fin
theorem comp_selF {n : Nat} {a : Int} {vs : List Value} {bs : List Bool} (_ : LSm.BoolsAre vs bs)
    (turn : ∀ k t I oI C oC D m₂ ys h tk (E' : Value → Shared → Prop), a ≤ k → k < a + (n : Int) → LCg.NsObj oC m₂ → m₂ x = some (.int k t) → Fr h₀ L h m → News h₀ L h ((I, oI) :: (C, oC) :: (D, LCg.lst ys) :: news) → LCg.Off3 I C D news → ((@Ne Nat I C) ∧ (@Ne Nat I D) ∧ (@Ne Nat C D)) →
      wpAny (model prog w) A (isTrue ct (compEnvC scope cl C env) (eval ct (compEnvC scope cl C env))) (fun b s' => if b = true then wpAny (model prog w) A (eval elt (compEnvC scope cl C env)) (LCg.CompEnd h₀ L m { s with heap := h, toks := tk } I oI C oC D (LCg.lst ys) S (fun y news' => SelEl news k (!bs.getD k.toNat false) y news')) E' s'
        else LCg.CompEnd h₀ L m { s with heap := h, toks := tk } I oI C oC D (LCg.lst ys) S (fun _ news' => SelNo news (!bs.getD k.toNat false) news') Value.none s') E' { s with heap := h, toks := tk })
    (fin : ∀ ys, IntsAre ys ((rangeKs a n).filter fun k => !bs.getD k.toNat false) → ((rangeKs a n).filter fun k => !bs.getD k.toNat false).length ≤ n → Fin ys news) : LCt.CompRestT prog w A h₀ L m env ct elt x scope cl s S (fun i v => ∃ t, v = .int (a + (i : Int)) t) Fin n 0 [] news :=
  comp_sel (fun k => !bs.getD k.toNat false) turn fin
end
end Mine
namespace Mine
abbrev Hit (one two three four : Int) : Prop := (one = 239 ∧ two = 183 ∧ 144 ≤ three ∧ three ≤ 175) ∨ (one = 239 ∧ two = 191 ∧ three ≥ 190) ∨ (one ≥ 240 ∧ Int.fmod two 16 = 15 ∧ three = 191 ∧ four ≥ 190)
def go : List Int → Int → List Int
  | [], _ => []
  | one :: r, s =>
    let t := r ++ [0, 0, 0]
    let s' := if one < 128 ∨ one > 191 then s + 1 else s
    (if Hit one (t.getD 0 0) (t.getD 1 0) (t.getD 2 0) then [s' - 1] else []) ++ go r s'
theorem stepF_eq (r : List Int) (st : List Int × Int) (p : Nat) : stepF r st p = 
    (st.1 ++ (if Hit (r.getD p 0) (r.getD (p + 1) 0) (r.getD (p + 2) 0) (r.getD (p + 3) 0) then [(if r.getD p 0 < 128 ∨ r.getD p 0 > 191 then st.2 + 1 else st.2) - 1] else []), if r.getD p 0 < 128 ∨ r.getD p 0 > 191 then st.2 + 1 else st.2) := by
  unfold stepF Hit
  generalize r.getD p 0 = a
  generalize r.getD (p + 1) 0 = b
  generalize r.getD (p + 2) 0 = c
  generalize r.getD (p + 3) 0 = d
  refine Prod.ext ?_ rfl
  dsimp only
  generalize (if a < 128 ∨ a > 191 then st.2 + 1 else st.2) = s'
  by_cases h1 : a = 239 ∧ b = 183 ∧ 144 ≤ c ∧ c ≤ 175
  · rw [if_pos h1, if_neg (by omega), if_neg (by omega), if_pos (Or.inl h1)]
  · rw [if_neg h1]
    by_cases h2 : a = 239 ∧ b = 191 ∧ c ≥ 190
    · rw [if_pos h2, if_neg (by omega), if_pos (Or.inr (Or.inl h2))]
    · rw [if_neg h2]
      by_cases h3 : a ≥ 240 ∧ b.fmod 16 = 15 ∧ c = 191 ∧ d ≥ 190
      · rw [if_pos h3, if_pos (Or.inr (Or.inr h3))]
      · rw [if_neg h3, if_neg (by rintro (h | h | h); exact h1 h; exact h2 h; exact h3 h), List.append_nil]
theorem getD_app (pre t : List Int) (i : Nat) : (pre ++ t).getD (pre.length + i) 0 = t.getD i 0 := by
  rw [List.getD_eq_getElem?_getD, List.getD_eq_getElem?_getD, List.getElem?_append_right (by omega)]
  congr 2
  omega
theorem scan_go : ∀ (suf pre : List Int), (scan (pre ++ suf ++ [0, 0, 0]) (pre.length + suf.length)).1 = (scan (pre ++ suf ++ [0, 0, 0]) pre.length).1 ++ go suf (scan (pre ++ suf ++ [0, 0, 0]) pre.length).2
  | [], pre => by simp [go]
  | one :: r, pre => by
    have ih := scan_go r (pre ++ [one])
    have e : pre ++ [one] ++ r ++ [0, 0, 0] = pre ++ one :: r ++ [0, 0, 0] := by simp
    rw [e] at ih
    have el : (pre ++ [one]).length + r.length = pre.length + (one :: r).length := by simp; omega
    rw [el] at ih
    rw [ih]
    have e1 : (pre ++ [one]).length = pre.length + 1 := by simp
    rw [e1]
    have hs : scan (pre ++ one :: r ++ [0, 0, 0]) (pre.length + 1) = stepF (pre ++ one :: r ++ [0, 0, 0]) (scan (pre ++ one :: r ++ [0, 0, 0]) pre.length) pre.length := rfl
    rw [hs, stepF_eq]
    generalize scan (pre ++ one :: r ++ [0, 0, 0]) pre.length = st
    have g0 : (pre ++ one :: r ++ [0, 0, 0]).getD pre.length 0 = one := by
      rw [List.append_assoc]; exact getD_app pre _ 0
    have g1 : ∀ i, (pre ++ one :: r ++ [0, 0, 0]).getD (pre.length + (i + 1)) 0 = (r ++ [0, 0, 0]).getD i 0 := fun i => by
      rw [List.append_assoc, getD_app pre _ (i + 1)]; rfl
    rw [g0, g1 0, g1 1, g1 2]
    simp only [go, List.append_assoc]
theorem go_trail {b : Int} {r : List Int} {s : Int} (h1 : 128 ≤ b) (h2 : b ≤ 191) : go (b :: r) s = go r s := by
  conv => lhs; unfold go
  dsimp only
  rw [if_neg (c := b < 128 ∨ b > 191) (by omega), if_neg (by unfold Hit; omega), List.nil_append]
theorem go_lead {b : Int} {r : List Int} {s : Int} (h : b < 128 ∨ b > 191) : go (b :: r) s = (if Hit b ((r ++ [0, 0, 0]).getD 0 0) ((r ++ [0, 0, 0]).getD 1 0) ((r ++ [0, 0, 0]).getD 2 0) then [s] else []) ++ go r (s + 1) := by
  conv => lhs; unfold go
  dsimp only
  rw [if_pos h, Int.add_sub_cancel]
theorem inC4_iff (c : Int) : inC4 c = true ↔ 64976 ≤ c ∧ (c < 65008 ∨ c % 65536 = 65534 ∨ c % 65536 = 65535) := by
  unfold inC4
  simp [or_assoc]
theorem go_octets {c : Int} (hc : Code c) (rest : List Int) (s : Int) : go (octets c ++ rest) s = (if inC4 c then [s] else []) ++ go rest (s + 1) := by
  obtain ⟨h0, h1⟩ := hc
  unfold octets
  rw [fd c 64 (by decide), fd c 4096 (by decide), fd c 262144 (by decide), fm _ 64 (by decide), fm _ 64 (by decide), fm _ 64 (by decide)]
  have pick : ∀ {P : Prop} [Decidable P] {l : List Int}, (P ↔ inC4 c = true) → (if P then l else []) = (if inC4 c then l else []) := fun h => by simp only [h]
  split
  · rw [List.singleton_append, go_lead (by omega), pick (by rw [inC4_iff]; unfold Hit; omega)]
  · split
    · rw [List.cons_append, List.cons_append, List.nil_append, go_lead (by omega), go_trail (by omega) (by omega), pick (by rw [inC4_iff]; unfold Hit; omega)]
    · split
      · simp only [List.cons_append, List.nil_append]
        rw [go_lead (by omega), go_trail (by omega) (by omega), go_trail (by omega) (by omega), pick (by
          rw [inC4_iff]; unfold Hit
          simp only [List.cons_append, List.getD_cons_zero, List.getD_cons_succ]
          omega)]
      · simp only [List.cons_append, List.nil_append]
        rw [go_lead (by omega), go_trail (by omega) (by omega), go_trail (by omega) (by omega), go_trail (by omega) (by omega), pick (by
          rw [inC4_iff]; unfold Hit
          simp only [List.cons_append, List.getD_cons_zero, List.getD_cons_succ]
          rw [fm _ 16 (by decide)]
          omega)]
def idx : List Int → Int → List Int
  | [], _ => []
  | c :: cs, s => (if inC4 c then [s] else []) ++ idx cs (s + 1)
theorem go_codes : ∀ (cs : List Int), (∀ c ∈ cs, Code c) → ∀ s, go (cs.flatMap octets) s = idx cs s
  | [], _, s => by simp [go, idx]
  | c :: cs, h, s => by
    rw [List.flatMap_cons, go_octets (h c List.mem_cons_self), go_codes cs (fun x hx => h x (List.mem_cons_of_mem _ hx))]
    rfl
theorem scan_codes {cs : List Int} (h : ∀ c ∈ cs, Code c) : (scan (cs.flatMap octets ++ [0, 0, 0]) (cs.flatMap octets).length).1 = idx cs 0 := by
  have := scan_go (cs.flatMap octets) []
  simp only [List.nil_append, List.length_nil, Nat.zero_add] at this
  rw [this, go_codes cs h]
  rfl
end Mine
namespace Mine
theorem filt : ∀ (cs : List Int) (pre : List Bool), ((List.range cs.length).map fun (i : Nat) => (pre.length : Int) + (i : Int)).filter (fun k => (pre ++ cs.map inC4).getD k.toNat false) = idx cs pre.length
  | [], pre => rfl
  | c :: cs, pre => by
    have ih := filt cs (pre ++ [inC4 c])
    have e1 : pre ++ [inC4 c] ++ cs.map inC4 = pre ++ (c :: cs).map inC4 := by simp
    have e2 : ((pre ++ [inC4 c]).length : Int) = (pre.length : Int) + 1 := by simp
    rw [e1, e2] at ih
    rw [List.length_cons, List.range_succ_eq_map, List.map_cons (f := fun (i : Nat) => (pre.length : Int) + (i : Int)), List.filter_cons, List.map_map]
    have e3 : ((fun (i : Nat) => (pre.length : Int) + (i : Int)) ∘ Nat.succ) = fun (i : Nat) => (pre.length : Int) + 1 + (i : Int) := by
      funext i; simp only [Function.comp]; omega
    rw [e3, ih]
    have e4 : (pre ++ (c :: cs).map inC4).getD ((pre.length : Int) + ((0 : Nat) : Int)).toNat false = inC4 c := by
      have : ((pre.length : Int) + ((0 : Nat) : Int)).toNat = pre.length := by omega
      rw [this, List.getD_eq_getElem?_getD, List.getElem?_append_right (by omega)]
      simp
    rw [e4]
    show _ = (if inC4 c then [(pre.length : Int)] else []) ++ idx cs (pre.length + 1)
    cases inC4 c
    · rfl
    · simp
theorem main_yes {codes row found pre : List Int} (h : codes = base ++ pre.flatMap two) (hr : row = codes.flatMap octets)
    (hf : found = (scan (row ++ [0, 0, 0]) (rangeKs 0 ((↑(row.length + (1 + 1 + 1)) : Int) - 3 - 0).toNat).length).1) :
    List.filter (fun k => (List.map inC4 codes).getD k.toNat false) (rangeKs 0 ((↑(List.map inC4 codes).length : Int) - 0).toNat) = found := by
  have e1 : ((↑(row.length + (1 + 1 + 1)) : Int) - 3 - 0).toNat = row.length := by omega
  have e2 : ((↑(List.map inC4 codes).length : Int) - 0).toNat = codes.length := by rw [List.length_map]; omega
  rw [e1, rangeKs_length, hr, scan_codes (codes_ok' h)] at hf
  rw [e2, hf]
  exact filt codes []
theorem filt_two {α : Type} (p : α → Bool) : ∀ l : List α, (l.filter p).length + (l.filter fun x => !p x).length = l.length
  | [] => rfl
  | x :: l => by
    have ih := filt_two p l
    rw [List.filter_cons, List.filter_cons]
    cases p x <;> simp <;> omega
theorem main_len {codes : List Int} : (List.filter (fun k => (List.map inC4 codes).getD k.toNat false) (rangeKs 0 ((↑(List.map inC4 codes).length : Int) - 0).toNat)).length + (List.filter (fun k => !(List.map inC4 codes).getD k.toNat false) (rangeKs 0 ((↑(List.map inC4 codes).length : Int) - 0).toNat)).length = codes.length := by
  have e2 : ((↑(List.map inC4 codes).length : Int) - 0).toNat = codes.length := by rw [List.length_map]; omega
  rw [e2]
  have := filt_two (fun k : Int => (List.map inC4 codes).getD k.toNat false) (rangeKs 0 codes.length)
  rw [rangeKs_length] at this
  exact this
end Mine
namespace Mine
theorem main_len' {codes : List Int} : ((List.filter (fun k => (List.map inC4 codes).getD k.toNat false) (rangeKs 0 ((↑(List.map inC4 codes).length : Int) - 0).toNat)).length : Int) + ((List.filter (fun k => !(List.map inC4 codes).getD k.toNat false) (rangeKs 0 ((↑(List.map inC4 codes).length : Int) - 0).toNat)).length : Int) = (codes.length : Int) := by
  have := main_len (codes := codes)
  omega
theorem sel_tt {b : Bool} (h : (b == true) = true) : b = true := by cases b <;> simp_all
theorem sel_tf {b : Bool} (h : ¬ (b == true) = true) : b = false := by cases b <;> simp_all
theorem sel_tf' {b : Bool} (h : (b == true) = false) : b = false := by cases b <;> simp_all
theorem sel_ft {b : Bool} (h : (b == false) = true) : (!b) = true := by cases b <;> simp_all
theorem sel_ff {b : Bool} (h : ¬ (b == false) = true) : (!b) = false := by cases b <;> simp_all
theorem sel_ff' {b : Bool} (h : (b == false) = false) : (!b) = false := by cases b <;> simp_all
section
variable {prog : Program} {w : World} {A : Around} {E : Value → Shared → Prop} {s : Shared} {h₀ : Heap} {L l : Addr} {news : List (Addr × Obj)}
theorem my_len {ys : List Value} {ns cs : List Int} {Q : Value → Shared → Prop} (N : News h₀ L s.heap news) (hm : (l, LCg.lst ys) ∈ news) (hi : IntsAre ys ns) (hb : ns.length ≤ ((↑(List.map inC4 cs).length : Int) - 0).toNat) (hc : cs.length ≤ 1000)
    (h : Q (.int (ns.length : Int) (s.toks + 1)) { s with toks := s.toks + 1 + 1 }) : wpAny (model prog w) A (call (.builtin "len") [.ref l]) Q E s :=
  kst_len (us := ys) N hm hi.length (by rw [List.length_map] at hb; omega) h
end
end Mine
namespace Mine
theorem my_end {cl : Str → Option Addr} {mean : ExcName → Option Value} {args : List WData} {s₁ s' : Shared} {L : Addr} {m : Str → Option Value} {b : Bool} (F : Fr s₁.heap L s'.heap m) (hg : s'.gens = #[]) (hb : b = true) (hos : s'.os = s₁.os := by rfl) :
    GoodW PySem.Challenge.rw_dn0184_01.row.claim cl mean args s₁ (.ok (.ret (.bool b))) s' := by
  subst hb
  refine goodW_bool F hg (fun cls => ?_) ?_ hos
  · rfl
  · exact postW_of (r := PySem.Challenge.rw_dn0184_01.row.toRowW) (by with_unfolding_all rfl) (w_eq_bool (w_res rfl) w_lit) rfl
end Mine
namespace Mine
open_top hd for PySem.Challenge.rw_dn0184_01
end Mine
open Mine
local macro_rules | `(tactic| walk_at "call builtin:list.extend") => `(tactic| (k_here; k_dflt (refine' my_extend ?F ?N ?b ?i ?j ?U ?ne ?w ?l ?_; (case F => k_asm); (case N => k_asm); (case b => k_mem); (case i => assumption); (case j => first | exact .cons _ _ .nil | exact .cons _ _ (.cons _ _ .nil) | exact .cons _ _ (.cons _ _ (.cons _ _ .nil)) | exact .cons _ _ (.cons _ _ (.cons _ _ (.cons _ _ .nil)))); (case U => k_upd); (case ne => exact Nat.succ_ne_zero _); (case w => exact Nat.le_of_ble_eq_true rfl); (case l => omega)); intro h' F' N' hX'; (try dsimp only at N'); (try k_sweep)))
local macro_rules | `(tactic| walk_at "call builtin:chr") => `(tactic| (refine chr_of_range (by omega) (by omega) ?_))
local macro_rules | `(tactic| walk_at "CompSrc") => `(tactic| (k_here; k_dflt (refine LCg.CompSrc.ledger (by rfl) (by k_asm) (by k_asm) (by k_mem) (by kcf_size) ?_; intro g'; (refine' comp_bools Mine.inC4 Code (by assumption) (codes_ok' (by assumption)) (fun k' t' I' oI' C' oC' D' m' ys' h' tk' E' hk' hC' hx' F' N' off' ne' => ?_) (fun ys hB' => ?_)); (all_goals (try (simp only [LCg.Off3, and_true] at off'))); (all_goals (try (obtain ⟨hlo', hhi'⟩ := hk'))); (all_goals (try k_fold)))))
local macro_rules | `(tactic| walk_at "CompEnd") => `(tactic| ((with_reducible show LCg.CompEnd _ _ _ _ _ _ _ _ _ _ _ (fun y news' => ElB _ _ y news') _ _); k_dflt (refine compEnd_b (by assumption) (by k_asm) (by lcg_sub) (by lcg_off) (by lcg_src) ?_); first | with_reducible exact inC4_low (by with_reducible assumption) (by with_reducible assumption) | with_reducible exact inC4_mid (by with_reducible assumption) (by with_reducible assumption) (by with_reducible assumption) | with_reducible exact inC4_high (by with_reducible assumption) (by with_reducible assumption) (by with_reducible assumption)))
local macro_rules | `(tactic| walk_at "CompSrcT") => `(tactic| (k_here; k_dflt (refine LCt.CompSrcT.range (by rfl) (by k_asm) (by k_asm) (by assumption) (by exact small_one (by (try simp only [List.length_map]); omega) (by (try simp only [List.length_map]); omega) (by (try simp only [List.length_map]); omega) (by (try simp only [List.length_map]); omega)) (by exact rangeSize_nat _ _) (by rw [PySem.sizeLine_eq]; (try simp only [List.length_map]); omega) ?_; intro g'; first
  | ((with_reducible show LCt.CompRestT _ _ _ _ _ _ _ (Expr.Compare _ _ [Expr.Constant (Const.bool true) _ _] _) _ _ _ _ _ _ _ _ _ _ _ _); refine' comp_selT (by assumption) (fun k' t' I' oI' C' oC' D' m' ys' h' tk' E' hlo' hhi' hC' hx' F' N' off' ne' => ?_) (fun ys hI' hL' => ?_))
  | ((with_reducible show LCt.CompRestT _ _ _ _ _ _ _ (Expr.Compare _ _ [Expr.Constant (Const.bool false) _ _] _) _ _ _ _ _ _ _ _ _ _ _ _); refine' comp_selF (by assumption) (fun k' t' I' oI' C' oC' D' m' ys' h' tk' E' hlo' hhi' hC' hx' F' N' off' ne' => ?_) (fun ys hI' hL' => ?_))); (all_goals (try (have off9 := off'))); (all_goals (try (simp only [LCg.Off3, and_true] at off'))); (all_goals (try k_fold))))
local macro_rules | `(tactic| walk_at "CompEnd") => `(tactic| ((with_reducible show LCg.CompEnd _ _ _ _ _ _ _ _ _ _ _ (fun y news' => SelEl _ _ _ y news') _ _); k_dflt (refine compEnd_el (by assumption) (by k_asm) (by lcg_sub) (by first | with_reducible assumption | lcg_off) (by lcg_src) ?_); first | with_reducible exact sel_tt (by with_reducible assumption) | with_reducible exact sel_ft (by with_reducible assumption) | with_reducible exact sel_tf (by with_reducible assumption) | with_reducible exact sel_ff (by with_reducible assumption) | with_reducible exact sel_tf' (by with_reducible assumption) | with_reducible exact sel_ff' (by with_reducible assumption)))
local macro_rules | `(tactic| walk_at "CompEnd") => `(tactic| ((with_reducible show LCg.CompEnd _ _ _ _ _ _ _ _ _ _ _ (fun _ news' => SelNo _ _ news') _ _); k_dflt (refine compEnd_no (by assumption) (by k_asm) (by lcg_sub) (by first | with_reducible assumption | lcg_off) (by lcg_src) ?_); first | with_reducible exact sel_tt (by with_reducible assumption) | with_reducible exact sel_ft (by with_reducible assumption) | with_reducible exact sel_tf (by with_reducible assumption) | with_reducible exact sel_ff (by with_reducible assumption) | with_reducible exact sel_tf' (by with_reducible assumption) | with_reducible exact sel_ff' (by with_reducible assumption)))
local macro_rules | `(tactic| walk_at "assign Tuple") => `(tactic| (k_here; (rename IntsAre _ (List.take _ _) => hT9); (obtain ⟨a9, b9, c9, d9, t19, t29, t39, t49, hw9, ha9, hb9, hc9, hd9⟩ := four_of hT9 (by omega) (by simp only [List.length_append, List.length_cons, List.length_nil]; omega)); subst hw9; k_dflt (refine' kun_list ?k1 ?k2 ?k3 ?k4 ?k5 ?k6 ?_; (case k1 => k_asm); (case k2 => k_asm); (case k3 => exact News.isList (by k_asm) (by k_mem)); (case k4 => rfl); (case k5 => rfl); (case k6 => rfl)); intro h' F' N'; (try k_sweep)))
local macro_rules | `(tactic| walk_at "subscriptTail") => `(tactic| (k_here; (with_reducible show wpAny _ _ (subscriptTail _ _ (Value.ref _) (Value.int _ _)) _ _ _); k_dflt (refine' kbo_sub ?k1 ?k2 ?k3 ?k4 ?k5 ?k6 ?_ ?k7; (case k1 => k_asm); (case k2 => k_mem); (case k3 => with_reducible assumption); (case k4 => omega); (case k5 => (try simp only [List.length_map] at *); omega); (case k6 => (try simp only [List.length_map] at *); omega); (case k7 => with_unfolding_all rfl); k_whole)))
local macro_rules | `(tactic| walk_at "mystate") => `(tactic| first
  | exact ⟨rfl, rfl⟩
  | exact ⟨rfl, Nat.le_refl _⟩
  | exact ⟨rfl, rfl, Nat.le_refl _⟩
  | exact p1_turn (by assumption) (by assumption) (by unfold Mine.codeOf; split <;> omega) (by unfold Mine.nearOf; split <;> omega)
  | exact p2_turn (by assumption) (by assumption) (by unfold Mine.octets; (repeat' split) <;> (first | rfl | omega))
  | exact p3_turn (by assumption) (by assumption) (by assumption) (by assumption) (by assumption) (by assumption) (by assumption) (by assumption) (by split <;> omega) (by (repeat' split) <;> (first | rfl | omega)))
local macro_rules | `(tactic| walk_at "call builtin:len") => `(tactic| (k_here; k_dflt (refine' my_len ?N ?m ?i ?b ?c ?_; (case N => k_asm); (case m => k_mem); (case i => assumption); (case b => assumption); (case c => omega))))
local macro_rules | `(tactic| kc_close) => `(tactic| (kc_bool; first | exact my_end (by assumption) (by assumption) (decide_eq_true (main_yes (by assumption) (by assumption) (by assumption))) | exact my_end (by assumption) (by assumption) (decide_eq_true main_len')))
local macro_rules | `(tactic| walk_at "InvEndN") => `(tactic| kst_close)
theorem PySem.Challenge.cw_dn0184_01_holds : PySem.Challenge.rw_dn0184_01.Holds := by
  k_with "pyIter ref" => (first
    | ((k_of "x" => k_state (fun pre codes => codes = Mine.base ++ pre.flatMap Mine.two ∧ codes.length = 11 + 2 * pre.length) "codes"))
    | ((k_of "code" => k_state (fun pre row => row = pre.flatMap Mine.octets ∧ row.length ≤ 4 * pre.length) "row"))
    | ((k_of "place" => k_state_given ["row"] (fun row pre found signs => found = (Mine.scan row pre.length).1 ∧ signs = (Mine.scan row pre.length).2 ∧ found.length ≤ 3 * pre.length) "found" "signs")))
  k_with "state" => walk_at "mystate"
  refine hd ?_
  w_on
  k_go0; (all_goals try k_fold); k_steps

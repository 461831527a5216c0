import PyProof.Rows.All
import Wide.All
import OpenK.AllK
import Wide.FinOn
import PySem.Challenge.RW_rs0078_01
set_option Elab.async false
set_option maxRecDepth 100000
set_option maxHeartbeats 8000000
set_option linter.all false
open PySem PySem.W PyProof.Rows PySem.Calls PySem.Spec
namespace Mine
open_top hd for PySem.Challenge.rw_rs0078_01
end Mine
local macro_rules | `(tactic| k_enter) => `(tactic| (refine' code_def ?k1 ?k2 ?k3 ?k4 ?k5 ?kA ?kF ?kK ?k6 ?k7 ?k8 ?k9 ?kB ?_ ?c2 ?c3 ?c4 ?c5; (case kA => exact rfl); (case kF => exact rfl); (case kK => first | exact rfl | assumption); (case k1 => k_asm); (case k2 => k_asm); (case k3 => k_asm); (case k4 => k_asm); (case k5 => k_asm); (case k6 => k_is); (case k7 => k_is); (case k8 => first | k_room | ktr_room); (case k9 => first | exact BindsTo.of_eq rfl | (refine' kp_binds ?kx ?ke; (case kx => k_in); (case ke => exact fun _ => rfl))); (case c5 => decide); (case kB => exact locs rfl); (case c2 => exact rfl); (case c3 => exact rfl); (case c4 => exact rfl); k_whole; intro g' L' h' FG' F' N' B' X' T'; (try dsimp only); (try k_lift B'); (try k_fold)))
local macro_rules | `(tactic| k_mem) => `(tactic| first | exact List.Mem.head _ | (refine' List.mem_cons_of_mem _ ?_; k_mem))

namespace Mine
section
def jac : Nat → Nat → Nat → Int
  | 0, _, _ => 0
  | k + 1, n, p => if n = 0 then (if p = 1 then 1 else 0) else if n % 2 = 0 then (if p % 8 = 3 ∨ p % 8 = 5 then -1 else 1) * jac k (n / 2) p else (if n % 4 = 3 ∧ p % 4 = 3 then -1 else 1) * jac k (p % n) n

def Jz (n p : Int) : Int := jac 20 n.toNat p.toNat

theorem jac_even : ∀ n < 18, ∀ p < 18, 1 ≤ n → 1 ≤ p → n % 2 = 0 → jac 20 n p = (if p % 8 = 3 ∨ p % 8 = 5 then -1 else 1) * jac 20 (n / 2) p := by decide +kernel
theorem jac_odd : ∀ n < 18, ∀ p < 18, 1 ≤ n → 1 ≤ p → n % 2 = 1 → jac 20 n p = (if n % 4 = 3 ∧ p % 4 = 3 then -1 else 1) * jac 20 (p % n) n := by decide +kernel

theorem fm (a b : Int) (h : 0 ≤ b) : a.fmod b = a % b := Int.fmod_eq_emod_of_nonneg a h
theorem fd (a b : Int) (h : 0 ≤ b) : a.fdiv b = a / b := Int.fdiv_eq_ediv_of_nonneg a h

theorem Jz_zero (p : Int) (h : 1 ≤ p) : Jz 0 p = if p = 1 then 1 else 0 := by
  obtain ⟨q, rfl⟩ := Int.eq_ofNat_of_zero_le (show 0 ≤ p by omega)
  simp only [Jz, Int.toNat_natCast]
  have e : jac 20 (Int.toNat 0) q = if q = 1 then 1 else 0 := by simp [jac]
  rw [e]
  by_cases hq : q = 1
  · simp [hq]
  · rw [if_neg hq, if_neg (by omega)]

theorem Jz_even (n p : Int) (h1 : 1 ≤ n) (h2 : n ≤ 17) (h3 : 1 ≤ p) (h4 : p ≤ 17) (h5 : n % 2 = 0) :
    Jz n p = (if p % 8 = 3 ∨ p % 8 = 5 then -1 else 1) * Jz (n / 2) p := by
  obtain ⟨m, rfl⟩ := Int.eq_ofNat_of_zero_le (show 0 ≤ n by omega)
  obtain ⟨q, rfl⟩ := Int.eq_ofNat_of_zero_le (show 0 ≤ p by omega)
  have e := jac_even m (by omega) q (by omega) (by omega) (by omega) (by omega)
  have e2 : ((m : Int) / 2).toNat = m / 2 := by omega
  simp only [Jz, Int.toNat_natCast, e2]
  rw [e]
  by_cases hq : q % 8 = 3 ∨ q % 8 = 5
  · rw [if_pos hq, if_pos (by omega)]
  · rw [if_neg hq, if_neg (by omega)]

theorem Jz_odd (n p : Int) (h1 : 1 ≤ n) (h2 : n ≤ 17) (h3 : 1 ≤ p) (h4 : p ≤ 17) (h5 : n % 2 = 1) :
    Jz n p = (if n % 4 = 3 ∧ p % 4 = 3 then -1 else 1) * Jz (p % n) n := by
  obtain ⟨m, rfl⟩ := Int.eq_ofNat_of_zero_le (show 0 ≤ n by omega)
  obtain ⟨q, rfl⟩ := Int.eq_ofNat_of_zero_le (show 0 ≤ p by omega)
  have e := jac_odd m (by omega) q (by omega) (by omega) (by omega) (by omega)
  have e2 : ((q : Int) % (m : Int)).toNat = q % m := by rw [← Int.natCast_emod]; exact Int.toNat_natCast _
  simp only [Jz, Int.toNat_natCast, e2]
  rw [e]
  by_cases hq : m % 4 = 3 ∧ q % 4 = 3
  · rw [if_pos hq, if_pos (by omega)]
  · rw [if_neg hq, if_neg (by omega)]

-- the ways of the loops
theorem way_even_flip {s n p R : Int} (h1 : 1 ≤ n) (h2 : n ≤ 17) (h3 : 1 ≤ p) (h4 : p ≤ 17) (h5 : n % 2 = 0) (hc : p % 8 = 3 ∨ p % 8 = 5) (hI : s * Jz n p = R) : -s * Jz (n / 2) p = R := by
  rw [Jz_even n p h1 h2 h3 h4 h5, if_pos hc] at hI
  rw [← hI]; simp [Int.neg_mul, Int.mul_neg]
theorem way_even_stay {s n p R : Int} (h1 : 1 ≤ n) (h2 : n ≤ 17) (h3 : 1 ≤ p) (h4 : p ≤ 17) (h5 : n % 2 = 0) (hc : ¬ (p % 8 = 3 ∨ p % 8 = 5)) (hI : s * Jz n p = R) : s * Jz (n / 2) p = R := by
  rw [Jz_even n p h1 h2 h3 h4 h5, if_neg hc] at hI
  rw [← hI, Int.one_mul]
theorem way_odd_flip {s n p R : Int} (h1 : 1 ≤ n) (h2 : n ≤ 17) (h3 : 1 ≤ p) (h4 : p ≤ 17) (h5 : n % 2 = 1) (hc : n % 4 = 3 ∧ p % 4 = 3) (hI : s * Jz n p = R) : -s * Jz (p % n) n = R := by
  rw [Jz_odd n p h1 h2 h3 h4 h5, if_pos hc] at hI
  rw [← hI]; simp [Int.neg_mul, Int.mul_neg]
theorem way_odd_stay {s n p R : Int} (h1 : 1 ≤ n) (h2 : n ≤ 17) (h3 : 1 ≤ p) (h4 : p ≤ 17) (h5 : n % 2 = 1) (hc : ¬ (n % 4 = 3 ∧ p % 4 = 3)) (hI : s * Jz n p = R) : s * Jz (p % n) n = R := by
  rw [Jz_odd n p h1 h2 h3 h4 h5, if_neg hc] at hI
  rw [← hI, Int.one_mul]
end
end Mine

namespace Mine
section
section
variable {prog : Program} {w : World} {A : Around} {E : Value → Shared → Prop} {Q : Flow → Shared → Prop} {s : Shared} {env : Env} {h₀ : Heap} {L : Addr} {σ : Type}

def WPost (h₀ : Heap) (L : Addr) (s : Shared) (news : List (Addr × Obj)) (G : σ → Str → Option Value) (P : σ → Prop) (μ : σ → Nat) (Q : Flow → Shared → Prop) (c : σ) (f : Flow) (s₂ : Shared) : Prop :=
  match f with
  | .ret v => Q (.ret v) s₂
  | .brk => Q .next s₂
  | _ => ∃ (c' : σ) (h' : Heap) (tk : Nat), s₂ = { s with heap := h', toks := tk } ∧ Fr h₀ L h' (G c') ∧ News h₀ L h' news ∧ P c' ∧ μ c' < μ c

theorem wnext {news news' : List (Addr × Obj)} {G : σ → Str → Option Value} {P : σ → Prop} {μ : σ → Nat} {c : σ} {h' : Heap} {tk : Nat} {m' : Str → Option Value} (c' : σ)
    (F : Fr h₀ L h' m') (N : News h₀ L h' news') (hn : ∀ p ∈ news, p ∈ news') (e : m' = G c') (hp : P c') (hm : μ c' < μ c) :
    WPost h₀ L s news G P μ Q c .next { s with heap := h', toks := tk } := ⟨c', h', tk, rfl, e ▸ F, fun p hq => N p (hn p hq), hp, hm⟩

theorem while_G {test : Expr} {body : List Stmt} {pos : Pos} {news : List (Addr × Obj)} {m₀ : Str → Option Value} (G : σ → Str → Option Value) (P : σ → Prop) (μ : σ → Nat) (c₀ : σ)
    (F : Fr h₀ L s.heap m₀) (N : News h₀ L s.heap news) (e₀ : m₀ = G c₀) (hp : P c₀)
    (turn : ∀ (c : σ) h tk, P c → Fr h₀ L h (G c) → News h₀ L h news →
      wpAny (model prog w) A (isTrue test env (eval test env)) (fun b s₂ =>
        if b = true then wpAny (model prog w) A (execs body env) (WPost h₀ L s news G P μ Q c) E s₂ else Q .next s₂) E { s with heap := h, toks := tk })
    (hE : PassesOwn (model prog w) A env E := by passes_own) :
    wpAny (model prog w) A (exec (.While test body [] pos) env) Q E s := by
  refine While_inv2 (fun n m nx => ∃ c : σ, nx = news ∧ μ c = n ∧ m = G c ∧ P c) F N ⟨c₀, rfl, rfl, e₀, hp⟩ ?_ hE
  rintro n m₁ nx h tk F₁ N₁ ⟨c, rfl, rfl, rfl, hp'⟩
  refine wpAny_mono (turn c h tk hp' F₁ N₁) (fun b s₂ p => ?_) fun _ _ x => x
  cases b with
  | false => simpa using p
  | true =>
    simp only [if_true] at p ⊢
    refine wpAny_mono p (fun f s₃ q => ?_) fun _ _ x => x
    cases f with
    | ret v => exact q
    | brk => exact q
    | next =>
      obtain ⟨c', h', tk', rfl, F', N', hp9, hm9⟩ := q
      exact ⟨h', tk', G c', nx, μ c', rfl, F', N', hm9, c', rfl, rfl, rfl, hp9⟩
    | cont =>
      obtain ⟨c', h', tk', rfl, F', N', hp9, hm9⟩ := q
      exact ⟨h', tk', G c', nx, μ c', rfl, F', N', hm9, c', rfl, rfl, rfl, hp9⟩
end
end
end Mine

namespace Mine
section
def due (a b c p : Int) : Int :=
  if a % p = 0 ∧ b % p = 0 then (if c % p = 0 then p * p else 0)
  else if a % p = 0 ∨ b % p = 0 then p * (1 + Jz ((a + b) * c % p) p)
  else if c % p = 0 then p + (p - 1) * Jz (-a * b % p) p else p - Jz (-a * b % p) p
theorem jac_bd : ∀ n < 18, ∀ p < 18, -1 ≤ jac 20 n p ∧ jac 20 n p ≤ 1 := by decide +kernel
theorem Jz_bd (n p : Int) (hp : 1 ≤ p) (hp' : p ≤ 17) : -1 ≤ Jz (n % p) p ∧ Jz (n % p) p ≤ 1 := by
  have e1 := Int.emod_nonneg n (show p ≠ 0 by omega)
  have e2 := Int.emod_lt_of_pos n (show 0 < p by omega)
  exact jac_bd _ (by omega) _ (by omega)
end
end Mine

namespace Mine
section
/-- a thing of the law in the ledger: an object of _TestClass whose one attribute holds v -/
def ThingAt (news : List (Addr × Obj)) (x : Addr) (v : Int) : Prop :=
  ∃ dx hs tk t n, (x, instObj 45 dx) ∈ news ∧ (dx, dictOf [⟨hs, .str (Str.ofString "val") tk, .int v t⟩] n) ∈ news
theorem ThingAt.sub {l l' : List (Addr × Obj)} {x : Addr} {v : Int} (h : ThingAt l x v) (hs : ∀ q ∈ l, q ∈ l') : ThingAt l' x v := by
  obtain ⟨dx, hs', tk, t, n, h1, h2⟩ := h
  exact ⟨dx, hs', tk, t, n, hs _ h1, hs _ h2⟩
/-- what the key function of the law is asked for -/
def KeyC (w : World) (p₀ : Program) (loose : List Str) (mean : ExcName → Option Value) (mg mb : Str → Option Value) (f : Addr) (need : List (Addr × Obj)) (g : Int → Int) : Prop :=
  (∃ fo fd, (f, fo) ∈ need ∧ fo.data = .func fd) ∧
  ∀ (dp un : Nat) (gd : Option (List Code)) (cn : Str) (cs : Scope) (aa : Addr) (ccd : Value) (cl : List (Str × Addr)) (outer : List Env) (A₀ : Around) (base h₀ : Heap) (L : Addr) (m : Str → Option Value) (news : List (Addr × Obj)) (s : Shared) (Q E : Value → Shared → Prop) (x : Addr) (v : Int),
    Below A₀ base outer h₀ → Fr h₀ L s.heap m → (hd.heap_39 w.params).In h₀ → News h₀ L s.heap news → Top p₀ loose mean mg mb h₀ → cs.kind = .function → dp + 8 < recursionLimit → un + 60 < cLine → (∀ q ∈ need, q ∈ news) → ThingAt news x v →
    (∀ t h' tk', Fr h₀ L h' m → News h₀ L h' news → Q (.int (g v) t) { s with heap := h', toks := tk' }) →
    wpAny (model PySem.Challenge.rw_rs0078_01.row.prog w) (ktrTop dp un gd cn cs L aa ccd cl outer) (call (.ref f) [.ref x]) Q E s
def kAt (g : Int → Int) (ts : List (Addr × Int)) (i : Nat) : Int := g ((ts.map (·.2)).getD i 0)
abbrev rowObj (ts : List (Addr × Int)) (e : Nat) : Obj := W.listOf (ts.map fun t => Value.ref t.1).toArray e
theorem row_isList {h₀ h : Heap} {L r : Addr} {news : List (Addr × Obj)} {its : Array Value} {e : Nat} (N : News h₀ L h news) (hr : (r, W.listOf its e) ∈ news) : h.IsList r its :=
  ⟨_, (N _ hr).1, rfl, e, rfl⟩
theorem kAt_of {g : Int → Int} {ts : List (Addr × Int)} {i : Nat} {t : Addr × Int} (h : ts[i]? = some t) : kAt g ts i = g t.2 := by
  unfold kAt; rw [List.getD_eq_getElem?_getD, List.getElem?_map, h]; rfl
theorem fnAt_of {h₀ h : Heap} {L q : Addr} {fo : Obj} {fd : FuncData} {news : List (Addr × Obj)} (N : News h₀ L h news) (hm : (q, fo) ∈ news) (hd : fo.data = .func fd) : FnAt q h := by
  obtain ⟨oc, od, dt, sl⟩ := fo
  cases hd
  exact FnAt.of N hm
theorem updF_upd {d : Addr} {o : Obj} (o' : Obj) : ∀ {l : List (Addr × Obj)} {g : Obj → List (Addr × Obj)}, UpdF d o l g → Upd d o o' l (g o')
  | _, _, .head h => .head h
  | _, _, .tail h r => .tail h (updF_upd o' r)
theorem ins_eq {ts : List (Addr × Int)} {k : Nat} {x : Addr} {v : Int} (hk : k ≤ ts.length) :
    kl_ins (ts.map fun t => Value.ref t.1).toArray.toList (k : Int) (Value.ref x) = (ts.take k ++ (x, v) :: ts.drop k).map fun t => Value.ref t.1 := by
  unfold kl_ins
  have h1 : ¬ ((k : Int) < 0) := by omega
  simp only [if_neg h1, Int.toNat_natCast, List.length_map, Nat.min_eq_left hk, List.map_append, List.map_cons, List.map_take, List.map_drop]
end
end Mine

namespace Mine
section
theorem six (i : Int) (h0 : 0 ≤ i) (h1 : i < 6) : ([3, 5, 7, 11, 13, 17] : List Int).getD i.toNat 0 ∈ ([3, 5, 7, 11, 13, 17] : List Int) := by
  obtain ⟨n, rfl⟩ := Int.eq_ofNat_of_zero_le h0
  have : n < 6 := by omega
  rw [Int.toNat_natCast, List.getD_eq_getElem?_getD, List.getElem?_eq_getElem (by simpa using this)]
  exact List.getElem_mem _
theorem abc {ws : List Value} {l : List Int} (h : IntsAre ws (List.map (fun k' : Int => k'.fmod 255255) (List.take 3 l) ++ List.drop ((List.map (fun k' : Int => k'.fmod 255255) (List.take 3 l)).length : Int).toNat [2, 5, 1])) :
    ∃ a b c ta tb tc, ws = [.int a ta, .int b tb, .int c tc] ∧ (0 ≤ a ∧ a < 255255) ∧ (0 ≤ b ∧ b < 255255) ∧ (0 ≤ c ∧ c < 255255) := by
  have hb : ∀ x : Int, 0 ≤ x.fmod 255255 ∧ x.fmod 255255 < 255255 := fun x => by rw [fm _ _ (by decide)]; omega
  rcases l with _ | ⟨x, _ | ⟨y, _ | ⟨z, r⟩⟩⟩
  · have e : IntsAre ws [2, 5, 1] := h
    rcases e with _ | ⟨_, ta, e⟩; rcases e with _ | ⟨_, tb, e⟩; rcases e with _ | ⟨_, tc, e⟩; cases e
    exact ⟨_, _, _, _, _, _, rfl, by decide, by decide, by decide⟩
  · have e : IntsAre ws [x.fmod 255255, 5, 1] := h
    rcases e with _ | ⟨_, ta, e⟩; rcases e with _ | ⟨_, tb, e⟩; rcases e with _ | ⟨_, tc, e⟩; cases e
    exact ⟨_, _, _, _, _, _, rfl, hb _, by decide, by decide⟩
  · have e : IntsAre ws [x.fmod 255255, y.fmod 255255, 1] := h
    rcases e with _ | ⟨_, ta, e⟩; rcases e with _ | ⟨_, tb, e⟩; rcases e with _ | ⟨_, tc, e⟩; cases e
    exact ⟨_, _, _, _, _, _, rfl, hb _, hb _, by decide⟩
  · have e : IntsAre ws [x.fmod 255255, y.fmod 255255, z.fmod 255255] := h
    rcases e with _ | ⟨_, ta, e⟩; rcases e with _ | ⟨_, tb, e⟩; rcases e with _ | ⟨_, tc, e⟩; cases e
    exact ⟨_, _, _, _, _, _, rfl, hb _, hb _, hb _⟩
end
end Mine

namespace Mine
section
theorem count_eq (ks : List Int) (x : Int) (k1 k2 : Nat) (h12 : k1 ≤ k2) (h2 : k2 ≤ ks.length) (hb : ∀ i, i < k1 → ks.getD i 0 ≠ x) (hm : ∀ i, k1 ≤ i → i < k2 → ks.getD i 0 = x)
    (ha : ∀ i, k2 ≤ i → i < ks.length → ks.getD i 0 ≠ x) : ((ks.count x : Nat) : Int) = (k2 : Int) - (k1 : Int) := by
  have e : ks = ks.take k1 ++ ((ks.drop k1).take (k2 - k1) ++ ks.drop k2) := by
    have e1 : (ks.drop k1).take (k2 - k1) ++ ks.drop k2 = ks.drop k1 := by
      have : ks.drop k2 = (ks.drop k1).drop (k2 - k1) := by rw [List.drop_drop]; congr 1; omega
      rw [this, List.take_append_drop]
    rw [e1, List.take_append_drop]
  have get : ∀ i, i < ks.length → ks.getD i 0 = ks[i]?.getD 0 := fun i _ => by rw [List.getD_eq_getElem?_getD]
  have c1 : (ks.take k1).count x = 0 := by
    refine List.count_eq_zero.mpr fun hmem => ?_
    obtain ⟨i, hi, he⟩ := List.getElem_of_mem hmem
    simp only [List.length_take] at hi
    have := hb i (by omega)
    rw [List.getD_eq_getElem?_getD, List.getElem?_eq_getElem (by omega)] at this
    simp only [List.getElem_take] at he
    exact this (by simpa using he)
  have c3 : (ks.drop k2).count x = 0 := by
    refine List.count_eq_zero.mpr fun hmem => ?_
    obtain ⟨i, hi, he⟩ := List.getElem_of_mem hmem
    simp only [List.length_drop] at hi
    have := ha (k2 + i) (by omega) (by omega)
    rw [List.getD_eq_getElem?_getD, List.getElem?_eq_getElem (by omega)] at this
    simp only [List.getElem_drop] at he
    exact this (by simpa using he)
  have c2 : ((ks.drop k1).take (k2 - k1)).count x = k2 - k1 := by
    have hl : ((ks.drop k1).take (k2 - k1)).length = k2 - k1 := by simp; omega
    rw [← hl]
    rw [hl]
    conv => rhs; rw [← hl]
    refine List.count_eq_length.mpr fun y hy => ?_
    obtain ⟨i, hi, he⟩ := List.getElem_of_mem hy
    rw [hl] at hi
    have := hm (k1 + i) (by omega) (by omega)
    rw [List.getD_eq_getElem?_getD, List.getElem?_eq_getElem (by omega)] at this
    simp only [List.getElem_take, List.getElem_drop] at he
    rw [← he]; exact (by simpa using this.symm)
  rw [e, List.count_append, List.count_append, c1, c2, c3]
  omega
theorem kAt_eq (g : Int → Int) (ts : List (Addr × Int)) (i : Nat) (h : i < ts.length) : kAt g ts i = (ts.map fun q => g q.2).getD i 0 := by
  unfold kAt
  simp [List.getD_eq_getElem?_getD, h]
theorem mem_six {P : Int} (h : P ∈ ([3, 5, 7, 11, 13, 17] : List Int)) : 3 ≤ P ∧ P ≤ 17 ∧ P % 2 = 1 := by
  simp only [List.mem_cons, List.not_mem_nil, or_false] at h
  omega
theorem sum_take_succ (f : Addr × Int → Int) (ts : List (Addr × Int)) (i : Nat) (t : Addr × Int) (h : ts[i]? = some t) : ((ts.take (i + 1)).map f).sum = ((ts.take i).map f).sum + f t := by
  rw [List.take_add_one, h]; simp
end
end Mine

namespace Mine
section
theorem kAt_ins (g : Int → Int) (rs : List (Addr × Int)) (k : Nat) (x : Addr) (v : Int) (hk : k ≤ rs.length) (i : Nat) (hi : i < rs.length + 1) :
    kAt g (rs.take k ++ (x, v) :: rs.drop k) i = if i < k then kAt g rs i else if i = k then g v else kAt g rs (i - 1) := by
  unfold kAt
  simp only [List.getD_eq_getElem?_getD, List.getElem?_map]
  have hl : (rs.take k).length = k := by simp [hk]
  by_cases h1 : i < k
  · rw [if_pos h1, List.getElem?_append_left (by omega), List.getElem?_take_of_lt h1]
  · rw [if_neg h1, List.getElem?_append_right (by omega), hl]
    by_cases h2 : i = k
    · rw [if_pos h2, h2, Nat.sub_self]; simp
    · rw [if_neg h2]
      obtain ⟨j, hj⟩ : ∃ j, i - k = j + 1 := ⟨i - k - 1, by omega⟩
      rw [hj, List.getElem?_cons_succ, List.getElem?_drop]
      have : k + j = i - 1 := by omega
      rw [this]
theorem sorted_ins (g : Int → Int) (rs : List (Addr × Int)) (k : Nat) (x : Addr) (v : Int) (hk : k ≤ rs.length) (hs : ∀ i j, i ≤ j → j < rs.length → kAt g rs i ≤ kAt g rs j)
    (h1 : ∀ i, i < k → kAt g rs i ≤ g v) (h2 : ∀ i, k ≤ i → i < rs.length → g v < kAt g rs i) :
    ∀ i j, i ≤ j → j < (rs.take k ++ (x, v) :: rs.drop k).length → kAt g (rs.take k ++ (x, v) :: rs.drop k) i ≤ kAt g (rs.take k ++ (x, v) :: rs.drop k) j := by
  intro i j hij hj
  have hL : (rs.take k ++ (x, v) :: rs.drop k).length = rs.length + 1 := by simp; omega
  rw [hL] at hj
  rw [kAt_ins g rs k x v hk i (by omega), kAt_ins g rs k x v hk j hj]
  by_cases a1 : i < k
  · rw [if_pos a1]
    by_cases b1 : j < k
    · rw [if_pos b1]; exact hs i j hij (by omega)
    · rw [if_neg b1]
      by_cases b2 : j = k
      · rw [if_pos b2]; exact h1 i a1
      · rw [if_neg b2]; exact hs i (j - 1) (by omega) (by omega)
  · rw [if_neg a1, if_neg (show ¬ j < k by omega)]
    by_cases a2 : i = k
    · rw [if_pos a2]
      by_cases b2 : j = k
      · rw [if_pos b2]; exact Int.le_refl _
      · rw [if_neg b2]; exact Int.le_of_lt (h2 (j - 1) (by omega) (by omega))
    · rw [if_neg a2, if_neg (show ¬ j = k by omega)]; exact hs (i - 1) (j - 1) (by omega) (by omega)
theorem perm_ins {rs ts : List (Addr × Int)} {i k : Nat} {t : Addr × Int} (hp : rs.Perm (ts.take i)) (ht : ts[i]? = some t) : (rs.take k ++ t :: rs.drop k).Perm (ts.take (i + 1)) := by
  rw [List.take_add_one, ht]
  refine (List.perm_middle).trans ?_
  rw [List.take_append_drop]
  exact ((List.Perm.cons t hp).trans (List.perm_append_singleton t _).symm)
theorem count_perm (f : Addr × Int → Int) {rs ts : List (Addr × Int)} (hp : rs.Perm ts) (x : Int) : (rs.map f).count x = (ts.map f).count x := (hp.map f).count_eq x
end
end Mine

namespace Mine
section
theorem val_bd {P wd i : Int} (hP : P ∈ ([3, 5, 7, 11, 13, 17] : List Int)) (h1 : -500000000 ≤ wd) (h2 : wd ≤ 500000000) (h3 : 0 ≤ i) (h4 : i < P) : -10000000000 ≤ i + P * wd ∧ i + P * wd ≤ 10000000000 := by
  simp only [List.mem_cons, List.not_mem_nil, or_false] at hP
  rcases hP with rfl | rfl | rfl | rfl | rfl | rfl <;> omega
theorem val_sq {P wd i : Int} : ((i + P * wd) * (i + P * wd)) % P = (i * i) % P := by
  have e : (i + P * wd) * (i + P * wd) = i * i + P * (i * wd + wd * i + wd * (P * wd)) := by
    simp only [Int.mul_add, Int.mul_left_comm, Int.mul_comm, Int.add_assoc]
  rw [e, Int.add_mul_emod_self_left]
theorem sq_eq (V : Int) : (V - 1) * (V + 1) + 1 = V * V := by
  rw [Int.mul_add, Int.sub_mul, Int.sub_mul]; omega
theorem pow_two_toNat (V : Int) : V ^ (2 : Int).toNat = V * V := by
  show V ^ 2 = V * V
  rw [Int.pow_succ, Int.pow_succ, Int.pow_zero, Int.one_mul]
end
end Mine

namespace Mine
section
theorem small_six {P : Int} (h : P ∈ ([3, 5, 7, 11, 13, 17] : List Int)) : Builtin.Range.small 0 P 1 = true := by
  simp only [List.mem_cons, List.not_mem_nil, or_false] at h
  rcases h with rfl | rfl | rfl | rfl | rfl | rfl <;> decide
theorem size_six {P : Int} (h : P ∈ ([3, 5, 7, 11, 13, 17] : List Int)) : Builtin.Range.rangeSize 0 P 1 = (P.toNat : Int) := by
  simp only [List.mem_cons, List.not_mem_nil, or_false] at h
  rcases h with rfl | rfl | rfl | rfl | rfl | rfl <;> decide
def dueN (p a b c : Nat) : Int :=
  if a = 0 ∧ b = 0 then (if c = 0 then (p : Int) * p else 0)
  else if a = 0 ∨ b = 0 then (p : Int) * (1 + jac 20 ((a + b) * c % p) p)
  else if c = 0 then (p : Int) + ((p : Int) - 1) * jac 20 ((p - 1) * (a * b) % p) p else (p : Int) - jac 20 ((p - 1) * (a * b) % p) p
end
end Mine

namespace Mine
section
def cntL : List Nat → Nat → Nat
  | [], _ => 0
  | x :: r, t => cond (Nat.beq x t) (Nat.succ (cntL r t)) (cntL r t)
def tabA (p a : Nat) : List Nat := (List.range p).map fun t => cntL ((List.range p).map fun k => a * (k * k) % p) t
def getN : List Nat → Nat → Nat
  | [], _ => 0
  | x :: _, 0 => x
  | _ :: r, n + 1 => getN r n
def cntF (p : Nat) (T : List Nat) (b c : Nat) : Nat := (List.range p).foldr (fun j acc => getN T ((c + (p - 1) * (b * (j * j))) % p) + acc) 0
theorem cntL_count (l : List Nat) (t : Nat) : cntL l t = l.count t := by
  induction l with
  | nil => rfl
  | cons x r ih =>
    rw [List.count_cons]
    show cond (Nat.beq x t) (Nat.succ (cntL r t)) (cntL r t) = _
    rw [ih]
    cases h : Nat.beq x t with
    | true => have e := Nat.eq_of_beq_eq_true h; subst e; simp
    | false =>
      have hne : x ≠ t := Nat.ne_of_beq_eq_false h
      simp [hne]
theorem getN_getD (l : List Nat) (n : Nat) : getN l n = l.getD n 0 := by
  induction l generalizing n with
  | nil => cases n <;> rfl
  | cons x r ih => cases n with
    | zero => rfl
    | succ n => simpa [getN] using ih n
theorem tab_get (p a t : Nat) (h : t < p) : getN (tabA p a) t = ((List.range p).map fun k => a * (k * k) % p).count t := by
  rw [getN_getD, tabA, List.getD_eq_getElem?_getD, List.getElem?_map, List.getElem?_range h]
  exact cntL_count _ _
theorem sum_cast (f : Nat → Nat) (l : List Nat) : (l.map fun j => ((f j : Nat) : Int)).sum = ((l.foldr (fun j acc => f j + acc) 0 : Nat) : Int) := by
  induction l with
  | nil => rfl
  | cons x r ih => simp only [List.map_cons, List.sum_cons, List.foldr_cons, ih, Int.natCast_add]
theorem count_cast (l : List Nat) (t : Nat) : (l.map fun k => ((k : Nat) : Int)).count (t : Int) = l.count t := by
  induction l with
  | nil => rfl
  | cons x r ih =>
    rw [List.map_cons, List.count_cons, List.count_cons, ih]
    by_cases h : x = t
    · simp [h]
    · have h' : ¬ ((x : Int) = (t : Int)) := by omega
      simp [h, h']
end
end Mine

namespace Mine
section
theorem mulP (p a : Nat) (v : Int) (j : Nat) (h : v % (p : Int) = ((j : Int) * (j : Int)) % (p : Int)) : ((a : Int) * v) % (p : Int) = ((a % p * (j * j) % p : Nat) : Int) := by
  rw [Int.natCast_emod, Int.natCast_mul, Int.natCast_emod, Int.natCast_mul, Int.mul_emod, h]
  conv => rhs; rw [Int.mul_emod]
  rw [Int.emod_emod]
theorem subP (p b c : Nat) (hp : 0 < p) (v : Int) (j : Nat) (h : v % (p : Int) = ((j : Int) * (j : Int)) % (p : Int)) :
    ((c : Int) - (b : Int) * v) % (p : Int) = (((c % p + (p - 1) * (b % p * (j * j))) % p : Nat) : Int) := by
  have e1 := mulP p b v j h
  have e2 : (((p - 1 : Nat)) : Int) = (p : Int) - 1 := by omega
  have e3 : (((c % p + (p - 1) * (b % p * (j * j))) : Nat) : Int) = (((c : Int) % p) - (((b % p * (j * j) : Nat)) : Int)) + (p : Int) * (((b % p * (j * j) : Nat)) : Int) := by
    rw [Int.natCast_add, Int.natCast_mul, e2, Int.sub_mul, Int.natCast_emod]; omega
  rw [Int.natCast_emod, e3, Int.add_mul_emod_self_left, Int.sub_emod, e1]
  conv => rhs; rw [Int.sub_emod]
  rw [Int.emod_emod, Int.natCast_emod]
theorem negP (p a b : Nat) (hp : 0 < p) : (-(a : Int) * (b : Int)) % (p : Int) = (((p - 1) * (a % p * (b % p)) % p : Nat) : Int) := by
  have e2 : (((p - 1 : Nat)) : Int) = (p : Int) - 1 := by omega
  have e3 : (((p - 1) * (a % p * (b % p)) : Nat) : Int) = -(((a % p * (b % p) : Nat)) : Int) + (p : Int) * (((a % p * (b % p) : Nat)) : Int) := by
    rw [Int.natCast_mul, e2, Int.sub_mul]; omega
  rw [Int.natCast_emod, e3, Int.add_mul_emod_self_left, Int.neg_mul]
  have e4 : ((a : Int) * (b : Int)) % (p : Int) = (((a % p * (b % p) : Nat)) : Int) % (p : Int) := by
    rw [Int.natCast_mul, Int.natCast_emod, Int.natCast_emod, ← Int.mul_emod]
  exact Int.emod_eq_emod_iff_emod_sub_eq_zero.mpr (by
    have e5 : -((a : Int) * (b : Int)) - -(((a % p * (b % p) : Nat)) : Int) = (((a % p * (b % p) : Nat)) : Int) - (a : Int) * (b : Int) := by omega
    rw [e5]
    exact Int.emod_eq_emod_iff_emod_sub_eq_zero.mp e4.symm)
theorem dueP (p a b c : Nat) (hp : 0 < p) : due a b c p = dueN p (a % p) (b % p) (c % p) := by
  have z : ∀ n : Nat, ((n : Int) % (p : Int) = 0) = (n % p = 0) := fun n => by
    rw [← Int.natCast_emod]; exact propext ⟨fun h => by omega, fun h => by omega⟩
  have j1 : Jz (((a : Int) + (b : Int)) * (c : Int) % (p : Int)) (p : Int) = jac 20 ((a % p + b % p) * (c % p) % p) p := by
    have : ((a : Int) + (b : Int)) * (c : Int) % (p : Int) = (((a % p + b % p) * (c % p) % p : Nat) : Int) := by
      rw [← Int.natCast_add, ← Int.natCast_mul, ← Int.natCast_emod, Nat.mul_mod, Nat.add_mod]
      conv => rhs; rw [Nat.mul_mod]
      simp
    rw [this]; rfl
  have j2 : Jz (-(a : Int) * (b : Int) % (p : Int)) (p : Int) = jac 20 ((p - 1) * (a % p * (b % p)) % p) p := by
    rw [negP p a b hp]; rfl
  unfold due dueN
  simp only [z, j1, j2]
theorem count_p {p : Nat} (hp : 0 < p) (ok : ∀ a, a < p → ∀ b, b < p → ∀ c, c < p → (cntF p (tabA p a) b c : Int) = dueN p a b c) {a b c : Nat} {ts : List (Addr × Int)} (hlen : ts.length = p)
    (hsq : ∀ j, j < p → ((ts.map (·.2)).getD j 0) % (p : Int) = ((j : Int) * (j : Int)) % (p : Int)) :
    (ts.map fun t => (((ts.map fun q => ((a : Int) * q.2).fmod (p : Int)).count (((c : Int) - (b : Int) * t.2) % (p : Int)) : Nat) : Int)).sum = due a b c p := by
  have hv : ∀ j (h : j < ts.length), (ts[j].2) % (p : Int) = ((j : Int) * (j : Int)) % (p : Int) := fun j h => by
    have := hsq j (by omega)
    simpa [List.getD_eq_getElem?_getD, h] using this
  have keys : (ts.map fun q => ((a : Int) * q.2).fmod (p : Int)) = ((List.range p).map fun k => a % p * (k * k) % p).map fun k => ((k : Nat) : Int) := by
    apply List.ext_getElem
    · simp [hlen]
    · intro j h1 h2
      have h3 : j < ts.length := by simpa using h1
      simp only [List.getElem_map, List.getElem_range]
      rw [fm _ _ (by omega)]
      exact mulP p a _ j (hv j h3)
  have all : (ts.map fun t => (((ts.map fun q => ((a : Int) * q.2).fmod (p : Int)).count (((c : Int) - (b : Int) * t.2) % (p : Int)) : Nat) : Int)) =
      (List.range p).map fun j => ((getN (tabA p (a % p)) ((c % p + (p - 1) * (b % p * (j * j))) % p) : Nat) : Int) := by
    rw [keys]
    apply List.ext_getElem
    · simp [hlen]
    · intro j h1 h2
      have h3 : j < ts.length := by simpa using h1
      simp only [List.getElem_map, List.getElem_range]
      rw [subP p b c hp _ j (hv j h3), count_cast, tab_get _ _ _ (Nat.mod_lt _ hp)]
  rw [all, sum_cast, dueP p a b c hp, ← ok (a % p) (Nat.mod_lt _ hp) (b % p) (Nat.mod_lt _ hp) (c % p) (Nat.mod_lt _ hp)]
  rfl
end
end Mine

namespace Mine
section
/-- a list of small numbers as one number, and the count's sum read off it: quick for the kernel -/
def enc : List Nat → Nat
  | [] => 0
  | x :: r => x + 64 * enc r
def sumE (T p b c n : Nat) : Nat :=
  @Nat.rec (fun _ => Nat) 0 (fun j ih => Nat.add (Nat.mod (Nat.div T (Nat.pow 64 (Nat.mod (Nat.add c (Nat.mul (Nat.sub p 1) (Nat.mul b (Nat.mul j j)))) p))) 64) ih) n
theorem enc_get : ∀ (l : List Nat), (∀ x ∈ l, x < 64) → ∀ n, enc l / 64 ^ n % 64 = getN l n
  | [], _, n => by cases n <;> simp [enc, getN]
  | x :: r, h, 0 => by
    have := h x (List.Mem.head _)
    show (x + 64 * enc r) / 64 ^ 0 % 64 = x
    rw [Nat.pow_zero, Nat.div_one]; omega
  | x :: r, h, n + 1 => by
    have hx := h x (List.Mem.head _)
    have e1 : (x + 64 * enc r) / 64 = enc r := by omega
    show (x + 64 * enc r) / 64 ^ (n + 1) % 64 = getN r n
    rw [show 64 ^ (n + 1) = 64 * 64 ^ n from by rw [Nat.pow_succ, Nat.mul_comm], ← Nat.div_div_eq_div_mul, e1]
    exact enc_get r (fun y hy => h y (List.Mem.tail _ hy)) n
theorem foldr_add (f : Nat → Nat) (l : List Nat) (x : Nat) : l.foldr (fun j acc => f j + acc) x = l.foldr (fun j acc => f j + acc) 0 + x := by
  induction l with
  | nil => simp
  | cons y r ih => simp only [List.foldr_cons]; rw [ih, Nat.add_assoc]
theorem sumE_foldr (T p b c : Nat) (l : List Nat) (h : ∀ n, T / 64 ^ n % 64 = getN l n) (n : Nat) :
    sumE T p b c n = (List.range n).foldr (fun j acc => getN l ((c + (p - 1) * (b * (j * j))) % p) + acc) 0 := by
  induction n with
  | zero => rfl
  | succ n ih =>
    have e : sumE T p b c (n + 1) = T / 64 ^ ((c + (p - 1) * (b * (n * n))) % p) % 64 + sumE T p b c n := rfl
    rw [e, ih, h, List.range_succ, List.foldr_append]
    simp only [List.foldr_cons, List.foldr_nil, Nat.add_zero]
    rw [Nat.add_comm]
    exact (foldr_add (fun j => getN l ((c + (p - 1) * (b * (j * j))) % p)) _ _).symm
theorem cntF_sumE (p a b c : Nat) (hp : p < 64) : cntF p (tabA p a) b c = sumE (enc (tabA p a)) p b c p := by
  rw [sumE_foldr _ p b c (tabA p a) (enc_get _ ?_) p]
  · rfl
  · intro x hx
    obtain ⟨t, _, rfl⟩ := List.mem_map.mp hx
    rw [cntL_count]
    have := List.count_le_length (a := t) (l := (List.range p).map fun k => a * (k * k) % p)
    rw [List.length_map, List.length_range] at this
    omega
end
end Mine

namespace Mine
section
theorem ok3 : ∀ a < 3, ∀ b < 3, ∀ c < 3, (sumE (enc (tabA 3 a)) 3 b c 3 : Int) = dueN 3 a b c := by decide +kernel
theorem ok5 : ∀ a < 5, ∀ b < 5, ∀ c < 5, (sumE (enc (tabA 5 a)) 5 b c 5 : Int) = dueN 5 a b c := by decide +kernel
theorem ok7 : ∀ a < 7, ∀ b < 7, ∀ c < 7, (sumE (enc (tabA 7 a)) 7 b c 7 : Int) = dueN 7 a b c := by decide +kernel
theorem ok11 : ∀ a < 11, ∀ b < 11, ∀ c < 11, (sumE (enc (tabA 11 a)) 11 b c 11 : Int) = dueN 11 a b c := by decide +kernel
theorem ok13a : ∀ a < 7, ∀ b < 13, ∀ c < 13, (sumE (enc (tabA 13 a)) 13 b c 13 : Int) = dueN 13 a b c := by decide +kernel
theorem ok13b : ∀ a < 6, ∀ b < 13, ∀ c < 13, (sumE (enc (tabA 13 (a + 7))) 13 b c 13 : Int) = dueN 13 (a + 7) b c := by decide +kernel
theorem ok17a : ∀ a < 5, ∀ b < 17, ∀ c < 17, (sumE (enc (tabA 17 a)) 17 b c 17 : Int) = dueN 17 a b c := by decide +kernel
theorem ok17b : ∀ a < 4, ∀ b < 17, ∀ c < 17, (sumE (enc (tabA 17 (a + 5))) 17 b c 17 : Int) = dueN 17 (a + 5) b c := by decide +kernel
theorem ok17c : ∀ a < 4, ∀ b < 17, ∀ c < 17, (sumE (enc (tabA 17 (a + 9))) 17 b c 17 : Int) = dueN 17 (a + 9) b c := by decide +kernel
theorem ok17d : ∀ a < 4, ∀ b < 17, ∀ c < 17, (sumE (enc (tabA 17 (a + 13))) 17 b c 17 : Int) = dueN 17 (a + 13) b c := by decide +kernel
theorem ok13 : ∀ a, a < 13 → ∀ b, b < 13 → ∀ c, c < 13 → (sumE (enc (tabA 13 a)) 13 b c 13 : Int) = dueN 13 a b c := by
  intro a ha b hb c hc
  by_cases h : a < 7
  · exact ok13a a h b hb c hc
  · have := ok13b (a - 7) (by omega) b hb c hc
    rwa [Nat.sub_add_cancel (by omega)] at this
theorem ok17 : ∀ a, a < 17 → ∀ b, b < 17 → ∀ c, c < 17 → (sumE (enc (tabA 17 a)) 17 b c 17 : Int) = dueN 17 a b c := by
  intro a ha b hb c hc
  by_cases h : a < 5
  · exact ok17a a h b hb c hc
  by_cases h1 : a < 9
  · have := ok17b (a - 5) (by omega) b hb c hc
    rwa [Nat.sub_add_cancel (by omega)] at this
  by_cases h2 : a < 13
  · have := ok17c (a - 9) (by omega) b hb c hc
    rwa [Nat.sub_add_cancel (by omega)] at this
  · have := ok17d (a - 13) (by omega) b hb c hc
    rwa [Nat.sub_add_cancel (by omega)] at this
theorem count_law {P a b c : Int} {ts : List (Addr × Int)} (hP : P ∈ ([3, 5, 7, 11, 13, 17] : List Int)) (ha : 0 ≤ a ∧ a < 255255) (hb : 0 ≤ b ∧ b < 255255) (hc : 0 ≤ c ∧ c < 255255) (hlen : ts.length = P.toNat)
    (hsq : ∀ j, j < P.toNat → ((ts.map (·.2)).getD j 0) % P = ((j : Int) * (j : Int)) % P) :
    (ts.map fun t => (((ts.map fun q => (a * q.2).fmod P).count ((c - b * t.2) % P) : Nat) : Int)).sum = due a b c P := by
  obtain ⟨a', rfl⟩ := Int.eq_ofNat_of_zero_le ha.1
  obtain ⟨b', rfl⟩ := Int.eq_ofNat_of_zero_le hb.1
  obtain ⟨c', rfl⟩ := Int.eq_ofNat_of_zero_le hc.1
  simp only [List.mem_cons, List.not_mem_nil, or_false] at hP
  rcases hP with rfl | rfl | rfl | rfl | rfl | rfl
  · exact count_p (p := 3) (by decide) (fun a ha b hb c hc => by rw [cntF_sumE _ _ _ _ (by decide)]; exact ok3 a ha b hb c hc) hlen hsq
  · exact count_p (p := 5) (by decide) (fun a ha b hb c hc => by rw [cntF_sumE _ _ _ _ (by decide)]; exact ok5 a ha b hb c hc) hlen hsq
  · exact count_p (p := 7) (by decide) (fun a ha b hb c hc => by rw [cntF_sumE _ _ _ _ (by decide)]; exact ok7 a ha b hb c hc) hlen hsq
  · exact count_p (p := 11) (by decide) (fun a ha b hb c hc => by rw [cntF_sumE _ _ _ _ (by decide)]; exact ok11 a ha b hb c hc) hlen hsq
  · exact count_p (p := 13) (by decide) (fun a ha b hb c hc => by rw [cntF_sumE _ _ _ _ (by decide)]; exact ok13 a ha b hb c hc) hlen hsq
  · exact count_p (p := 17) (by decide) (fun a ha b hb c hc => by rw [cntF_sumE _ _ _ _ (by decide)]; exact ok17 a ha b hb c hc) hlen hsq
end
end Mine

namespace Mine
section
section
variable {prog : Program} {w : World} {A : Around} {E : Value → Shared → Prop} {s : Shared} {env : Env} {h₀ : Heap} {x : Str} {body : List Stmt} {Q : Flow → Shared → Prop}

def JPost (h₀ : Heap) (L : Addr) (wr : List Addr) (J : (Str → Option Value) → List (Addr × Obj) → Prop) (own : List (Addr × Obj)) (s₁ : Shared) (Q : Flow → Shared → Prop) (f : Flow) (s₂ : Shared) : Prop :=
  match f with
  | .ret v => Q (.ret v) s₂
  | .brk => Q .next s₂
  | _ => ∃ h' tk m' nx news', s₂ = { s₁ with heap := h', toks := tk } ∧ Fr h₀ L h' m' ∧ News h₀ L h' news' ∧ (∀ p ∈ nx, p ∈ news') ∧ (∀ p ∈ own, p ∈ news') ∧ (∀ p ∈ nx, p.1 ∉ wr) ∧ J m' nx

theorem jnext {L : Addr} {wr : List Addr} {J : (Str → Option Value) → List (Addr × Obj) → Prop} {own news' : List (Addr × Obj)} {s₁ : Shared} {h' : Heap} {tk : Nat} {m' : Str → Option Value} (nx : List (Addr × Obj))
    (F : Fr h₀ L h' m') (N : News h₀ L h' news') (h1 : ∀ p ∈ nx, p ∈ news') (h2 : ∀ p ∈ own, p ∈ news') (h3 : ∀ p ∈ nx, p.1 ∉ wr) (hJ : J m' nx) :
    JPost h₀ L wr J own s₁ Q .next { s₁ with heap := h', toks := tk } := ⟨h', tk, m', nx, news', rfl, F, N, h1, h2, h3, hJ⟩

theorem loop_J {I : Addr} {fp wr : List Addr} {n : Nat} {Pv : Nat → Value → Prop} {St : Nat → Heap → Prop} {m₀ : Str → Option Value} {news : List (Addr × Obj)} (J : Nat → (Str → Option Value) → List (Addr × Obj) → Prop)
    (W : Walks prog w A I fp wr n Pv St) (hLf : env.locals ∉ fp) (hwr : ∀ b ∈ wr, h₀.get? b = none) (hlive : ∀ i h, St i h → ∀ b ∈ wr, ∃ o, h.get? b = some o) (hst : St 0 s.heap)
    (F : Fr h₀ env.locals s.heap m₀) (N : News h₀ env.locals s.heap news) (hnw : ∀ p ∈ news, p.1 ∉ wr) (h0 : J 0 m₀ news)
    (turn : ∀ i v m₁ nx h tk own, i < n → Pv i v → J i m₁ nx → (∀ p ∈ nx, p.1 ∉ wr) → (∀ p ∈ own, p.1 ∈ fp) → (∀ b ∈ wr, ∃ o, (b, o) ∈ own) → Fr h₀ env.locals h (fun y => if y = x then some v else m₁ y) → News h₀ env.locals h (nx ++ own) →
      wpAny (model prog w) A (execs body env) (JPost h₀ env.locals wr (J (i + 1)) own { s with heap := h, toks := tk } Q) E { s with heap := h, toks := tk })
    (done : ∀ m₁ nx h tk, J n m₁ nx → Fr h₀ env.locals h m₁ → News h₀ env.locals h nx → Q .next { s with heap := h, toks := tk }) :
    LoopAtV prog w A h₀ env x body Q E (.ref I) s := by
  refine ⟨I, fp, wr, n, Pv, St, m₀, news, J, rfl, W, hLf, hwr, hnw, hst, F, N, h0, ?_, ?_⟩
  · rintro i v m₁ news₁ s₁ own ⟨hh, tk, rfl⟩ hi hP hJ hoff hfp hget hall hst' F₁ N₁
    have N₂ : News h₀ env.locals hh (news₁ ++ own) := fun p hp => N₁ p ((List.mem_append.mp hp).elim (fun h => List.mem_append.mpr (.inr h)) fun h => List.mem_append.mpr (.inl h))
    have hl : ∀ b ∈ wr, ∃ o, (b, o) ∈ own := fun b hb => by
      obtain ⟨o, ho⟩ := hlive _ _ hst' b hb
      exact ⟨o, hall b (W.sub b hb) (hwr b hb) o ho⟩
    refine wpAny_mono (turn i v m₁ news₁ hh tk own hi hP hJ hoff hfp hl F₁ N₂) (fun f s₂ p => ?_) fun _ _ e => e
    have fin : (∃ h' tk' m' nx news', s₂ = { ({ s with heap := hh, toks := tk } : Shared) with heap := h', toks := tk' } ∧ Fr h₀ env.locals h' m' ∧ News h₀ env.locals h' news' ∧ (∀ p ∈ nx, p ∈ news') ∧ (∀ p ∈ own, p ∈ news') ∧ (∀ p ∈ nx, p.1 ∉ wr) ∧ J (i + 1) m' nx) →
        LoopStepU h₀ env.locals wr own (J (i + 1)) { s with heap := hh, toks := tk } .next s₂ := by
      rintro ⟨h', tk', m', nx, news', e, F', N', h1, h2, h3, hJ'⟩
      exact ⟨rfl, h', tk', m', nx, e, F', fun p hp => N' p ((List.mem_append.mp hp).elim (h2 p) (h1 p)), h3, hJ'⟩
    cases f with
    | ret v => exact .ret p
    | brk => exact .brk p
    | next => exact .next (fin p)
    | cont => exact .cont (fin p)
  · rintro h' tk m' news' F' N' _ hJ
    exact done m' news' h' tk hJ F' N'

theorem iter_rangeJ {r : Addr} {b₀ : Int} {t₀ u₀ v₀ : Tok} {n : Nat} {m₀ : Str → Option Value} {news : List (Addr × Obj)} (J : Nat → (Str → Option Value) → List (Addr × Obj) → Prop)
    (hh : A.handled = none) (hr : IsRange s.heap r 0 b₀ 1 t₀ u₀ v₀) (hsmall : Builtin.Range.small 0 b₀ 1 = true) (hn : Builtin.Range.rangeSize 0 b₀ 1 = (n : Int))
    (F : Fr h₀ env.locals s.heap m₀) (N : News h₀ env.locals s.heap news) (h0 : J 0 m₀ news)
    (turn : ∀ i t m₁ nx h tk own I, i < n → J i m₁ nx → (∀ p ∈ nx, p.1 ≠ I) → (∀ p ∈ own, p.1 = I) → (∃ o, (I, o) ∈ own) → Fr h₀ env.locals h (fun y => if y = x then some (.int (i : Nat) t) else m₁ y) → News h₀ env.locals h (nx ++ own) →
      wpAny (model prog w) A (execs body env) (JPost h₀ env.locals [I] (J (i + 1)) own { s with heap := h, toks := tk } Q) E { s with heap := h, toks := tk })
    (done : ∀ m₁ nx h tk, J n m₁ nx → Fr h₀ env.locals h m₁ → News h₀ env.locals h nx → Q .next { s with heap := h, toks := tk }) :
    wpAny (model prog w) A (pyIter (.ref r)) (fun it s₂ => LoopAtV prog w A h₀ env x body Q E it s₂) E s := by
  refine wpAny_pyIter_range hr hsmall ?_
  refine loop_J J (Walks.range hh s.heap.objs.size 0 1 n) ?_ ?_ ?_ ?_ (F.push _) (fun p hp => ⟨Heap.get?_push_of_some _ (N p hp).1, (N p hp).2⟩) ?_ h0 ?_ ?_
  · intro hm
    exact absurd F.ns.lt ((List.mem_singleton.mp hm) ▸ Nat.lt_irrefl _)
  · intro b hb
    rw [List.mem_singleton.mp hb]
    exact next_is_new F
  · intro i h hst b hb
    rw [List.mem_singleton.mp hb]
    exact ⟨_, hst⟩
  · show IsRangeIter _ _ _ _ _
    rw [hn]; simpa using Heap.get?_push_size _ rfl
  · intro p hp hI
    exact absurd (Heap.lt_size (N p hp).1) ((List.mem_singleton.mp hI) ▸ Nat.lt_irrefl _)
  · rintro i v m₁ nx h tk own hi ⟨t, rfl⟩ hJ h1 h2 h3 F' N'
    have e : (0 + (i : Int) * 1) = (i : Int) := by omega
    rw [e] at F'
    exact turn i t m₁ nx h tk own _ hi hJ (fun p hp => by simpa using h1 p hp) (fun p hp => by simpa using h2 p hp) (h3 _ (List.mem_singleton.mpr rfl)) F' N'
  · exact done

theorem iter_listJ {l : Addr} {its : Array Value} {e : Nat} {m₀ : Str → Option Value} {news : List (Addr × Obj)} (J : Nat → (Str → Option Value) → List (Addr × Obj) → Prop)
    (hh : A.handled = none) (hl : (l, W.listOf its e) ∈ news)
    (F : Fr h₀ env.locals s.heap m₀) (N : News h₀ env.locals s.heap news) (h0 : J 0 m₀ news)
    (turn : ∀ i v m₁ nx h tk own I, i < its.size → its[i]? = some v → J i m₁ nx → (∀ p ∈ nx, p.1 ≠ I) → (∀ p ∈ own, p.1 = I ∨ p.1 = l) → Fr h₀ env.locals h (fun y => if y = x then some v else m₁ y) → News h₀ env.locals h (nx ++ own) →
      wpAny (model prog w) A (execs body env) (JPost h₀ env.locals [I] (J (i + 1)) own { s with heap := h, toks := tk } Q) E { s with heap := h, toks := tk })
    (done : ∀ m₁ nx h tk, J its.size m₁ nx → Fr h₀ env.locals h m₁ → News h₀ env.locals h nx → Q .next { s with heap := h, toks := tk }) :
    wpAny (model prog w) A (pyIter (.ref l)) (fun it s₂ => LoopAtV prog w A h₀ env x body Q E it s₂) E s := by
  have hls : s.heap.IsList l its := row_isList N hl
  have hlL := (N _ hl).2.1
  have hne : l ≠ s.heap.objs.size := Nat.ne_of_lt (Heap.lt_size (N _ hl).1)
  refine wpAny_pyIter_list hls ?_
  refine loop_J J (Walks.list hh s.heap.objs.size l hne its) ?_ ?_ ?_ ?_ (F.push _) (fun p hp => ⟨Heap.get?_push_of_some _ (N p hp).1, (N p hp).2⟩) ?_ h0 ?_ ?_
  · intro hm
    rcases List.mem_cons.mp hm with e | hm
    · exact absurd F.ns.lt (e ▸ Nat.lt_irrefl _)
    · exact hlL (List.mem_singleton.mp hm).symm
  · intro b hb
    rw [List.mem_singleton.mp hb]
    exact next_is_new F
  · intro i h hst b hb
    rw [List.mem_singleton.mp hb]
    obtain ⟨o, ho, _⟩ := hst.1
    exact ⟨o, ho⟩
  · exact ⟨⟨_, Heap.get?_push_size _ rfl, rfl, rfl⟩, hls.at fun o e => Heap.get?_push_of_some _ e⟩
  · intro p hp hI
    exact absurd (Heap.lt_size (N p hp).1) ((List.mem_singleton.mp hI) ▸ Nat.lt_irrefl _)
  · rintro i v m₁ nx h tk own hi hv hJ h1 h2 _ F' N'
    exact turn i v m₁ nx h tk own _ hi hv hJ (fun p hp => by simpa using h1 p hp) (fun p hp => by simpa using h2 p hp) F' N'
  · exact done
end
end
end Mine

namespace Mine
section
/-- the law's own statements, taken out of the row: from the first loop on, behind it, from the count on -/
structure LawCode where
  tailA : List Stmt
  tailB : List Stmt
  tailC : List Stmt
  tailD : List Stmt
  scope : Scope
abbrev lawCode : { x : LawCode // ∃ n a d r t ts b p s0 s1 s2 s3 s4 s5 s6 s7, PySem.Challenge.pw_rs0078_01.main.body[9]? = some (Stmt.FunctionDef n a x.tailA d r t x.scope ts b p) ∧ x.tailA = s0 :: s1 :: s2 :: s3 :: x.tailB ∧ x.tailB = s4 :: x.tailC ∧ x.tailC = s5 :: s6 :: s7 :: x.tailD } :=
  ⟨⟨_, _, _, _, _⟩, _, _, _, _, _, _, _, _, _, _, _, _, _, _, _, _, rfl, rfl, rfl, rfl⟩
structure LamCode where
  params : Arguments
  body : PySem.Expr
  scope : Scope
  pos : Pos
abbrev lamCode : { x : LamCode // ∃ t q r, lawCode.1.tailC = Stmt.Assign t (PySem.Expr.Lambda x.params x.body x.scope x.pos) q :: r } := ⟨⟨_, _, _, _⟩, _, _, _, rfl⟩
abbrev lamObj (qual : Str) (cl : List (Str × Addr)) (pm : Value) (c' : Addr) (ctv : Value) : Obj := kla_obj (Str.ofString "<lambda>") qual lamCode.1.params lamCode.1.body lamCode.1.scope cl pm c' ctv
abbrev lawEnv (L fa : Addr) : Env := envOfC (Str.ofString "law") lawCode.1.scope L fa (.ref 94)
abbrev lawA (L fa : Addr) : Around := callerA.deeper (lawEnv L fa)
end
end Mine

namespace Mine
section
theorem c_sign {w : World} {p₀ : Program} {loose : List Str} {mean : ExcName → Option Value} {mg mb : Str → Option Value}
  {dp un : Nat} {gd : Option (List Code)} {cn : Str} {cs : Scope} {a : Addr} {ccd : Value} {cl : List (Str × Addr)} {outer : List Env} {A₀ : Around} {base h₀ : Heap} {L : Addr} {m : Str → Option Value} {news : List (Addr × Obj)} {s : Shared} {Q E : Value → Shared → Prop}
  (B : Below A₀ base outer h₀) (F : Fr h₀ L s.heap m) (X : (hd.heap_39 w.params).In h₀) (N : News h₀ L s.heap news) (T : Top p₀ loose mean mg mb h₀) (hk : cs.kind = .function)
  (hdp : dp + 4 < recursionLimit) (hun : un + 40 < cLine)
  {n P : Int} {tn tp : Tok} (hP : 3 ≤ P ∧ P ≤ 17 ∧ P % 2 = 1)
  (hret : ∀ t h' tk', Fr h₀ L h' m → News h₀ L h' news → Q (.int (Jz (n % P) P) t) { s with heap := h', toks := tk' }) :
  wpAny (model PySem.Challenge.rw_rs0078_01.row.prog w) (ktrTop dp un gd cn cs L a ccd cl outer) (call (.ref 83) [.int n tn, .int P tp]) Q E s := by
  w_top off
  revert X; k_fill; intro X
  refine wpAny_call ?_
  k_dflt ktr_enter
  repeat ((fail_if_success (with_reducible show PySem.wpAny _ _ (PySem.exec (PySem.Stmt.While _ _ _ _) _) _ _ _)); (first | (k_unfold; (try dsimp only)) | (k_end; kc_close) | walk1 | (dsimp only; walk1) | (leave1; walk_say "STEP leave1"; (try dsimp only))))
  rename Fr _ _ _ (fun y => if y = Str.ofString "sign" then _ else if y = Str.ofString "n" then _ else _) => F1
  rename News _ _ _ _ => N1
  generalize hm0 : (fun y => if y = Str.ofString "sign" then _ else _) = m0 at F1
  have hmp : m0 (Str.ofString "p") = some (Value.int P tp) := by subst hm0; with_unfolding_all rfl
  obtain ⟨t1, hmn⟩ : ∃ t, m0 (Str.ofString "n") = some (Value.int (n.fmod P) t) := ⟨_, by subst hm0; with_unfolding_all rfl⟩
  obtain ⟨t3, hms⟩ : ∃ t, m0 (Str.ofString "sign") = some (Value.int 1 t) := ⟨_, by subst hm0; with_unfolding_all rfl⟩
  clear hm0
  refine while_G (σ := (Int × Tok) × (Int × Tok) × (Int × Tok)) (fun c z => if z = Str.ofString "n" then some (Value.int c.1.1 c.1.2) else if z = Str.ofString "p" then some (Value.int c.2.1.1 c.2.1.2) else if z = Str.ofString "sign" then some (Value.int c.2.2.1 c.2.2.2) else m0 z)
    (fun c => 0 ≤ c.1.1 ∧ c.1.1 ≤ 17 ∧ 1 ≤ c.2.1.1 ∧ c.2.1.1 ≤ 17 ∧ c.2.1.1 % 2 = 1 ∧ c.2.2.1 * Jz c.1.1 c.2.1.1 = Jz (n % P) P) (fun c => c.1.1.toNat) ((n.fmod P, t1), (P, tp), (1, t3)) F1 N1 ?e0 ?p0 ?turn
  case e0 =>
    funext z
    by_cases g0 : z = Str.ofString "n"
    · subst g0; exact hmn.trans (by with_unfolding_all rfl)
    by_cases g1 : z = Str.ofString "p"
    · subst g1; exact hmp.trans (by with_unfolding_all rfl)
    by_cases g2 : z = Str.ofString "sign"
    · subst g2; exact hms.trans (by with_unfolding_all rfl)
    simp only [if_neg g0, if_neg g1, if_neg g2]
  case p0 =>
    refine ⟨?_, ?_, ?_, ?_, ?_, ?_⟩ <;> dsimp only
    · rw [fm _ _ (by omega)]; exact Int.emod_nonneg _ (by omega)
    · rw [fm _ _ (by omega)]; have := Int.emod_lt_of_pos n (show 0 < P by omega); omega
    · omega
    · omega
    · omega
    · rw [fm _ _ (by omega), Int.one_mul]
  rintro ⟨⟨n1, t1⟩, ⟨p1, t2⟩, ⟨s1, t3⟩⟩ h tk hI F2 N2
  clear F1 N1
  dsimp only at F2 N2 hI ⊢
  try k_fold
  iterate 7 (first | (k_unfold; (try dsimp only)) | (k_end; kc_close) | walk1 | (dsimp only; walk1) | (leave1; walk_say "STEP leave1"; (try dsimp only)))
  -- the turn
  · repeat ((fail_if_success (with_reducible show PySem.wpAny _ _ (PySem.exec (PySem.Stmt.While _ _ _ _) _) _ _ _)); (first | (k_unfold; (try dsimp only)) | (k_end; kc_close) | walk1 | (dsimp only; walk1) | (leave1; walk_say "STEP leave1"; (try dsimp only))))
    rename Fr _ _ _ _ => F1
    rename News _ _ _ _ => N1
    refine while_G (σ := (Int × Tok) × (Int × Tok)) (fun c z => if z = Str.ofString "n" then some (Value.int c.1.1 c.1.2) else if z = Str.ofString "sign" then some (Value.int c.2.1 c.2.2) else if z = Str.ofString "p" then some (Value.int p1 t2) else m0 z)
      (fun c => 1 ≤ c.1.1 ∧ c.1.1 ≤ n1 ∧ c.2.1 * Jz c.1.1 p1 = Jz (n % P) P) (fun c => c.1.1.toNat) ((n1, t1), (s1, t3)) F1 N1 ?e1 ?p1 ?turn1
    case e1 =>
      funext z
      by_cases g0 : z = Str.ofString "n"
      · subst g0; with_unfolding_all rfl
      by_cases g1 : z = Str.ofString "p"
      · subst g1; with_unfolding_all rfl
      by_cases g2 : z = Str.ofString "sign"
      · subst g2; with_unfolding_all rfl
      simp only [if_neg g0, if_neg g1, if_neg g2]
    case p1 => exact ⟨by dsimp only; omega, by dsimp only; omega, hI.2.2.2.2.2⟩
    rintro ⟨⟨n2, t4⟩, ⟨s2, t5⟩⟩ h2 tk2 hI2 F3 N3
    clear F1 N1
    dsimp only at F3 N3 hI2 ⊢
    try k_fold
    iterate 10 (first | (k_unfold; (try dsimp only)) | (k_end; kc_close) | walk1 | (dsimp only; walk1) | (leave1; walk_say "STEP leave1"; (try dsimp only)))
    · k_steps
      · refine' wnext ((n2.fdiv 2, _), (-s2, _)) ?Fi0 ?Ni0 ?hi0 ?ei0 ?pi0 ?mi0
        case Fi0 => assumption
        case Ni0 => assumption
        case hi0 => exact (fun _ hq => hq)
        case ei0 =>
          funext z
          by_cases g0 : z = Str.ofString "n"
          · subst g0; with_unfolding_all rfl
          by_cases g1 : z = Str.ofString "sign"
          · subst g1; with_unfolding_all rfl
          simp only [if_neg g0, if_neg g1]
        all_goals dsimp only
        all_goals (simp only [fm _ _ (show (0:Int) ≤ 2 by decide), fm _ _ (show (0:Int) ≤ 4 by decide), fm _ _ (show (0:Int) ≤ 8 by decide), fd _ _ (show (0:Int) ≤ 2 by decide), fm p1 n2 (by omega)] at *)
        all_goals (have e1 := Int.emod_nonneg p1 (show n2 ≠ 0 by omega); have e2 := Int.emod_lt_of_pos p1 (show 0 < n2 by omega))
        · exact ⟨by omega, by omega, way_even_flip (by omega) (by omega) (by omega) (by omega) (by omega) (by omega) hI2.2.2⟩
        · omega
      · refine' wnext ((n2.fdiv 2, _), (-s2, _)) ?Fi1 ?Ni1 ?hi1 ?ei1 ?pi1 ?mi1
        case Fi1 => assumption
        case Ni1 => assumption
        case hi1 => exact (fun _ hq => hq)
        case ei1 =>
          funext z
          by_cases g0 : z = Str.ofString "n"
          · subst g0; with_unfolding_all rfl
          by_cases g1 : z = Str.ofString "sign"
          · subst g1; with_unfolding_all rfl
          simp only [if_neg g0, if_neg g1]
        all_goals dsimp only
        all_goals (simp only [fm _ _ (show (0:Int) ≤ 2 by decide), fm _ _ (show (0:Int) ≤ 4 by decide), fm _ _ (show (0:Int) ≤ 8 by decide), fd _ _ (show (0:Int) ≤ 2 by decide), fm p1 n2 (by omega)] at *)
        all_goals (have e1 := Int.emod_nonneg p1 (show n2 ≠ 0 by omega); have e2 := Int.emod_lt_of_pos p1 (show 0 < n2 by omega))
        · exact ⟨by omega, by omega, way_even_flip (by omega) (by omega) (by omega) (by omega) (by omega) (by omega) hI2.2.2⟩
        · omega
      · refine' wnext ((n2.fdiv 2, _), (s2, _)) ?Fi2 ?Ni2 ?hi2 ?ei2 ?pi2 ?mi2
        case Fi2 => assumption
        case Ni2 => assumption
        case hi2 => exact (fun _ hq => hq)
        case ei2 =>
          funext z
          by_cases g0 : z = Str.ofString "n"
          · subst g0; with_unfolding_all rfl
          by_cases g1 : z = Str.ofString "sign"
          · subst g1; with_unfolding_all rfl
          simp only [if_neg g0, if_neg g1]
        all_goals dsimp only
        all_goals (simp only [fm _ _ (show (0:Int) ≤ 2 by decide), fm _ _ (show (0:Int) ≤ 4 by decide), fm _ _ (show (0:Int) ≤ 8 by decide), fd _ _ (show (0:Int) ≤ 2 by decide), fm p1 n2 (by omega)] at *)
        all_goals (have e1 := Int.emod_nonneg p1 (show n2 ≠ 0 by omega); have e2 := Int.emod_lt_of_pos p1 (show 0 < n2 by omega))
        · exact ⟨by omega, by omega, way_even_stay (by omega) (by omega) (by omega) (by omega) (by omega) (by omega) hI2.2.2⟩
        · omega
    · k_steps
      · refine' wnext ((p1.fmod n2, _), (n2, _), (-s2, _)) ?Fo0 ?No0 ?ho0 ?eo0 ?po0 ?mo0
        case Fo0 => assumption
        case No0 => assumption
        case ho0 => exact (fun _ hq => List.mem_cons_of_mem _ hq)
        case eo0 =>
          funext z
          by_cases g0 : z = Str.ofString "n"
          · subst g0; with_unfolding_all rfl
          by_cases g1 : z = Str.ofString "p"
          · subst g1; with_unfolding_all rfl
          by_cases g2 : z = Str.ofString "sign"
          · subst g2; with_unfolding_all rfl
          simp only [if_neg g0, if_neg g1, if_neg g2]
        all_goals dsimp only
        all_goals (simp only [fm _ _ (show (0:Int) ≤ 2 by decide), fm _ _ (show (0:Int) ≤ 4 by decide), fm _ _ (show (0:Int) ≤ 8 by decide), fd _ _ (show (0:Int) ≤ 2 by decide), fm p1 n2 (by omega)] at *)
        all_goals (have e1 := Int.emod_nonneg p1 (show n2 ≠ 0 by omega); have e2 := Int.emod_lt_of_pos p1 (show 0 < n2 by omega))
        · exact ⟨by omega, by omega, by omega, by omega, by omega, way_odd_flip (by omega) (by omega) (by omega) (by omega) (by omega) (by omega) hI2.2.2⟩
        · omega
      · refine' wnext ((p1.fmod n2, _), (n2, _), (s2, _)) ?Fo1 ?No1 ?ho1 ?eo1 ?po1 ?mo1
        case Fo1 => assumption
        case No1 => assumption
        case ho1 => exact (fun _ hq => List.mem_cons_of_mem _ hq)
        case eo1 =>
          funext z
          by_cases g0 : z = Str.ofString "n"
          · subst g0; with_unfolding_all rfl
          by_cases g1 : z = Str.ofString "p"
          · subst g1; with_unfolding_all rfl
          by_cases g2 : z = Str.ofString "sign"
          · subst g2; with_unfolding_all rfl
          simp only [if_neg g0, if_neg g1, if_neg g2]
        all_goals dsimp only
        all_goals (simp only [fm _ _ (show (0:Int) ≤ 2 by decide), fm _ _ (show (0:Int) ≤ 4 by decide), fm _ _ (show (0:Int) ≤ 8 by decide), fd _ _ (show (0:Int) ≤ 2 by decide), fm p1 n2 (by omega)] at *)
        all_goals (have e1 := Int.emod_nonneg p1 (show n2 ≠ 0 by omega); have e2 := Int.emod_lt_of_pos p1 (show 0 < n2 by omega))
        · exact ⟨by omega, by omega, by omega, by omega, by omega, way_odd_stay (by omega) (by omega) (by omega) (by omega) (by omega) (by omega) hI2.2.2⟩
        · omega
      · refine' wnext ((p1.fmod n2, _), (n2, _), (s2, _)) ?Fo2 ?No2 ?ho2 ?eo2 ?po2 ?mo2
        case Fo2 => assumption
        case No2 => assumption
        case ho2 => exact (fun _ hq => List.mem_cons_of_mem _ hq)
        case eo2 =>
          funext z
          by_cases g0 : z = Str.ofString "n"
          · subst g0; with_unfolding_all rfl
          by_cases g1 : z = Str.ofString "p"
          · subst g1; with_unfolding_all rfl
          by_cases g2 : z = Str.ofString "sign"
          · subst g2; with_unfolding_all rfl
          simp only [if_neg g0, if_neg g1, if_neg g2]
        all_goals dsimp only
        all_goals (simp only [fm _ _ (show (0:Int) ≤ 2 by decide), fm _ _ (show (0:Int) ≤ 4 by decide), fm _ _ (show (0:Int) ≤ 8 by decide), fd _ _ (show (0:Int) ≤ 2 by decide), fm p1 n2 (by omega)] at *)
        all_goals (have e1 := Int.emod_nonneg p1 (show n2 ≠ 0 by omega); have e2 := Int.emod_lt_of_pos p1 (show 0 < n2 by omega))
        · exact ⟨by omega, by omega, by omega, by omega, by omega, way_odd_stay (by omega) (by omega) (by omega) (by omega) (by omega) (by omega) hI2.2.2⟩
        · omega
  · k_steps
    · have e : s1 = Jz (n % P) P := by
        have e1 := hI.2.2.2.2.2
        rw [← e1, show n1 = 0 by omega, Jz_zero p1 (by omega), if_pos (by omega), Int.mul_one]
      rw [e]
      exact hret _ _ _ (by assumption) (by assumption)
    · have e : (0 : Int) = Jz (n % P) P := by
        have e1 := hI.2.2.2.2.2
        rw [← e1, show n1 = 0 by omega, Jz_zero p1 (by omega), if_neg (by omega), Int.mul_zero]
      rw [e]
      exact hret _ _ _ (by assumption) (by assumption)
end
end Mine

namespace Mine
section
theorem c_due {w : World} {p₀ : Program} {loose : List Str} {mean : ExcName → Option Value} {mg mb : Str → Option Value}
  {dp un : Nat} {gd : Option (List Code)} {cn : Str} {cs : Scope} {aa : Addr} {ccd : Value} {cl : List (Str × Addr)} {outer : List Env} {A₀ : Around} {base h₀ : Heap} {L : Addr} {m : Str → Option Value} {news : List (Addr × Obj)} {s : Shared} {Q E : Value → Shared → Prop}
  (B : Below A₀ base outer h₀) (F : Fr h₀ L s.heap m) (X : (hd.heap_39 w.params).In h₀) (N : News h₀ L s.heap news) (T : Top p₀ loose mean mg mb h₀) (hk : cs.kind = .function)
  (hdp : dp + 8 < recursionLimit) (hun : un + 60 < cLine)
  {a b c P : Int} {ta tb tc tp : Tok} (hP : 3 ≤ P ∧ P ≤ 17 ∧ P % 2 = 1) (ha : 0 ≤ a ∧ a < 255255) (hb : 0 ≤ b ∧ b < 255255) (hc : 0 ≤ c ∧ c < 255255)
  (hret : ∀ t h' tk', Fr h₀ L h' m → News h₀ L h' news → Q (.int (due a b c P) t) { s with heap := h', toks := tk' }) :
  wpAny (model PySem.Challenge.rw_rs0078_01.row.prog w) (ktrTop dp un gd cn cs L aa ccd cl outer) (call (.ref 90) [.int a ta, .int b tb, .int c tc, .int P tp]) Q E s := by
  w_top off
  revert X; k_fill; intro X
  refine wpAny_call ?_
  k_dflt ktr_enter
  repeat' ((fail_if_success (with_reducible show PySem.wpAny _ _ (PySem.call (PySem.Value.ref 83) _ _) _ _ _)); (first | (k_unfold; (try dsimp only)) | (k_end; kc_close) | walk1 | (dsimp only; walk1) | (leave1; walk_say "STEP leave1"; (try dsimp only))))
  · have e : P * P = due a b c P := by
      simp only [fm _ _ (show 0 ≤ P by omega)] at *
      unfold due; rw [if_pos ⟨by assumption, by assumption⟩, if_pos (by assumption)]
    rw [e]; exact hret _ _ _ (by assumption) (by assumption)
  · have e : 0 = due a b c P := by
      simp only [fm _ _ (show 0 ≤ P by omega)] at *
      unfold due; rw [if_pos ⟨by assumption, by assumption⟩, if_neg (by assumption)]
    rw [e]; exact hret _ _ _ (by assumption) (by assumption)
  all_goals (
    with_unfolding_all refine c_sign (by assumption) (by assumption) (by assumption) (by assumption) (by assumption) rfl ?_ ?_ hP ?_
    · simp only [ktrTop] at *; omega
    · simp only [ktrTop] at *; omega
    intro t1 h1 tk1 F1 N1
    have hJ := Jz_bd ((a + b) * c) P (by omega) (by omega)
    have hJ' := Jz_bd (-a * b) P (by omega) (by omega)
    k_steps)
  all_goals (simp only [fm _ _ (show 0 ≤ P by omega)] at *)
  iterate 4 (
    · have e : P * (1 + Jz ((a + b) * c % P) P) = due a b c P := by
        unfold due
        by_cases h1 : a % P = 0 <;> by_cases h2 : b % P = 0 <;> simp_all
      rw [e]; exact hret _ _ _ (by assumption) (by assumption))
  · have e : P + (P - 1) * Jz (-a * b % P) P = due a b c P := by
      unfold due
      by_cases h1 : a % P = 0 <;> by_cases h2 : b % P = 0 <;> simp_all
    rw [e]; exact hret _ _ _ (by assumption) (by assumption)
  · have e : P - Jz (-a * b % P) P = due a b c P := by
      unfold due
      by_cases h1 : a % P = 0 <;> by_cases h2 : b % P = 0 <;> simp_all
    rw [e]; exact hret _ _ _ (by assumption) (by assumption)
end
end Mine

namespace Mine
section
theorem c_bisR4 {w : World} {p₀ : Program} {loose : List Str} {mean : ExcName → Option Value} {mg mb : Str → Option Value}
  {dp un : Nat} {gd : Option (List Code)} {cn : Str} {cs : Scope} {aa : Addr} {ccd : Value} {cl : List (Str × Addr)} {outer : List Env} {A₀ : Around} {base h₀ : Heap} {L : Addr} {m : Str → Option Value} {news : List (Addr × Obj)} {s : Shared} {Q E : Value → Shared → Prop}
  (B : Below A₀ base outer h₀) (F : Fr h₀ L s.heap m) (X : (hd.heap_39 w.params).In h₀) (N : News h₀ L s.heap news) (T : Top p₀ loose mean mg mb h₀) (hk : cs.kind = .function)
  (hdp : dp + 12 < recursionLimit) (hun : un + 90 < cLine)
  {f r : Addr} {need : List (Addr × Obj)} {g : Int → Int} {ts : List (Addr × Int)} {e : Nat} {x : Int} {lo : Nat} {tl : Tok} {tx : Tok}
  (HK : KeyC w p₀ loose mean mg mb f need g) (hneed : ∀ q ∈ need, q ∈ news) (hrow : (r, rowObj ts e) ∈ news) (hts : ∀ t ∈ ts, ThingAt news t.1 t.2) (hlen : ts.length ≤ 1000)
  (hs : ∀ i j, i ≤ j → j < ts.length → kAt g ts i ≤ kAt g ts j) (hlo : lo ≤ ts.length) (hpre : ∀ i, i < lo → kAt g ts i ≤ x)
  (hret : ∀ (k : Nat) t h' tk', lo ≤ k → k ≤ ts.length → (∀ i, i < k → kAt g ts i ≤ x) → (∀ i, k ≤ i → i < ts.length → x < kAt g ts i) → Fr h₀ L h' m → News h₀ L h' news → Q (.int k t) { s with heap := h', toks := tk' }) :
  wpAny (model PySem.Challenge.rw_rs0078_01.row.prog w) (ktrTop dp un gd cn cs L aa ccd cl outer) (call (.ref 67) [.ref r, .int x tx, .int lo tl, .none] [(Str.ofString "key", .ref f)]) Q E s := by
  w_top off
  revert X; k_fill; intro X
  have hlo0 : (0 : Int) ≤ (lo : Int) := Int.natCast_nonneg lo
  obtain ⟨⟨fo, fdat, hfo, hfd⟩, HKc⟩ := HK
  have hfn := hneed _ hfo
  refine wpAny_call ?_
  k_dflt k_enter
  repeat ((fail_if_success (with_reducible show PySem.wpAny _ _ (PySem.call (PySem.Value.builtin "len") _ _) _ _ _)); (first | (k_unfold; (try dsimp only)) | (k_end; kc_close) | walk1 | (dsimp only; walk1) | (leave1; walk_say "STEP leave1"; (try dsimp only))))
  rename News _ _ _ _ => N1
  refine len_list (row_isList N1 hrow) ?_ ?_
  · simp only [List.size_toArray, List.length_map]; omega
  repeat ((fail_if_success (with_reducible show PySem.wpAny _ _ (PySem.exec (PySem.Stmt.While _ _ _ _) _) _ _ _)); (first | (k_unfold; (try dsimp only)) | (k_end; kc_close) | walk1 | (dsimp only; walk1) | (leave1; walk_say "STEP leave1"; (try dsimp only))))
  rename Fr _ _ _ (fun y => if y = Str.ofString "hi" then _ else _) => F1
  rename News _ _ _ _ => N1
  generalize hm0 : (fun y => if y = Str.ofString "hi" then _ else _) = m0 at F1
  have hma : m0 (Str.ofString "a") = some (Value.ref r) := by subst hm0; with_unfolding_all rfl
  have hmx : m0 (Str.ofString "x") = some (Value.int x tx) := by subst hm0; with_unfolding_all rfl
  obtain ⟨tlo, hml⟩ : ∃ t, m0 (Str.ofString "lo") = some (Value.int ((lo : Nat) : Int) t) := ⟨_, by subst hm0; with_unfolding_all rfl⟩
  have hmk : m0 (Str.ofString "key") = some (Value.ref f) := by subst hm0; with_unfolding_all rfl
  obtain ⟨thi, hmh⟩ : ∃ t, m0 (Str.ofString "hi") = some (Value.int (List.map (fun t : Addr × Int => Value.ref t.1) ts).toArray.size t) := ⟨_, by subst hm0; with_unfolding_all rfl⟩
  clear hm0
  have hsz : (List.map (fun t : Addr × Int => Value.ref t.1) ts).toArray.size = ts.length := by simp
  rw [hsz] at hmh
  refine while_G (σ := (Nat × Tok) × (Nat × Tok) × Option Value) (fun c z => if z = Str.ofString "a" then some (Value.ref r) else if z = Str.ofString "x" then some (Value.int x tx) else if z = Str.ofString "key" then some (Value.ref f) else if z = Str.ofString "lo" then some (Value.int c.1.1 c.1.2) else if z = Str.ofString "hi" then some (Value.int c.2.1.1 c.2.1.2) else if z = Str.ofString "mid" then c.2.2 else m0 z)
    (fun c => lo ≤ c.1.1 ∧ c.1.1 ≤ c.2.1.1 ∧ c.2.1.1 ≤ ts.length ∧ (∀ i, i < c.1.1 → kAt g ts i ≤ x) ∧ (∀ i, c.2.1.1 ≤ i → i < ts.length → x < kAt g ts i)) (fun c => c.2.1.1 - c.1.1) ((lo, tlo), (ts.length, thi), m0 (Str.ofString "mid")) F1 N1 ?_ ?_ ?_
  · skip
    funext z
    by_cases g0 : z = Str.ofString "a"
    · subst g0; exact Eq.trans hma (by with_unfolding_all rfl)
    by_cases g1 : z = Str.ofString "x"
    · subst g1; exact Eq.trans hmx (by with_unfolding_all rfl)
    by_cases g2 : z = Str.ofString "key"
    · subst g2; exact Eq.trans hmk (by with_unfolding_all rfl)
    by_cases g3 : z = Str.ofString "lo"
    · subst g3; exact Eq.trans hml (by with_unfolding_all rfl)
    by_cases g4 : z = Str.ofString "hi"
    · subst g4; exact Eq.trans hmh (by with_unfolding_all rfl)
    by_cases g5 : z = Str.ofString "mid"
    · subst g5; exact Eq.trans (rfl : m0 (Str.ofString "mid") = _) (by with_unfolding_all rfl)
    simp only [if_neg g0, if_neg g1, if_neg g2, if_neg g3, if_neg g4, if_neg g5]
  · exact ⟨Nat.le_refl _, hlo, Nat.le_refl _, hpre, fun i h1 h2 => absurd h2 (by dsimp only at h1; omega)⟩
  rintro ⟨⟨lo1, t1⟩, ⟨hi1, t2⟩, mid1⟩ h tk hI F2 N2
  clear F1 N1 hma hmx hml hmk hmh
  dsimp only at F2 N2 hI ⊢
  try k_fold
  iterate 7 (first | (k_unfold; (try dsimp only)) | (k_end; kc_close) | walk1 | (dsimp only; walk1) | (leave1; walk_say "STEP leave1"; (try dsimp only)))
  · repeat ((fail_if_success (with_reducible show PySem.wpAny _ _ (PySem.callWith _ (PySem.Value.ref _) _ _ _) _ _ _)); (first | (k_unfold; (try dsimp only)) | (k_end; kc_close) | walk1 | (dsimp only; walk1) | (leave1; walk_say "STEP leave1"; (try dsimp only))))
    rename News _ _ _ _ => N9
    refine callWith_F (fnAt_of N9 hfn hfd) ?_
    repeat ((fail_if_success (with_reducible show PySem.wpAny _ _ (PyProof.Rows.subscriptTail _ _ (PySem.Value.ref _) _) _ _ _)); (first | (k_unfold; (try dsimp only)) | (k_end; kc_close) | walk1 | (dsimp only; walk1) | (leave1; walk_say "STEP leave1"; (try dsimp only))))
    have hlt : lo1 < hi1 := by omega
    have hmid : ((lo1 : Int) + (hi1 : Int)).fdiv 2 = (((lo1 + hi1) / 2 : Nat) : Int) := by rw [fd _ _ (by decide)]; omega
    generalize hM : (lo1 + hi1) / 2 = M at hmid
    have hM1 : lo1 ≤ M := by omega
    have hM2 : M < hi1 := by omega
    rw [hmid]
    simp only [hmid] at *
    rename News _ _ _ _ => N3
    have hMt : M < ts.length := by omega
    obtain ⟨t, ht⟩ : ∃ t, ts[M]? = some t := ⟨ts[M], by simp [hMt]⟩
    refine item_list (x := Value.ref t.1) (row_isList N3 hrow) (by omega) (by omega) (by simp [ht]) ?_
    repeat ((fail_if_success (with_reducible show _ ∧ _)); (first | (k_unfold; (try dsimp only)) | (k_end; kc_close) | walk1 | (dsimp only; walk1) | (leave1; walk_say "STEP leave1"; (try dsimp only))))
    refine ⟨fnAt_of N3 hfn hfd, ?_⟩
    try dsimp only [List.nil_append]
    with_unfolding_all refine HKc _ _ _ _ _ _ _ _ _ _ _ _ _ _ _ _ _ _ _ t.2 (by assumption) (by assumption) (by assumption) N3 (by assumption) rfl ?_ ?_ hneed (hts t (List.mem_of_getElem? ht)) ?_
    · simp only [ktrTop] at *; omega
    · simp only [ktrTop] at *; omega
    intro t3 h3 tk3 F3 N4
    have hkM : kAt g ts M = g t.2 := kAt_of ht
    k_steps
    · refine' wnext ((lo1, t1), (M, _), some (Value.int M _)) ?Fa ?Na (fun _ hq => hq) ?ea ?pa ?ma
      case Fa => assumption
      case Na => assumption
      case ea =>
        skip
        funext z
        by_cases g0 : z = Str.ofString "a"
        · subst g0; with_unfolding_all rfl
        by_cases g1 : z = Str.ofString "x"
        · subst g1; with_unfolding_all rfl
        by_cases g2 : z = Str.ofString "key"
        · subst g2; with_unfolding_all rfl
        by_cases g3 : z = Str.ofString "lo"
        · subst g3; with_unfolding_all rfl
        by_cases g4 : z = Str.ofString "hi"
        · subst g4; with_unfolding_all rfl
        by_cases g5 : z = Str.ofString "mid"
        · subst g5; with_unfolding_all rfl
        simp only [if_neg g0, if_neg g1, if_neg g2, if_neg g3, if_neg g4, if_neg g5]
      case ma => dsimp only; omega
      case pa =>
        dsimp only
        exact ⟨by omega, by omega, by omega, hI.2.2.2.1, fun i h1 h2 => by have := hs M i h1 h2; omega⟩
    · refine' wnext ((M + 1, _), (hi1, t2), some (Value.int M _)) ?Fb ?Nb (fun _ hq => hq) ?eb ?pb ?mb
      case Fb => assumption
      case Nb => assumption
      case eb =>
        skip
        funext z
        by_cases g0 : z = Str.ofString "a"
        · subst g0; with_unfolding_all rfl
        by_cases g1 : z = Str.ofString "x"
        · subst g1; with_unfolding_all rfl
        by_cases g2 : z = Str.ofString "key"
        · subst g2; with_unfolding_all rfl
        by_cases g3 : z = Str.ofString "lo"
        · subst g3; with_unfolding_all rfl
        by_cases g4 : z = Str.ofString "hi"
        · subst g4; with_unfolding_all rfl
        by_cases g5 : z = Str.ofString "mid"
        · subst g5; with_unfolding_all rfl
        simp only [if_neg g0, if_neg g1, if_neg g2, if_neg g3, if_neg g4, if_neg g5]
      case mb => dsimp only; omega
      case pb =>
        dsimp only
        exact ⟨by omega, by omega, by omega, fun i h1 => by have := hs i M (by omega) hMt; omega, hI.2.2.2.2⟩
  · k_steps
    exact hret _ _ _ _ (by omega) (by omega) hI.2.2.2.1 (fun i h1 h2 => hI.2.2.2.2 i (by omega) h2) (by assumption) (by assumption)
theorem c_bisR3 {w : World} {p₀ : Program} {loose : List Str} {mean : ExcName → Option Value} {mg mb : Str → Option Value}
  {dp un : Nat} {gd : Option (List Code)} {cn : Str} {cs : Scope} {aa : Addr} {ccd : Value} {cl : List (Str × Addr)} {outer : List Env} {A₀ : Around} {base h₀ : Heap} {L : Addr} {m : Str → Option Value} {news : List (Addr × Obj)} {s : Shared} {Q E : Value → Shared → Prop}
  (B : Below A₀ base outer h₀) (F : Fr h₀ L s.heap m) (X : (hd.heap_39 w.params).In h₀) (N : News h₀ L s.heap news) (T : Top p₀ loose mean mg mb h₀) (hk : cs.kind = .function)
  (hdp : dp + 12 < recursionLimit) (hun : un + 90 < cLine)
  {f r : Addr} {need : List (Addr × Obj)} {g : Int → Int} {ts : List (Addr × Int)} {e : Nat} {x : Int} {lo : Nat} {tl : Tok} {tx : Tok}
  (HK : KeyC w p₀ loose mean mg mb f need g) (hneed : ∀ q ∈ need, q ∈ news) (hrow : (r, rowObj ts e) ∈ news) (hts : ∀ t ∈ ts, ThingAt news t.1 t.2) (hlen : ts.length ≤ 1000)
  (hs : ∀ i j, i ≤ j → j < ts.length → kAt g ts i ≤ kAt g ts j) (hlo : lo ≤ ts.length) (hpre : ∀ i, i < lo → kAt g ts i ≤ x)
  (hret : ∀ (k : Nat) t h' tk', lo ≤ k → k ≤ ts.length → (∀ i, i < k → kAt g ts i ≤ x) → (∀ i, k ≤ i → i < ts.length → x < kAt g ts i) → Fr h₀ L h' m → News h₀ L h' news → Q (.int k t) { s with heap := h', toks := tk' }) :
  wpAny (model PySem.Challenge.rw_rs0078_01.row.prog w) (ktrTop dp un gd cn cs L aa ccd cl outer) (call (.ref 67) [.ref r, .int x tx, .int lo tl] [(Str.ofString "key", .ref f)]) Q E s := by
  w_top off
  revert X; k_fill; intro X
  have hlo0 : (0 : Int) ≤ (lo : Int) := Int.natCast_nonneg lo
  obtain ⟨⟨fo, fdat, hfo, hfd⟩, HKc⟩ := HK
  have hfn := hneed _ hfo
  refine wpAny_call ?_
  k_dflt k_enter
  repeat ((fail_if_success (with_reducible show PySem.wpAny _ _ (PySem.call (PySem.Value.builtin "len") _ _) _ _ _)); (first | (k_unfold; (try dsimp only)) | (k_end; kc_close) | walk1 | (dsimp only; walk1) | (leave1; walk_say "STEP leave1"; (try dsimp only))))
  rename News _ _ _ _ => N1
  refine len_list (row_isList N1 hrow) ?_ ?_
  · simp only [List.size_toArray, List.length_map]; omega
  repeat ((fail_if_success (with_reducible show PySem.wpAny _ _ (PySem.exec (PySem.Stmt.While _ _ _ _) _) _ _ _)); (first | (k_unfold; (try dsimp only)) | (k_end; kc_close) | walk1 | (dsimp only; walk1) | (leave1; walk_say "STEP leave1"; (try dsimp only))))
  rename Fr _ _ _ (fun y => if y = Str.ofString "hi" then _ else _) => F1
  rename News _ _ _ _ => N1
  generalize hm0 : (fun y => if y = Str.ofString "hi" then _ else _) = m0 at F1
  have hma : m0 (Str.ofString "a") = some (Value.ref r) := by subst hm0; with_unfolding_all rfl
  have hmx : m0 (Str.ofString "x") = some (Value.int x tx) := by subst hm0; with_unfolding_all rfl
  obtain ⟨tlo, hml⟩ : ∃ t, m0 (Str.ofString "lo") = some (Value.int ((lo : Nat) : Int) t) := ⟨_, by subst hm0; with_unfolding_all rfl⟩
  have hmk : m0 (Str.ofString "key") = some (Value.ref f) := by subst hm0; with_unfolding_all rfl
  obtain ⟨thi, hmh⟩ : ∃ t, m0 (Str.ofString "hi") = some (Value.int (List.map (fun t : Addr × Int => Value.ref t.1) ts).toArray.size t) := ⟨_, by subst hm0; with_unfolding_all rfl⟩
  clear hm0
  have hsz : (List.map (fun t : Addr × Int => Value.ref t.1) ts).toArray.size = ts.length := by simp
  rw [hsz] at hmh
  refine while_G (σ := (Nat × Tok) × (Nat × Tok) × Option Value) (fun c z => if z = Str.ofString "a" then some (Value.ref r) else if z = Str.ofString "x" then some (Value.int x tx) else if z = Str.ofString "key" then some (Value.ref f) else if z = Str.ofString "lo" then some (Value.int c.1.1 c.1.2) else if z = Str.ofString "hi" then some (Value.int c.2.1.1 c.2.1.2) else if z = Str.ofString "mid" then c.2.2 else m0 z)
    (fun c => lo ≤ c.1.1 ∧ c.1.1 ≤ c.2.1.1 ∧ c.2.1.1 ≤ ts.length ∧ (∀ i, i < c.1.1 → kAt g ts i ≤ x) ∧ (∀ i, c.2.1.1 ≤ i → i < ts.length → x < kAt g ts i)) (fun c => c.2.1.1 - c.1.1) ((lo, tlo), (ts.length, thi), m0 (Str.ofString "mid")) F1 N1 ?_ ?_ ?_
  · skip
    funext z
    by_cases g0 : z = Str.ofString "a"
    · subst g0; exact Eq.trans hma (by with_unfolding_all rfl)
    by_cases g1 : z = Str.ofString "x"
    · subst g1; exact Eq.trans hmx (by with_unfolding_all rfl)
    by_cases g2 : z = Str.ofString "key"
    · subst g2; exact Eq.trans hmk (by with_unfolding_all rfl)
    by_cases g3 : z = Str.ofString "lo"
    · subst g3; exact Eq.trans hml (by with_unfolding_all rfl)
    by_cases g4 : z = Str.ofString "hi"
    · subst g4; exact Eq.trans hmh (by with_unfolding_all rfl)
    by_cases g5 : z = Str.ofString "mid"
    · subst g5; exact Eq.trans (rfl : m0 (Str.ofString "mid") = _) (by with_unfolding_all rfl)
    simp only [if_neg g0, if_neg g1, if_neg g2, if_neg g3, if_neg g4, if_neg g5]
  · exact ⟨Nat.le_refl _, hlo, Nat.le_refl _, hpre, fun i h1 h2 => absurd h2 (by dsimp only at h1; omega)⟩
  rintro ⟨⟨lo1, t1⟩, ⟨hi1, t2⟩, mid1⟩ h tk hI F2 N2
  clear F1 N1 hma hmx hml hmk hmh
  dsimp only at F2 N2 hI ⊢
  try k_fold
  iterate 7 (first | (k_unfold; (try dsimp only)) | (k_end; kc_close) | walk1 | (dsimp only; walk1) | (leave1; walk_say "STEP leave1"; (try dsimp only)))
  · repeat ((fail_if_success (with_reducible show PySem.wpAny _ _ (PySem.callWith _ (PySem.Value.ref _) _ _ _) _ _ _)); (first | (k_unfold; (try dsimp only)) | (k_end; kc_close) | walk1 | (dsimp only; walk1) | (leave1; walk_say "STEP leave1"; (try dsimp only))))
    rename News _ _ _ _ => N9
    refine callWith_F (fnAt_of N9 hfn hfd) ?_
    repeat ((fail_if_success (with_reducible show PySem.wpAny _ _ (PyProof.Rows.subscriptTail _ _ (PySem.Value.ref _) _) _ _ _)); (first | (k_unfold; (try dsimp only)) | (k_end; kc_close) | walk1 | (dsimp only; walk1) | (leave1; walk_say "STEP leave1"; (try dsimp only))))
    have hlt : lo1 < hi1 := by omega
    have hmid : ((lo1 : Int) + (hi1 : Int)).fdiv 2 = (((lo1 + hi1) / 2 : Nat) : Int) := by rw [fd _ _ (by decide)]; omega
    generalize hM : (lo1 + hi1) / 2 = M at hmid
    have hM1 : lo1 ≤ M := by omega
    have hM2 : M < hi1 := by omega
    rw [hmid]
    simp only [hmid] at *
    rename News _ _ _ _ => N3
    have hMt : M < ts.length := by omega
    obtain ⟨t, ht⟩ : ∃ t, ts[M]? = some t := ⟨ts[M], by simp [hMt]⟩
    refine item_list (x := Value.ref t.1) (row_isList N3 hrow) (by omega) (by omega) (by simp [ht]) ?_
    repeat ((fail_if_success (with_reducible show _ ∧ _)); (first | (k_unfold; (try dsimp only)) | (k_end; kc_close) | walk1 | (dsimp only; walk1) | (leave1; walk_say "STEP leave1"; (try dsimp only))))
    refine ⟨fnAt_of N3 hfn hfd, ?_⟩
    try dsimp only [List.nil_append]
    with_unfolding_all refine HKc _ _ _ _ _ _ _ _ _ _ _ _ _ _ _ _ _ _ _ t.2 (by assumption) (by assumption) (by assumption) N3 (by assumption) rfl ?_ ?_ hneed (hts t (List.mem_of_getElem? ht)) ?_
    · simp only [ktrTop] at *; omega
    · simp only [ktrTop] at *; omega
    intro t3 h3 tk3 F3 N4
    have hkM : kAt g ts M = g t.2 := kAt_of ht
    k_steps
    · refine' wnext ((lo1, t1), (M, _), some (Value.int M _)) ?Fa ?Na (fun _ hq => hq) ?ea ?pa ?ma
      case Fa => assumption
      case Na => assumption
      case ea =>
        skip
        funext z
        by_cases g0 : z = Str.ofString "a"
        · subst g0; with_unfolding_all rfl
        by_cases g1 : z = Str.ofString "x"
        · subst g1; with_unfolding_all rfl
        by_cases g2 : z = Str.ofString "key"
        · subst g2; with_unfolding_all rfl
        by_cases g3 : z = Str.ofString "lo"
        · subst g3; with_unfolding_all rfl
        by_cases g4 : z = Str.ofString "hi"
        · subst g4; with_unfolding_all rfl
        by_cases g5 : z = Str.ofString "mid"
        · subst g5; with_unfolding_all rfl
        simp only [if_neg g0, if_neg g1, if_neg g2, if_neg g3, if_neg g4, if_neg g5]
      case ma => dsimp only; omega
      case pa =>
        dsimp only
        exact ⟨by omega, by omega, by omega, hI.2.2.2.1, fun i h1 h2 => by have := hs M i h1 h2; omega⟩
    · refine' wnext ((M + 1, _), (hi1, t2), some (Value.int M _)) ?Fb ?Nb (fun _ hq => hq) ?eb ?pb ?mb
      case Fb => assumption
      case Nb => assumption
      case eb =>
        skip
        funext z
        by_cases g0 : z = Str.ofString "a"
        · subst g0; with_unfolding_all rfl
        by_cases g1 : z = Str.ofString "x"
        · subst g1; with_unfolding_all rfl
        by_cases g2 : z = Str.ofString "key"
        · subst g2; with_unfolding_all rfl
        by_cases g3 : z = Str.ofString "lo"
        · subst g3; with_unfolding_all rfl
        by_cases g4 : z = Str.ofString "hi"
        · subst g4; with_unfolding_all rfl
        by_cases g5 : z = Str.ofString "mid"
        · subst g5; with_unfolding_all rfl
        simp only [if_neg g0, if_neg g1, if_neg g2, if_neg g3, if_neg g4, if_neg g5]
      case mb => dsimp only; omega
      case pb =>
        dsimp only
        exact ⟨by omega, by omega, by omega, fun i h1 => by have := hs i M (by omega) hMt; omega, hI.2.2.2.2⟩
  · k_steps
    exact hret _ _ _ _ (by omega) (by omega) hI.2.2.2.1 (fun i h1 h2 => hI.2.2.2.2 i (by omega) h2) (by assumption) (by assumption)
theorem c_bisL2 {w : World} {p₀ : Program} {loose : List Str} {mean : ExcName → Option Value} {mg mb : Str → Option Value}
  {dp un : Nat} {gd : Option (List Code)} {cn : Str} {cs : Scope} {aa : Addr} {ccd : Value} {cl : List (Str × Addr)} {outer : List Env} {A₀ : Around} {base h₀ : Heap} {L : Addr} {m : Str → Option Value} {news : List (Addr × Obj)} {s : Shared} {Q E : Value → Shared → Prop}
  (B : Below A₀ base outer h₀) (F : Fr h₀ L s.heap m) (X : (hd.heap_39 w.params).In h₀) (N : News h₀ L s.heap news) (T : Top p₀ loose mean mg mb h₀) (hk : cs.kind = .function)
  (hdp : dp + 12 < recursionLimit) (hun : un + 90 < cLine)
  {f r : Addr} {need : List (Addr × Obj)} {g : Int → Int} {ts : List (Addr × Int)} {e : Nat} {x : Int}  {tx : Tok}
  (HK : KeyC w p₀ loose mean mg mb f need g) (hneed : ∀ q ∈ need, q ∈ news) (hrow : (r, rowObj ts e) ∈ news) (hts : ∀ t ∈ ts, ThingAt news t.1 t.2) (hlen : ts.length ≤ 1000)
  (hs : ∀ i j, i ≤ j → j < ts.length → kAt g ts i ≤ kAt g ts j) 
  (hret : ∀ (k : Nat) t h' tk', 0 ≤ k → k ≤ ts.length → (∀ i, i < k → kAt g ts i < x) → (∀ i, k ≤ i → i < ts.length → x ≤ kAt g ts i) → Fr h₀ L h' m → News h₀ L h' news → Q (.int k t) { s with heap := h', toks := tk' }) :
  wpAny (model PySem.Challenge.rw_rs0078_01.row.prog w) (ktrTop dp un gd cn cs L aa ccd cl outer) (call (.ref 76) [.ref r, .int x tx] [(Str.ofString "key", .ref f)]) Q E s := by
  w_top off
  revert X; k_fill; intro X
  obtain ⟨⟨fo, fdat, hfo, hfd⟩, HKc⟩ := HK
  have hfn := hneed _ hfo
  refine wpAny_call ?_
  k_dflt k_enter
  repeat ((fail_if_success (with_reducible show PySem.wpAny _ _ (PySem.call (PySem.Value.builtin "len") _ _) _ _ _)); (first | (k_unfold; (try dsimp only)) | (k_end; kc_close) | walk1 | (dsimp only; walk1) | (leave1; walk_say "STEP leave1"; (try dsimp only))))
  rename News _ _ _ _ => N1
  refine len_list (row_isList N1 hrow) ?_ ?_
  · simp only [List.size_toArray, List.length_map]; omega
  repeat ((fail_if_success (with_reducible show PySem.wpAny _ _ (PySem.exec (PySem.Stmt.While _ _ _ _) _) _ _ _)); (first | (k_unfold; (try dsimp only)) | (k_end; kc_close) | walk1 | (dsimp only; walk1) | (leave1; walk_say "STEP leave1"; (try dsimp only))))
  rename Fr _ _ _ (fun y => if y = Str.ofString "hi" then _ else _) => F1
  rename News _ _ _ _ => N1
  generalize hm0 : (fun y => if y = Str.ofString "hi" then _ else _) = m0 at F1
  have hma : m0 (Str.ofString "a") = some (Value.ref r) := by subst hm0; with_unfolding_all rfl
  have hmx : m0 (Str.ofString "x") = some (Value.int x tx) := by subst hm0; with_unfolding_all rfl
  obtain ⟨tlo, hml⟩ : ∃ t, m0 (Str.ofString "lo") = some (Value.int ((0 : Nat) : Int) t) := ⟨_, by subst hm0; with_unfolding_all rfl⟩
  have hmk : m0 (Str.ofString "key") = some (Value.ref f) := by subst hm0; with_unfolding_all rfl
  obtain ⟨thi, hmh⟩ : ∃ t, m0 (Str.ofString "hi") = some (Value.int (List.map (fun t : Addr × Int => Value.ref t.1) ts).toArray.size t) := ⟨_, by subst hm0; with_unfolding_all rfl⟩
  clear hm0
  have hsz : (List.map (fun t : Addr × Int => Value.ref t.1) ts).toArray.size = ts.length := by simp
  rw [hsz] at hmh
  refine while_G (σ := (Nat × Tok) × (Nat × Tok) × Option Value) (fun c z => if z = Str.ofString "a" then some (Value.ref r) else if z = Str.ofString "x" then some (Value.int x tx) else if z = Str.ofString "key" then some (Value.ref f) else if z = Str.ofString "lo" then some (Value.int c.1.1 c.1.2) else if z = Str.ofString "hi" then some (Value.int c.2.1.1 c.2.1.2) else if z = Str.ofString "mid" then c.2.2 else m0 z)
    (fun c => 0 ≤ c.1.1 ∧ c.1.1 ≤ c.2.1.1 ∧ c.2.1.1 ≤ ts.length ∧ (∀ i, i < c.1.1 → kAt g ts i < x) ∧ (∀ i, c.2.1.1 ≤ i → i < ts.length → x ≤ kAt g ts i)) (fun c => c.2.1.1 - c.1.1) ((0, tlo), (ts.length, thi), m0 (Str.ofString "mid")) F1 N1 ?_ ?_ ?_
  · skip
    funext z
    by_cases g0 : z = Str.ofString "a"
    · subst g0; exact Eq.trans hma (by with_unfolding_all rfl)
    by_cases g1 : z = Str.ofString "x"
    · subst g1; exact Eq.trans hmx (by with_unfolding_all rfl)
    by_cases g2 : z = Str.ofString "key"
    · subst g2; exact Eq.trans hmk (by with_unfolding_all rfl)
    by_cases g3 : z = Str.ofString "lo"
    · subst g3; exact Eq.trans hml (by with_unfolding_all rfl)
    by_cases g4 : z = Str.ofString "hi"
    · subst g4; exact Eq.trans hmh (by with_unfolding_all rfl)
    by_cases g5 : z = Str.ofString "mid"
    · subst g5; exact Eq.trans (rfl : m0 (Str.ofString "mid") = _) (by with_unfolding_all rfl)
    simp only [if_neg g0, if_neg g1, if_neg g2, if_neg g3, if_neg g4, if_neg g5]
  · exact ⟨Nat.le_refl _, Nat.zero_le _, Nat.le_refl _, fun i h => absurd h (Nat.not_lt_zero i), fun i h1 h2 => absurd h2 (by dsimp only at h1; omega)⟩
  rintro ⟨⟨lo1, t1⟩, ⟨hi1, t2⟩, mid1⟩ h tk hI F2 N2
  clear F1 N1 hma hmx hml hmk hmh
  dsimp only at F2 N2 hI ⊢
  try k_fold
  iterate 7 (first | (k_unfold; (try dsimp only)) | (k_end; kc_close) | walk1 | (dsimp only; walk1) | (leave1; walk_say "STEP leave1"; (try dsimp only)))
  · repeat ((fail_if_success (with_reducible show PySem.wpAny _ _ (PySem.callWith _ (PySem.Value.ref _) _ _ _) _ _ _)); (first | (k_unfold; (try dsimp only)) | (k_end; kc_close) | walk1 | (dsimp only; walk1) | (leave1; walk_say "STEP leave1"; (try dsimp only))))
    rename News _ _ _ _ => N9
    refine callWith_F (fnAt_of N9 hfn hfd) ?_
    repeat ((fail_if_success (with_reducible show PySem.wpAny _ _ (PyProof.Rows.subscriptTail _ _ (PySem.Value.ref _) _) _ _ _)); (first | (k_unfold; (try dsimp only)) | (k_end; kc_close) | walk1 | (dsimp only; walk1) | (leave1; walk_say "STEP leave1"; (try dsimp only))))
    have hlt : lo1 < hi1 := by omega
    have hmid : ((lo1 : Int) + (hi1 : Int)).fdiv 2 = (((lo1 + hi1) / 2 : Nat) : Int) := by rw [fd _ _ (by decide)]; omega
    generalize hM : (lo1 + hi1) / 2 = M at hmid
    have hM1 : lo1 ≤ M := by omega
    have hM2 : M < hi1 := by omega
    rw [hmid]
    simp only [hmid] at *
    rename News _ _ _ _ => N3
    have hMt : M < ts.length := by omega
    obtain ⟨t, ht⟩ : ∃ t, ts[M]? = some t := ⟨ts[M], by simp [hMt]⟩
    refine item_list (x := Value.ref t.1) (row_isList N3 hrow) (by omega) (by omega) (by simp [ht]) ?_
    repeat ((fail_if_success (with_reducible show _ ∧ _)); (first | (k_unfold; (try dsimp only)) | (k_end; kc_close) | walk1 | (dsimp only; walk1) | (leave1; walk_say "STEP leave1"; (try dsimp only))))
    refine ⟨fnAt_of N3 hfn hfd, ?_⟩
    try dsimp only [List.nil_append]
    with_unfolding_all refine HKc _ _ _ _ _ _ _ _ _ _ _ _ _ _ _ _ _ _ _ t.2 (by assumption) (by assumption) (by assumption) N3 (by assumption) rfl ?_ ?_ hneed (hts t (List.mem_of_getElem? ht)) ?_
    · simp only [ktrTop] at *; omega
    · simp only [ktrTop] at *; omega
    intro t3 h3 tk3 F3 N4
    have hkM : kAt g ts M = g t.2 := kAt_of ht
    k_steps
    · refine' wnext ((M + 1, _), (hi1, t2), some (Value.int M _)) ?Fa ?Na (fun _ hq => hq) ?ea ?pa ?ma
      case Fa => assumption
      case Na => assumption
      case ea =>
        skip
        funext z
        by_cases g0 : z = Str.ofString "a"
        · subst g0; with_unfolding_all rfl
        by_cases g1 : z = Str.ofString "x"
        · subst g1; with_unfolding_all rfl
        by_cases g2 : z = Str.ofString "key"
        · subst g2; with_unfolding_all rfl
        by_cases g3 : z = Str.ofString "lo"
        · subst g3; with_unfolding_all rfl
        by_cases g4 : z = Str.ofString "hi"
        · subst g4; with_unfolding_all rfl
        by_cases g5 : z = Str.ofString "mid"
        · subst g5; with_unfolding_all rfl
        simp only [if_neg g0, if_neg g1, if_neg g2, if_neg g3, if_neg g4, if_neg g5]
      case ma => dsimp only; omega
      case pa =>
        dsimp only
        exact ⟨by omega, by omega, by omega, fun i h1 => by have := hs i M (by omega) hMt; omega, hI.2.2.2.2⟩
    · refine' wnext ((lo1, t1), (M, _), some (Value.int M _)) ?Fb ?Nb (fun _ hq => hq) ?eb ?pb ?mb
      case Fb => assumption
      case Nb => assumption
      case eb =>
        skip
        funext z
        by_cases g0 : z = Str.ofString "a"
        · subst g0; with_unfolding_all rfl
        by_cases g1 : z = Str.ofString "x"
        · subst g1; with_unfolding_all rfl
        by_cases g2 : z = Str.ofString "key"
        · subst g2; with_unfolding_all rfl
        by_cases g3 : z = Str.ofString "lo"
        · subst g3; with_unfolding_all rfl
        by_cases g4 : z = Str.ofString "hi"
        · subst g4; with_unfolding_all rfl
        by_cases g5 : z = Str.ofString "mid"
        · subst g5; with_unfolding_all rfl
        simp only [if_neg g0, if_neg g1, if_neg g2, if_neg g3, if_neg g4, if_neg g5]
      case mb => dsimp only; omega
      case pb =>
        dsimp only
        exact ⟨by omega, by omega, by omega, hI.2.2.2.1, fun i h1 h2 => by have := hs M i h1 h2; omega⟩
  · k_steps
    exact hret _ _ _ _ (by omega) (by omega) hI.2.2.2.1 (fun i h1 h2 => hI.2.2.2.2 i (by omega) h2) (by assumption) (by assumption)
end
end Mine

namespace Mine
section
theorem c_insort {w : World} {p₀ : Program} {loose : List Str} {mean : ExcName → Option Value} {mg mb : Str → Option Value}
  {dp un : Nat} {gd : Option (List Code)} {cn : Str} {cs : Scope} {aa : Addr} {ccd : Value} {cl : List (Str × Addr)} {outer : List Env} {A₀ : Around} {base h₀ : Heap} {L : Addr} {m : Str → Option Value} {news : List (Addr × Obj)} {s : Shared} {Q E : Value → Shared → Prop}
  (B : Below A₀ base outer h₀) (F : Fr h₀ L s.heap m) (X : (hd.heap_39 w.params).In h₀) (N : News h₀ L s.heap news) (T : Top p₀ loose mean mg mb h₀) (hk : cs.kind = .function)
  (hdp : dp + 16 < recursionLimit) (hun : un + 120 < cLine)
  {f r : Addr} {need : List (Addr × Obj)} {g : Int → Int} {ts : List (Addr × Int)} {e : Nat} {x : Addr} {v : Int} {gL : Obj → List (Addr × Obj)}
  (HK : KeyC w p₀ loose mean mg mb f need g) (hneed : ∀ q ∈ need, q ∈ news) (U : UpdF r (rowObj ts e) news gL) (hts : ∀ t ∈ ts, ThingAt news t.1 t.2) (hx : ThingAt news x v) (hlen : ts.length ≤ 1000)
  (hs : ∀ i j, i ≤ j → j < ts.length → kAt g ts i ≤ kAt g ts j)
  (hret : ∀ (k : Nat) h' tk', k ≤ ts.length → (∀ i, i < k → kAt g ts i ≤ g v) → (∀ i, k ≤ i → i < ts.length → g v < kAt g ts i) → Fr h₀ L h' m → News h₀ L h' (gL (rowObj (ts.take k ++ (x, v) :: ts.drop k) (e + 1))) → Q .none { s with heap := h', toks := tk' }) :
  wpAny (model PySem.Challenge.rw_rs0078_01.row.prog w) (ktrTop dp un gd cn cs L aa ccd cl outer) (call (.ref 58) [.ref r, .ref x] [(Str.ofString "key", .ref f)]) Q E s := by
  w_top off
  revert X; k_fill; intro X
  obtain ⟨⟨fo, fdat, hfo, hfd⟩, HKc⟩ := id HK
  have hfn := hneed _ hfo
  have hrow : (r, rowObj ts e) ∈ news := by
    obtain ⟨own, rest, rfl, _⟩ := U.split
    exact List.mem_append_right _ (.head _)
  refine wpAny_call ?_
  k_dflt k_enter
  repeat ((fail_if_success (with_reducible show PySem.wpAny _ _ (PySem.callWith _ (PySem.Value.ref _) _ _ _) _ _ _)); (first | (k_unfold; (try dsimp only)) | (k_end; kc_close) | walk1 | (dsimp only; walk1) | (leave1; walk_say "STEP leave1"; (try dsimp only))))
  (first | (k_unfold; (try dsimp only)) | (k_end; kc_close) | walk1 | (dsimp only; walk1) | (leave1; walk_say "STEP leave1"; (try dsimp only)))
  repeat ((fail_if_success (with_reducible show PySem.wpAny _ _ (PySem.callWith _ (PySem.Value.ref _) _ _ _) _ _ _)); (first | (k_unfold; (try dsimp only)) | (k_end; kc_close) | walk1 | (dsimp only; walk1) | (leave1; walk_say "STEP leave1"; (try dsimp only))))
  rename News _ _ _ _ => N9
  refine callWith_F (fnAt_of N9 hfn hfd) ?_
  repeat ((fail_if_success (with_reducible show _ ∧ _)); (first | (k_unfold; (try dsimp only)) | (k_end; kc_close) | walk1 | (dsimp only; walk1) | (leave1; walk_say "STEP leave1"; (try dsimp only))))
  rename News _ _ _ _ => N3
  refine ⟨fnAt_of N3 hfn hfd, ?_⟩
  try dsimp only [List.nil_append]
  with_unfolding_all refine HKc _ _ _ _ _ _ _ _ _ _ _ _ _ _ _ _ _ _ _ v (by assumption) (by assumption) (by assumption) N3 (by assumption) rfl ?_ ?_ hneed hx ?_
  · simp only [ktrTop] at *; omega
  · simp only [ktrTop] at *; omega
  intro t3 h3 tk3 F3 N4
  repeat ((fail_if_success (with_reducible show PySem.wpAny _ _ (PySem.call (PySem.Value.ref 67) _ _) _ _ _)); (first | (k_unfold; (try dsimp only)) | (k_end; kc_close) | walk1 | (dsimp only; walk1) | (leave1; walk_say "STEP leave1"; (try dsimp only))))
  with_unfolding_all refine c_bisR4 (lo := 0) (tl := 234) (by assumption) (by assumption) (by assumption) (by assumption) (by assumption) rfl ?_ ?_ HK hneed hrow hts hlen hs (Nat.zero_le _) (fun i hi => absurd hi (Nat.not_lt_zero i)) ?_
  · simp only [ktrTop] at *; omega
  · simp only [ktrTop] at *; omega
  intro k t4 h4 tk4 hk1 hk2 hk3 hk4 F4 N5
  repeat ((fail_if_success (with_reducible show PySem.wpAny _ _ (PySem.call (PySem.Value.builtin "list.insert") _ _) _ _ _)); (first | (k_unfold; (try dsimp only)) | (k_end; kc_close) | walk1 | (dsimp only; walk1) | (leave1; walk_say "STEP leave1"; (try dsimp only))))
  rename Fr _ _ _ _ => F6
  rename News _ _ _ _ => N6
  refine kl_insert (its := (ts.map fun t => Value.ref t.1).toArray) (n := e) (news' := gL (rowObj (ts.take k ++ (x, v) :: ts.drop k) (e + 1))) F6 N6 ?_ (ins_eq hk2) (updF_upd _ U) ?_ ?_
  · simp only [Builtin.List.listFitsIndex, Bool.and_eq_true, decide_eq_true_eq]; omega
  · have : (ts.map fun t => Value.ref t.1).toArray.toList.length = ts.length := by simp
    rw [this, sizeLine_eq]; omega
  intro h7 F7 N7
  k_steps
  exact hret k _ _ hk2 hk3 hk4 (by assumption) (by assumption)
end
end Mine

namespace Mine
section
theorem c_order {w : World} {p₀ : Program} {loose : List Str} {mean : ExcName → Option Value} {mg mb : Str → Option Value} {L f c' : Addr} {oa op oc : Obj} {a P : Int} {ta tP tq : Tok} {vs : Array Value} {qual : Str} {pm ctv : Value}
  (hop : op.data = .cell (some (.int P tP))) (hoa : oa.data = .cell (some (.int a ta))) (hP : P ∈ ([3, 5, 7, 11, 13, 17] : List Int)) (ha : 0 ≤ a ∧ a < 255255)
  (hoc : oc.data = .fields vs) (hvs : vs[1]? = some (.str qual tq)) :
  KeyC w p₀ loose mean mg mb f [(f, lamObj qual [(Str.ofString "p", L + 1 + 1), (Str.ofString "a", L + 1)] pm c' ctv), (c', oc), (L + 1 + 1, op), (L + 1, oa)] (fun v => (a * v).fmod P) := by
  refine ⟨⟨_, _, List.Mem.head _, rfl⟩, ?_⟩
  intro dp un gd cn cs aa ccd cl outer A₀ base h₀ L₁ m news s Q E x v B F X N T hk hdp hun hneed hx hret
  w_top off
  revert X; k_fill; intro X
  have hP3 := mem_six hP
  have h1 := hneed _ (List.Mem.head _)
  have h2 := hneed _ (List.Mem.tail _ (List.Mem.head _))
  have h3 := hneed _ (List.Mem.tail _ (List.Mem.tail _ (List.Mem.head _)))
  have h4 := hneed _ (List.Mem.tail _ (List.Mem.tail _ (List.Mem.tail _ (List.Mem.head _))))
  obtain ⟨dx, hs, tk, t, n, hi1, hi2⟩ := hx
  unfold lamObj lamCode at h1
  dsimp only at h1
  refine wpAny_call ?_
  refine' kla_code ?k1 ?k2 ?k3 ?k4 ?k5 ?kA ?kF ?kK ?k6 ?k7 ?k8 ?k9 ?kB ?_ ?c2 ?c3 ?c4 ?c5
  case kA => exact rfl
  case kF => exact rfl
  case kK => assumption
  case k1 => k_asm
  case k2 => k_asm
  case k3 => k_asm
  case k4 => k_asm
  case k5 => k_asm
  case k6 => exact h1
  case k7 => exact codeRec_news N h2 (by assumption) (by assumption)
  case k8 => (show dp < recursionLimit; omega)
  case k9 => exact rfl
  case c5 => decide
  case kB => exact locs rfl
  case c2 => exact rfl
  case c3 => exact rfl
  case c4 => exact rfl
  intro g' L' h' FG' F' N' B' X' T'
  try dsimp only
  try k_lift B'
  try k_fold
  clear h1 h2
  (first | (k_unfold; (try dsimp only)) | (k_end; kc_close) | walk1 | (dsimp only; walk1) | (leave1; walk_say "STEP leave1"; (try dsimp only)))
  (first | (k_unfold; (try dsimp only)) | (k_end; kc_close) | walk1 | (dsimp only; walk1) | (leave1; walk_say "STEP leave1"; (try dsimp only)))
  refine' nameX_F (c := L + 1) (o := oa) N' ?n1 h4 hoa ?_ ?n2 ?n3 ?n4 ?n5
  case n1 => with_unfolding_all rfl
  case n2 => rfl
  case n3 => with_unfolding_all rfl
  case n4 => decide
  case n5 => decide
  repeat ((fail_if_success (with_reducible show wpAny _ _ (eval (PySem.Expr.Name (Str.ofString "p") _) _) _ _ _)); (first | (k_unfold; (try dsimp only)) | (k_end; kc_close) | walk1 | (dsimp only; walk1) | (leave1; walk_say "STEP leave1"; (try dsimp only))))
  rename News _ _ _ _ => N9
  refine' nameX_F (c := L + 1 + 1) (o := op) N9 ?n6 h3 hop ?_ ?n7 ?n8 ?n9 ?n10
  case n6 => with_unfolding_all rfl
  case n7 => rfl
  case n8 => with_unfolding_all rfl
  case n9 => decide
  case n10 => decide
  k_steps
  exact hret _ _ _ (by assumption) (by assumption)
end
end Mine

namespace Mine
section
theorem partD {w : World} {p₀ : Program} {loose : List Str} {mean : ExcName → Option Value} {mg mb : Str → Option Value}
  {h₀ : Heap} {L fa : Addr} {m0 : Str → Option Value} {news : List (Addr × Obj)} {s : Shared} {Q : Flow → Shared → Prop} {E : Value → Shared → Prop}
  {tl r f : Addr} {a b c P : Int} {ta tb tc tP : Tok} {oa op : Obj} {need : List (Addr × Obj)} {g : Int → Int} {ts rs : List (Addr × Int)} {e e' : Nat}
  (B : Below callerA h₀ [] h₀) (X : (hd.heap_39 w.params).In h₀) (T : Top p₀ loose mean mg mb h₀) (hE : PassesOwn (model PySem.Challenge.rw_rs0078_01.row.prog w) (lawA L fa) (lawEnv L fa) E)
  (F : Fr h₀ L s.heap (fun z => if z = Str.ofString "b" then some (.int b tb) else if z = Str.ofString "c" then some (.int c tc) else if z = Str.ofString "things" then some (.ref tl) else if z = Str.ofString "row" then some (.ref r) else if z = Str.ofString "order" then some (.ref f) else m0 z))
  (N : News h₀ L s.heap ((L + 1 + 1, op) :: (L + 1, oa) :: news))
  (hop : op.data = .cell (some (.int P tP))) (hoa : oa.data = .cell (some (.int a ta)))
  (hP : P ∈ ([3, 5, 7, 11, 13, 17] : List Int)) (ha : 0 ≤ a ∧ a < 255255) (hb : 0 ≤ b ∧ b < 255255) (hc : 0 ≤ c ∧ c < 255255)
  (HK : KeyC w p₀ loose mean mg mb f need g) (hneed : ∀ q ∈ need, q ∈ ((L + 1 + 1, op) :: (L + 1, oa) :: news)) (hthings : (tl, rowObj ts e) ∈ news) (hrow : (r, rowObj rs e') ∈ news) (hts : ∀ t ∈ ts, ThingAt news t.1 t.2) (hrs : ∀ t ∈ rs, ThingAt news t.1 t.2)
  (hlen : rs.length ≤ 1000) (hs : ∀ i j, i ≤ j → j < rs.length → kAt g rs i ≤ kAt g rs j)
  (hcount : (ts.map fun t => (((rs.map fun q => g q.2).count ((c - b * t.2) % P) : Nat) : Int)).sum = due a b c P)
  (htab : ∃ ps, (92, tabObj ps) ∈ news)
  (hret : ∀ h' tk m', Fr h₀ L h' m' → GrownAt 92 h' → Q (.ret (.bool true)) { s with heap := h', toks := tk }) :
  wpAny (model PySem.Challenge.rw_rs0078_01.row.prog w) (lawA L fa) (execs lawCode.1.tailD (lawEnv L fa)) Q E s := by
  w_top off
  revert X; k_fill; intro X
  unfold lawCode
  dsimp only
  repeat ((fail_if_success (with_reducible show PySem.wpAny _ _ (PySem.exec (PySem.Stmt.For _ _ _ _ _) _) _ _ _)); (first | (k_unfold; (try dsimp only)) | (k_end; kc_close) | walk1 | (dsimp only; walk1) | (leave1; walk_say "STEP leave1"; (try dsimp only))))
  rename Fr _ _ _ _ => F1
  rename News _ _ _ _ => N1
  with_unfolding_all refine' For_invVF F1 ?k1 ?k2 ?_ ?k3 hE
  case k1 => exact rfl
  case k2 => exact rfl
  case k3 => intro _; rfl
  (first | (k_unfold; (try dsimp only)) | (k_end; kc_close) | walk1 | (dsimp only; walk1) | (leave1; walk_say "STEP leave1"; (try dsimp only)))
  rename Fr _ _ _ _ => F1
  rename News _ _ _ _ => N1
  refine iter_listJ (fun i m nx => nx = ((L + 1 + 1, op) :: (L + 1, oa) :: news) ∧ ∃ cn t u1 u2 u3, cn = ((ts.take i).map fun t => (((rs.map fun q => g q.2).count ((c - b * t.2) % P) : Nat) : Int)).sum ∧
      m = fun z => if z = Str.ofString "count" then some (Value.int cn t) else if z = Str.ofString "b" then some (.int b tb) else if z = Str.ofString "c" then some (.int c tc) else if z = Str.ofString "things" then some (.ref tl) else if z = Str.ofString "row" then some (.ref r) else if z = Str.ofString "order" then some (.ref f) else if z = Str.ofString "thing" then u1 else if z = Str.ofString "rest" then u2 else if z = Str.ofString "place" then u3 else m0 z)
    rfl (List.Mem.tail _ (List.Mem.tail _ hthings)) F1 N1 ⟨rfl, 0, s.toks, m0 (Str.ofString "thing"), m0 (Str.ofString "rest"), m0 (Str.ofString "place"), rfl, ?_⟩ ?_ ?_
  · skip
    funext z
    by_cases g0 : z = Str.ofString "count"
    · subst g0; with_unfolding_all rfl
    by_cases g1 : z = Str.ofString "b"
    · subst g1; with_unfolding_all rfl
    by_cases g2 : z = Str.ofString "c"
    · subst g2; with_unfolding_all rfl
    by_cases g3 : z = Str.ofString "things"
    · subst g3; with_unfolding_all rfl
    by_cases g4 : z = Str.ofString "row"
    · subst g4; with_unfolding_all rfl
    by_cases g5 : z = Str.ofString "order"
    · subst g5; with_unfolding_all rfl
    by_cases g6 : z = Str.ofString "thing"
    · subst g6; with_unfolding_all rfl
    by_cases g7 : z = Str.ofString "rest"
    · subst g7; with_unfolding_all rfl
    by_cases g8 : z = Str.ofString "place"
    · subst g8; with_unfolding_all rfl
    simp only [if_neg g0, if_neg g1, if_neg g2, if_neg g3, if_neg g4, if_neg g5, if_neg g6, if_neg g7, if_neg g8]
  · rintro i v m₁ nx h tk own I hi hv ⟨rfl, cn, t, u1, u2, u3, hcn, rfl⟩ hnI hown F2 N2
    clear F1 N1
    have hit : i < ts.length := by simpa using hi
    obtain ⟨th, hth⟩ : ∃ th, ts[i]? = some th := ⟨ts[i], by simp [hit]⟩
    have hv' : v = Value.ref th.1 := by
      have e1 : (ts.map fun t => Value.ref t.1).toArray[i]? = some (Value.ref th.1) := by simp [hth]
      rw [hv] at e1
      exact Option.some.inj e1
    subst hv'
    obtain ⟨dx, hs1, tk1, t1, n1, hi1, hi2⟩ := hts th (List.mem_of_getElem? hth)
    have hsub : ∀ q ∈ news, q ∈ news ++ own := fun q hq => List.mem_append_left _ hq
    have hown' : ∀ q ∈ own, q ∈ news ++ own := fun q hq => List.mem_append_right _ hq
    have N3 : News h₀ L h ((L + 1 + 1, op) :: (L + 1, oa) :: (news ++ own)) := N2
    clear N2
    generalize news ++ own = nn at N3 hsub hown'
    replace hi1 := hsub _ hi1
    replace hi2 := hsub _ hi2
    have F3 : Fr h₀ L h (fun y => if y = Str.ofString "thing" then some (Value.ref th.1) else if y = Str.ofString "count" then some (Value.int cn t) else if y = Str.ofString "b" then some (.int b tb) else if y = Str.ofString "c" then some (.int c tc) else if y = Str.ofString "things" then some (.ref tl) else if y = Str.ofString "row" then some (.ref r) else if y = Str.ofString "order" then some (.ref f) else if y = Str.ofString "thing" then u1 else if y = Str.ofString "rest" then u2 else if y = Str.ofString "place" then u3 else m0 y) := F2
    clear F2
    have hP3 := mem_six hP
    try k_fold
    repeat ((fail_if_success (with_reducible show PySem.wpAny _ _ (PySem.call (PySem.Value.ref 76) _ _) _ _ _)); (first | (k_unfold; (try dsimp only)) | (k_end; kc_close) | walk1 | (dsimp only; walk1) | (leave1; walk_say "STEP leave1"; (try dsimp only))))
    have hneed2 : ∀ q ∈ need, q ∈ ((L + 1 + 1, op) :: (L + 1, oa) :: nn) := fun q hq => by
      rcases List.mem_cons.mp (hneed q hq) with e1 | h1
      · exact e1 ▸ List.Mem.head _
      · rcases List.mem_cons.mp h1 with e1 | h1
        · exact e1 ▸ List.Mem.tail _ (List.Mem.head _)
        · exact List.Mem.tail _ (List.Mem.tail _ (hsub q h1))
    have hrow2 : (r, rowObj rs e') ∈ ((L + 1 + 1, op) :: (L + 1, oa) :: nn) := List.Mem.tail _ (List.Mem.tail _ (hsub _ hrow))
    have hrs2 : ∀ t ∈ rs, ThingAt ((L + 1 + 1, op) :: (L + 1, oa) :: nn) t.1 t.2 := fun t ht => (hrs t ht).sub fun q hq => List.Mem.tail _ (List.Mem.tail _ (hsub q hq))
    with_unfolding_all refine c_bisL2 (by assumption) (by assumption) (by assumption) (by assumption) (by assumption) rfl ?_ ?_ HK hneed2 hrow2 hrs2 hlen hs ?_
    · decide
    · decide
    intro k1 tk1' h1 tk1'' hk1a hk1b hk1c hk1d F4 N4
    repeat ((fail_if_success (with_reducible show PySem.wpAny _ _ (PySem.call (PySem.Value.ref 67) _ _) _ _ _)); (first | (k_unfold; (try dsimp only)) | (k_end; kc_close) | walk1 | (dsimp only; walk1) | (leave1; walk_say "STEP leave1"; (try dsimp only))))
    with_unfolding_all refine c_bisR3 (lo := k1) (by assumption) (by assumption) (by assumption) (by assumption) (by assumption) rfl ?_ ?_ HK hneed2 hrow2 hrs2 hlen hs hk1b (fun i hi => Int.le_of_lt (hk1c i hi)) ?_
    · decide
    · decide
    intro k2 tk2' h2 tk2'' hk2a hk2b hk2c hk2d F5 N5
    k_steps
    have hfr : (c - b * th.2).fmod P = (c - b * th.2) % P := fm _ _ (by omega)
    have hcnt : (((rs.map fun q => g q.2).count ((c - b * th.2) % P) : Nat) : Int) = (k2 : Int) - (k1 : Int) := by
      rw [← hfr]
      refine count_eq _ _ k1 k2 hk2a (by simpa using hk2b) (fun i hi => ?_) (fun i h1 h2 => ?_) (fun i h1 h2 => ?_)
      · rw [← kAt_eq g rs i (by omega)]; have := hk1c i hi; omega
      · rw [← kAt_eq g rs i (by omega)]; have := hk1d i h1 (by omega); have := hk2c i h2; omega
      · have h2' : i < rs.length := by simpa using h2
        rw [← kAt_eq g rs i h2']; have := hk2d i h1 h2'; omega
    refine' jnext ((L + 1 + 1, op) :: (L + 1, oa) :: news) ?Fa ?Na ?ha1 ?ha2 ?ha3 ?hJa
    case Fa => assumption
    case Na => assumption
    case ha1 =>
      intro p hp
      rcases List.mem_cons.mp hp with e1 | h1
      · exact e1 ▸ List.Mem.head _
      · rcases List.mem_cons.mp h1 with e1 | h1
        · exact e1 ▸ List.Mem.tail _ (List.Mem.head _)
        · exact List.Mem.tail _ (List.Mem.tail _ (hsub p h1))
    case ha2 => exact fun p hp => List.Mem.tail _ (List.Mem.tail _ (hown' p hp))
    case ha3 => exact fun p hp hI => hnI p hp (List.mem_singleton.mp hI)
    case hJa =>
      refine' ⟨rfl, cn + ((k2 : Int) - (k1 : Int)), _, _, _, _, ?_, ?_⟩
      rotate_right
      · skip
        funext z
        by_cases g0 : z = Str.ofString "count"
        · subst g0; with_unfolding_all rfl
        by_cases g1 : z = Str.ofString "b"
        · subst g1; with_unfolding_all rfl
        by_cases g2 : z = Str.ofString "c"
        · subst g2; with_unfolding_all rfl
        by_cases g3 : z = Str.ofString "things"
        · subst g3; with_unfolding_all rfl
        by_cases g4 : z = Str.ofString "row"
        · subst g4; with_unfolding_all rfl
        by_cases g5 : z = Str.ofString "order"
        · subst g5; with_unfolding_all rfl
        by_cases g6 : z = Str.ofString "thing"
        · subst g6; with_unfolding_all rfl
        by_cases g7 : z = Str.ofString "rest"
        · subst g7; with_unfolding_all rfl
        by_cases g8 : z = Str.ofString "place"
        · subst g8; with_unfolding_all rfl
        simp only [if_neg g0, if_neg g1, if_neg g2, if_neg g3, if_neg g4, if_neg g5, if_neg g6, if_neg g7, if_neg g8]
      · rw [hcn, sum_take_succ _ ts i th hth, hcnt]
  · rintro m₁ nx h tk ⟨rfl, cn, t, u1, u2, u3, hcn, rfl⟩ F2 N2
    clear F1 N1
    have F3 : Fr h₀ L h (fun y => if y = Str.ofString "count" then some (Value.int cn t) else if y = Str.ofString "b" then some (.int b tb) else if y = Str.ofString "c" then some (.int c tc) else if y = Str.ofString "things" then some (.ref tl) else if y = Str.ofString "row" then some (.ref r) else if y = Str.ofString "order" then some (.ref f) else if y = Str.ofString "thing" then u1 else if y = Str.ofString "rest" then u2 else if y = Str.ofString "place" then u3 else m0 y) := F2
    have N3 : News h₀ L h ((L + 1 + 1, op) :: (L + 1, oa) :: news) := N2
    clear F2 N2
    dsimp only
    repeat ((fail_if_success (with_reducible show PySem.wpAny _ _ (PySem.call (PySem.Value.ref 90) _ _) _ _ _)); (first | (k_unfold; (try dsimp only)) | (k_end; kc_close) | walk1 | (dsimp only; walk1) | (leave1; walk_say "STEP leave1"; (try dsimp only))))
    with_unfolding_all refine c_due (by assumption) (by assumption) (by assumption) (by assumption) (by assumption) rfl ?_ ?_ (mem_six hP) ha hb hc ?_
    · decide
    · decide
    intro tk2' h2 tk2'' F5 N5
    k_steps
    have hz : (ts.map fun t => Value.ref t.1).toArray.size = ts.length := by simp
    have hcd : (cn == due a b c P) = true := by
      rw [beq_iff_eq, hcn, hz, List.take_length]; exact hcount
    rw [hcd]
    obtain ⟨ps, htab⟩ := htab
    exact hret _ _ _ F5 (GrownAt.of N5 (List.Mem.tail _ (List.Mem.tail _ htab)))
end
end Mine

namespace Mine
section
theorem partC {w : World} {p₀ : Program} {loose : List Str} {mean : ExcName → Option Value} {mg mb : Str → Option Value}
  {h₀ : Heap} {L fa : Addr} {m0 : Str → Option Value} {objs : List (Addr × Obj)} {s : Shared} {Q : Flow → Shared → Prop} {E : Value → Shared → Prop}
  {tl : Addr} {a b c P : Int} {ta tb tc tP : Tok} {oa op : Obj} {ts : List (Addr × Int)} {e : Nat}
  (B : Below callerA h₀ [] h₀) (X : (hd.heap_39 w.params).In h₀) (T : Top p₀ loose mean mg mb h₀) (C : CodeHd h₀ 94 92) (hE : PassesOwn (model PySem.Challenge.rw_rs0078_01.row.prog w) (lawA L fa) (lawEnv L fa) E)
  (F : Fr h₀ L s.heap (fun z => if z = Str.ofString "b" then some (.int b tb) else if z = Str.ofString "c" then some (.int c tc) else if z = Str.ofString "things" then some (.ref tl) else m0 z))
  (N : News h₀ L s.heap ((L + 1 + 1, op) :: (L + 1, oa) :: (92, tabObj #[]) :: (tl, rowObj ts e) :: objs))
  (hoff : OwnOff objs [L + 1 + 1, L + 1, 92, tl]) (l0 : @LT.lt Nat _ 92 L) (l1 : @LT.lt Nat _ (L + 1 + 1) tl)
  (hop : op.data = .cell (some (.int P tP))) (hoa : oa.data = .cell (some (.int a ta)))
  (hP : P ∈ ([3, 5, 7, 11, 13, 17] : List Int)) (ha : 0 ≤ a ∧ a < 255255) (hb : 0 ≤ b ∧ b < 255255) (hc : 0 ≤ c ∧ c < 255255)
  (hts : ∀ t ∈ ts, ThingAt objs t.1 t.2) (hlen : ts.length ≤ 1000)
  (hcount : (ts.map fun t => (((ts.map fun q => (a * q.2).fmod P).count ((c - b * t.2) % P) : Nat) : Int)).sum = due a b c P)
  (hret : ∀ h' tk m', Fr h₀ L h' m' → GrownAt 92 h' → Q (.ret (.bool true)) { s with heap := h', toks := tk }) :
  wpAny (model PySem.Challenge.rw_rs0078_01.row.prog w) (lawA L fa) (execs lawCode.1.tailC (lawEnv L fa)) Q E s := by
  w_top off
  revert X; k_fill; intro X
  have hP3 := mem_six hP
  unfold lawCode
  dsimp only
  iterate 3 (first | (k_unfold; (try dsimp only)) | (k_end; kc_close) | walk1 | (dsimp only; walk1) | (leave1; walk_say "STEP leave1"; (try dsimp only)))
  rename_i f' c' oc' vs' t' ct' h1 tk1 F1 N1 d1 d2 l2 l3
  have n92 := N1 _ (List.Mem.tail _ (List.Mem.tail _ (List.Mem.tail _ (List.Mem.tail _ (List.Mem.head _)))))
  obtain ⟨ps, n92⟩ : ∃ ps, h1.get? 92 = some (tabObj ps) ∧ 92 ≠ L ∧ h₀.get? 92 = none := ⟨_, n92⟩
  obtain ⟨led, hled⟩ : ∃ led, led = ((f', lamObj ((lawEnv L fa).qual ++ Str.ofString "<lambda>") [(Str.ofString "p", L + 1 + 1), (Str.ofString "a", L + 1)] ((mg (Str.ofString "__name__")).getD .none) c' ct') :: (c', oc') :: (L + 1 + 1, op) :: (L + 1, oa) :: (tl, rowObj ts e) :: (92, tabObj ps) :: objs) := ⟨_, rfl⟩
  have N2 : News h₀ L h1 led := by
    subst hled
    intro p hp
    rcases List.mem_cons.mp hp with e1 | hp
    · rw [e1]; exact N1 _ (List.Mem.head _)
    rcases List.mem_cons.mp hp with e1 | hp
    · rw [e1]; exact N1 _ (List.Mem.tail _ (List.Mem.head _))
    rcases List.mem_cons.mp hp with e1 | hp
    · rw [e1]; exact N1 _ (List.Mem.tail _ (List.Mem.tail _ (List.Mem.head _)))
    rcases List.mem_cons.mp hp with e1 | hp
    · rw [e1]; exact N1 _ (List.Mem.tail _ (List.Mem.tail _ (List.Mem.tail _ (List.Mem.head _))))
    rcases List.mem_cons.mp hp with e1 | hp
    · rw [e1]; exact N1 _ (List.Mem.tail _ (List.Mem.tail _ (List.Mem.tail _ (List.Mem.tail _ (List.Mem.tail _ (List.Mem.head _))))))
    rcases List.mem_cons.mp hp with e1 | hp
    · rw [e1]; exact n92
    · exact N1 _ (List.Mem.tail _ (List.Mem.tail _ (List.Mem.tail _ (List.Mem.tail _ (List.Mem.tail _ (List.Mem.tail _ (hp)))))))
  have HK := c_order (w := w) (p₀ := p₀) (loose := loose) (mean := mean) (mg := mg) (mb := mb) (L := L) (f := f') (c' := c') (pm := (mg (Str.ofString "__name__")).getD .none) (ctv := ct') hop hoa hP ha d1 d2
  have hneed : ∀ q ∈ [(f', lamObj ((lawEnv L fa).qual ++ Str.ofString "<lambda>") [(Str.ofString "p", L + 1 + 1), (Str.ofString "a", L + 1)] ((mg (Str.ofString "__name__")).getD .none) c' ct'), (c', oc'), (L + 1 + 1, op), (L + 1, oa)], q ∈ led := by
    subst hled
    intro q hq
    exact List.mem_append_left ((tl, rowObj ts e) :: (92, tabObj ps) :: objs) hq
  have hledp : (L + 1 + 1, op) ∈ led := hneed _ (List.Mem.tail _ (List.Mem.tail _ (List.Mem.head _)))
  have hleda : (L + 1, oa) ∈ led := hneed _ (List.Mem.tail _ (List.Mem.tail _ (List.Mem.tail _ (List.Mem.head _))))
  have hledt : (tl, rowObj ts e) ∈ led := by subst hled; exact List.Mem.tail _ (List.Mem.tail _ (List.Mem.tail _ (List.Mem.tail _ (List.Mem.head _))))
  have hledo : ∀ q ∈ objs, q ∈ led := by subst hled; exact fun q hq => List.Mem.tail _ (List.Mem.tail _ (List.Mem.tail _ (List.Mem.tail _ (List.Mem.tail _ (List.Mem.tail _ (hq))))))
  have hled92 : (92, tabObj ps) ∈ led := by subst hled; exact List.Mem.tail _ (List.Mem.tail _ (List.Mem.tail _ (List.Mem.tail _ (List.Mem.tail _ (List.Mem.head _)))))
  clear hled N1 N n92
  generalize [(f', lamObj ((lawEnv L fa).qual ++ Str.ofString "<lambda>") [(Str.ofString "p", L + 1 + 1), (Str.ofString "a", L + 1)] ((mg (Str.ofString "__name__")).getD .none) c' ct'), (c', oc'), (L + 1 + 1, op), (L + 1, oa)] = need at HK hneed
  repeat ((fail_if_success (with_reducible show PySem.wpAny _ _ (PySem.exec (PySem.Stmt.For _ _ _ _ _) _) _ _ _)); (first | (k_unfold; (try dsimp only)) | (k_end; kc_close) | walk1 | (dsimp only; walk1) | (leave1; walk_say "STEP leave1"; (try dsimp only))))
  rename_i r _ l4 _ F1 N1
  have hrne : ∀ p ∈ led, p.1 ≠ r := fun p hp => Nat.ne_of_lt (l4 p hp)
  with_unfolding_all refine' For_invVF F1 ?k1 ?k2 ?_ ?k3 hE
  case k1 => exact rfl
  case k2 => exact rfl
  case k3 => intro _; rfl
  (first | (k_unfold; (try dsimp only)) | (k_end; kc_close) | walk1 | (dsimp only; walk1) | (leave1; walk_say "STEP leave1"; (try dsimp only)))
  refine iter_listJ (fun i m nx => ∃ rs e' u, nx = (r, rowObj rs e') :: led ∧ rs.Perm (ts.take i) ∧ (∀ i j, i ≤ j → j < rs.length → kAt (fun v => (a * v).fmod P) rs i ≤ kAt (fun v => (a * v).fmod P) rs j) ∧
      m = fun z => if z = Str.ofString "row" then some (Value.ref r) else if z = Str.ofString "order" then some (Value.ref f') else if z = Str.ofString "b" then some (.int b tb) else if z = Str.ofString "c" then some (.int c tc) else if z = Str.ofString "things" then some (.ref tl) else if z = Str.ofString "thing" then u else m0 z)
    rfl (List.Mem.tail _ hledt) F1 N1 ⟨[], 0, m0 (Str.ofString "thing"), rfl, by simp, fun i j _ hj => absurd hj (Nat.not_lt_zero j), ?_⟩ ?_ ?_
  · skip
    funext z
    by_cases g0 : z = Str.ofString "row"
    · subst g0; with_unfolding_all rfl
    by_cases g1 : z = Str.ofString "order"
    · subst g1; with_unfolding_all rfl
    by_cases g2 : z = Str.ofString "b"
    · subst g2; with_unfolding_all rfl
    by_cases g3 : z = Str.ofString "c"
    · subst g3; with_unfolding_all rfl
    by_cases g4 : z = Str.ofString "things"
    · subst g4; with_unfolding_all rfl
    by_cases g5 : z = Str.ofString "thing"
    · subst g5; with_unfolding_all rfl
    simp only [if_neg g0, if_neg g1, if_neg g2, if_neg g3, if_neg g4, if_neg g5]
  · rintro i v m₁ nx h tk own I hi hv ⟨rs, e', u, rfl, hperm, hsort, rfl⟩ hnI hown F2 N2
    clear F1 N1
    have hit : i < ts.length := by simpa using hi
    obtain ⟨th, hth⟩ : ∃ th, ts[i]? = some th := ⟨ts[i], by simp [hit]⟩
    have hv' : v = Value.ref th.1 := by
      have e1 : (ts.map fun t => Value.ref t.1).toArray[i]? = some (Value.ref th.1) := by simp [hth]
      rw [hv] at e1
      exact Option.some.inj e1
    subst hv'
    have F3 : Fr h₀ L h (fun z => if z = Str.ofString "thing" then some (Value.ref th.1) else if z = Str.ofString "row" then some (Value.ref r) else if z = Str.ofString "order" then some (Value.ref f') else if z = Str.ofString "b" then some (.int b tb) else if z = Str.ofString "c" then some (.int c tc) else if z = Str.ofString "things" then some (.ref tl) else if z = Str.ofString "thing" then u else m0 z) := F2
    have N3 : News h₀ L h ((r, rowObj rs e') :: (led ++ own)) := N2
    clear F2 N2
    have hsub : ∀ q ∈ led, q ∈ led ++ own := fun q hq => List.mem_append_left _ hq
    have hown' : ∀ q ∈ own, q ∈ led ++ own := fun q hq => List.mem_append_right _ hq
    have hne : ∀ p ∈ led ++ own, p.1 ≠ r := by
      intro p hp
      rcases List.mem_append.mp hp with hp | hp
      · exact hrne p hp
      · rcases hown p hp with e1 | e1
        · rw [e1]; exact fun q => hnI _ (List.Mem.head _) q.symm
        · rw [e1]; exact hrne _ hledt
    generalize led ++ own = nn at N3 hsub hown' hne
    have hlenr : rs.length ≤ ts.length := by
      have := hperm.length_eq
      rw [List.length_take] at this; omega
    have hall : ∀ t ∈ rs, t ∈ ts := fun t ht => List.mem_of_mem_take (hperm.mem_iff.mp ht)
    have hmem : ∀ q ∈ objs, q ∈ (r, rowObj rs e') :: nn := fun q hq => List.Mem.tail _ (hsub q (hledo q hq))
    try k_fold
    repeat ((fail_if_success (with_reducible show PySem.wpAny _ _ (PySem.call (PySem.Value.ref 58) _ _) _ _ _)); (first | (k_unfold; (try dsimp only)) | (k_end; kc_close) | walk1 | (dsimp only; walk1) | (leave1; walk_say "STEP leave1"; (try dsimp only))))
    with_unfolding_all refine c_insort (by assumption) (by assumption) (by assumption) (by assumption) (by assumption) rfl ?_ ?_ HK (fun q hq => List.Mem.tail _ (hsub q (hneed q hq))) (UpdF.head hne) (fun t ht => (hts t (hall t ht)).sub hmem) ((hts th (List.mem_of_getElem? hth)).sub hmem) (by omega) hsort ?_
    · decide
    · decide
    intro k h2 tk2 hk1 hk2 hk3 F4 N4
    k_steps
    refine' jnext ((r, rowObj (rs.take k ++ (th.1, th.2) :: rs.drop k) (e' + 1)) :: led) F4 N4 ?ha1 ?ha2 ?ha3 ?hJa
    case ha1 =>
      intro p hp
      rcases List.mem_cons.mp hp with e1 | h1
      · exact e1 ▸ List.Mem.head _
      · exact List.Mem.tail _ (hsub p h1)
    case ha2 => exact fun p hp => List.Mem.tail _ (hown' p hp)
    case ha3 =>
      intro p hp hI
      rcases List.mem_cons.mp hp with e1 | h1
      · subst e1; exact hnI _ (List.Mem.head _) (List.mem_singleton.mp hI)
      · exact hnI p (List.Mem.tail _ h1) (List.mem_singleton.mp hI)
    case hJa =>
      refine' ⟨_, _, some (Value.ref th.1), rfl, perm_ins hperm hth, sorted_ins _ rs k th.1 th.2 hk1 hsort hk2 hk3, ?_⟩
      funext z
      by_cases g0 : z = Str.ofString "row"
      · subst g0; with_unfolding_all rfl
      by_cases g1 : z = Str.ofString "order"
      · subst g1; with_unfolding_all rfl
      by_cases g2 : z = Str.ofString "b"
      · subst g2; with_unfolding_all rfl
      by_cases g3 : z = Str.ofString "c"
      · subst g3; with_unfolding_all rfl
      by_cases g4 : z = Str.ofString "things"
      · subst g4; with_unfolding_all rfl
      by_cases g5 : z = Str.ofString "thing"
      · subst g5; with_unfolding_all rfl
      simp only [if_neg g0, if_neg g1, if_neg g2, if_neg g3, if_neg g4, if_neg g5]
  · rintro m₁ nx h tk ⟨rs, e', u, rfl, hperm, hsort, rfl⟩ F2 N2
    clear F1 N1
    dsimp only
    have F3 : Fr h₀ L h (fun z => if z = Str.ofString "b" then some (.int b tb) else if z = Str.ofString "c" then some (.int c tc) else if z = Str.ofString "things" then some (.ref tl) else if z = Str.ofString "row" then some (.ref r) else if z = Str.ofString "order" then some (.ref f') else (fun z => if z = Str.ofString "thing" then u else m0 z) z) := by
      have e1 : (fun z => if z = Str.ofString "b" then some (.int b tb) else if z = Str.ofString "c" then some (.int c tc) else if z = Str.ofString "things" then some (.ref tl) else if z = Str.ofString "row" then some (.ref r) else if z = Str.ofString "order" then some (.ref f') else (fun z => if z = Str.ofString "thing" then u else m0 z) z) = (fun z => if z = Str.ofString "row" then some (Value.ref r) else if z = Str.ofString "order" then some (Value.ref f') else if z = Str.ofString "b" then some (.int b tb) else if z = Str.ofString "c" then some (.int c tc) else if z = Str.ofString "things" then some (.ref tl) else if z = Str.ofString "thing" then u else m0 z) := by
        funext z
        by_cases g0 : z = Str.ofString "row"
        · subst g0; with_unfolding_all rfl
        by_cases g1 : z = Str.ofString "order"
        · subst g1; with_unfolding_all rfl
        by_cases g2 : z = Str.ofString "b"
        · subst g2; with_unfolding_all rfl
        by_cases g3 : z = Str.ofString "c"
        · subst g3; with_unfolding_all rfl
        by_cases g4 : z = Str.ofString "things"
        · subst g4; with_unfolding_all rfl
        by_cases g5 : z = Str.ofString "thing"
        · subst g5; with_unfolding_all rfl
        simp only [if_neg g0, if_neg g1, if_neg g2, if_neg g3, if_neg g4, if_neg g5]
      rw [e1]; exact F2
    have N3 : News h₀ L h ((L + 1 + 1, op) :: (L + 1, oa) :: (r, rowObj rs e') :: led) := by
      intro p hp
      refine N2 p ?_
      rcases List.mem_cons.mp hp with e1 | hp
      · exact e1 ▸ List.Mem.tail _ hledp
      rcases List.mem_cons.mp hp with e1 | hp
      · exact e1 ▸ List.Mem.tail _ hleda
      · exact hp
    clear F2 N2
    have hz : (ts.map fun t => Value.ref t.1).toArray.size = ts.length := by simp
    rw [hz, List.take_length] at hperm
    have hlenr := hperm.length_eq
    refine partD (g := fun v => (a * v).fmod P) (rs := rs) (ts := ts) (e := e) B X T hE F3 N3 hop hoa hP ha hb hc HK ?_ ?_ (List.Mem.head _) ?_ ?_ ?_ hsort ?_ ⟨ps, List.Mem.tail _ hled92⟩ ?_
    · exact fun q hq => List.Mem.tail _ (List.Mem.tail _ (List.Mem.tail _ (hneed q hq)))
    · exact List.Mem.tail _ hledt
    · exact fun t ht => (hts t ht).sub fun q hq => List.Mem.tail _ (hledo q hq)
    · exact fun t ht => (hts t (hperm.mem_iff.mp ht)).sub fun q hq => List.Mem.tail _ (hledo q hq)
    · omega
    · rw [← hcount]
      congr 1
      refine List.map_congr_left fun t _ => ?_
      rw [count_perm (fun q => (a * q.2).fmod P) hperm]
    · exact fun h' tk m' F9 G9 => hret h' tk m' F9 G9
end
end Mine

namespace Mine
section
def frB (b c : Int) (tb tc : Tok) (tl sl : Addr) (u1 u2 u3 u4 : Option Value) (m0 : Str → Option Value) : Str → Option Value := fun z => if z = Str.ofString "b" then some (Value.int b tb) else if z = Str.ofString "c" then some (.int c tc) else if z = Str.ofString "things" then some (.ref tl) else if z = Str.ofString "script" then some (.ref sl) else if z = Str.ofString "k" then u1 else if z = Str.ofString "wide" then u2 else if z = Str.ofString "value" then u3 else if z = Str.ofString "thing" then u4 else m0 z
def JB (L tl : Addr) (op oa : Obj) (P : Int) (G : Option Value → Option Value → Option Value → Option Value → Str → Option Value) (i : Nat) (m : Str → Option Value) (nx : List (Addr × Obj)) : Prop :=
  ∃ ts objs e u1 u2 u3 u4, nx = (L + 1 + 1, op) :: (L + 1, oa) :: (92, tabObj #[]) :: (tl, rowObj ts e) :: objs ∧ ts.length = i ∧ (∀ t ∈ ts, ThingAt objs t.1 t.2) ∧ (∀ j, j < i → ((ts.map (·.2)).getD j 0) % P = ((j : Int) * (j : Int)) % P) ∧ OwnOff objs [L + 1 + 1, L + 1, 92, tl] ∧ m = G u1 u2 u3 u4
theorem turnB {h₀ h' : Heap} {L tl I x' d' : Addr} {op oa : Obj} {P W : Int} {G : Option Value → Option Value → Option Value → Option Value → Str → Option Value} {i e n' : Nat} {m' : Str → Option Value} {ts : List (Addr × Int)} {objs own oo : List (Addr × Obj)} {hs : Int} {tk' t' : Tok} {s₁ : Shared} {tk : Nat} {Q : Flow → Shared → Prop} {u1 u2 u3 u4 : Option Value}
    (F : Fr h₀ L h' m') (N : News h₀ L h' ((x', instObj 45 d') :: (d', dictOf [⟨hs, .str (Str.ofString "val") tk', .int W t'⟩] n') :: (L + 1 + 1, op) :: (L + 1, oa) :: (92, tabObj #[]) :: (tl, PySem.W.listOf ((ts.map fun t => Value.ref t.1).toArray.push (Value.ref x')) (e + 1)) :: oo))
    (hlt : @LT.lt Nat _ (L + 1 + 1) d' ∧ @LT.lt Nat _ (L + 1) d' ∧ @LT.lt Nat _ 92 d' ∧ @LT.lt Nat _ tl d' ∧ AllLt d' oo) (hdx : @LT.lt Nat _ d' x')
    (hlen : ts.length = i) (hts : ∀ t ∈ ts, ThingAt objs t.1 t.2) (hsq : ∀ j, j < i → ((ts.map (·.2)).getD j 0) % P = ((j : Int) * (j : Int)) % P) (hoff : OwnOff objs [L + 1 + 1, L + 1, 92, tl])
    (hW : W % P = ((i : Int) * (i : Int)) % P) (hsub : ∀ q ∈ objs, q ∈ oo) (hown : ∀ q ∈ own, q ∈ oo) (hIo : ∃ o, (I, o) ∈ own) (hnI : ∀ p ∈ (L + 1 + 1, op) :: (L + 1, oa) :: (92, tabObj #[]) :: (tl, rowObj ts e) :: objs, p.1 ≠ I)
    (hm : m' = G u1 u2 u3 u4) : JPost h₀ L [I] (JB L tl op oa P G (i + 1)) own s₁ Q .next { s₁ with heap := h', toks := tk } := by
  obtain ⟨l1, l2, l3, l4, l5⟩ := hlt
  obtain ⟨o, ho⟩ := hIo
  have hId : @LT.lt Nat _ I d' := tb_ltOf l5 _ (hown _ ho)
  have er : PySem.W.listOf ((ts.map fun t => Value.ref t.1).toArray.push (Value.ref x')) (e + 1) = rowObj (ts ++ [(x', W)]) (e + 1) := by
    simp [rowObj]
  rw [er] at N
  refine jnext ((L + 1 + 1, op) :: (L + 1, oa) :: (92, tabObj #[]) :: (tl, rowObj (ts ++ [(x', W)]) (e + 1)) :: (x', instObj 45 d') :: (d', dictOf [⟨hs, .str (Str.ofString "val") tk', .int W t'⟩] n') :: objs) F N ?_ ?_ ?_ ?_
  · intro p hp
    simp only [List.mem_cons] at hp ⊢
    rcases hp with h | h | h | h | h | h | h
    · exact .inr (.inr (.inl h))
    · exact .inr (.inr (.inr (.inl h)))
    · exact .inr (.inr (.inr (.inr (.inl h))))
    · exact .inr (.inr (.inr (.inr (.inr (.inl h)))))
    · exact .inl h
    · exact .inr (.inl h)
    · exact .inr (.inr (.inr (.inr (.inr (.inr (hsub p h))))))
  · intro p hp
    simp only [List.mem_cons]
    exact .inr (.inr (.inr (.inr (.inr (.inr (hown p hp))))))
  · intro p hp hI
    have hI := List.mem_singleton.mp hI
    simp only [List.mem_cons] at hp
    rcases hp with h | h | h | h | h | h | h
    · exact hnI (L + 1 + 1, op) (List.Mem.head _) (by rw [← hI, h])
    · exact hnI (L + 1, oa) (List.Mem.tail _ (List.Mem.head _)) (by rw [← hI, h])
    · exact hnI (92, tabObj #[]) (List.Mem.tail _ (List.Mem.tail _ (List.Mem.head _))) (by rw [← hI, h])
    · exact hnI (tl, rowObj ts e) (List.Mem.tail _ (List.Mem.tail _ (List.Mem.tail _ (List.Mem.head _)))) (by rw [← hI, h])
    · have : x' = I := by rw [← hI, h]
      exact absurd (Nat.lt_trans hId hdx) (by rw [this]; exact Nat.lt_irrefl _)
    · have : d' = I := by rw [← hI, h]
      exact absurd hId (by rw [this]; exact Nat.lt_irrefl _)
    · exact hnI p (List.Mem.tail _ (List.Mem.tail _ (List.Mem.tail _ (List.Mem.tail _ h)))) hI
  · refine ⟨ts ++ [(x', W)], _, e + 1, u1, u2, u3, u4, rfl, by simp [hlen], ?_, ?_, ?_, hm⟩
    · intro t ht
      rcases List.mem_append.mp ht with ht | ht
      · exact (hts t ht).sub fun q hq => List.Mem.tail _ (List.Mem.tail _ hq)
      · obtain rfl := List.mem_singleton.mp ht
        exact ⟨d', hs, tk', t', n', List.Mem.head _, List.Mem.tail _ (List.Mem.head _)⟩
    · intro j hj
      rw [List.map_append, List.getD_eq_getElem?_getD]
      by_cases hji : j < i
      · rw [List.getElem?_append_left (by simpa [hlen] using hji)]
        have := hsq j hji
        rwa [List.getD_eq_getElem?_getD] at this
      · have e1 : j = i := by omega
        subst e1
        rw [List.getElem?_append_right (by simp [hlen])]
        simpa [hlen] using hW
    · intro p hp b' hb'
      have hb2 : @LT.lt Nat _ b' d' := by
        simp only [List.mem_cons, List.not_mem_nil, or_false] at hb'
        rcases hb' with rfl | rfl | rfl | rfl <;> assumption
      simp only [List.mem_cons] at hp
      rcases hp with h | h | h
      · subst h; exact Nat.ne_of_gt (Nat.lt_trans hb2 hdx)
      · subst h; exact Nat.ne_of_gt hb2
      · exact hoff p h b' hb'
theorem partB {w : World} {p₀ : Program} {loose : List Str} {mean : ExcName → Option Value} {mg mb : Str → Option Value}
  {h₀ : Heap} {L fa : Addr} {m0 : Str → Option Value} {s : Shared} {Q : Flow → Shared → Prop} {E : Value → Shared → Prop}
  {tl sl : Addr} {a b c P : Int} {ta tb tc tP : Tok} {oa op : Obj} {vs : List Value} {ns : List Int}
  (B : Below callerA h₀ [] h₀) (X : (hd.heap_39 w.params).In h₀) (T : Top p₀ loose mean mg mb h₀) (C : CodeHd h₀ 94 92) (hE : PassesOwn (model PySem.Challenge.rw_rs0078_01.row.prog w) (lawA L fa) (lawEnv L fa) E)
  (F : Fr h₀ L s.heap (fun z => if z = Str.ofString "b" then some (.int b tb) else if z = Str.ofString "c" then some (.int c tc) else if z = Str.ofString "things" then some (.ref tl) else if z = Str.ofString "script" then some (.ref sl) else m0 z))
  (N : News h₀ L s.heap [(L + 1 + 1, op), (L + 1, oa), (92, tabObj #[]), (tl, rowObj [] 0)])
  (l0 : @LT.lt Nat _ 92 L) (l1 : @LT.lt Nat _ (L + 1 + 1) tl)
  (hop : op.data = .cell (some (.int P tP))) (hoa : oa.data = .cell (some (.int a ta)))
  (hP : P ∈ ([3, 5, 7, 11, 13, 17] : List Int)) (ha : 0 ≤ a ∧ a < 255255) (hb : 0 ≤ b ∧ b < 255255) (hc : 0 ≤ c ∧ c < 255255)
  (hsl : h₀.IsList sl vs.toArray) (hI : IntsAre vs ns) (hns : ns.length ≤ 63)
  (hret : ∀ h' tk m', Fr h₀ L h' m' → GrownAt 92 h' → Q (.ret (.bool true)) { s with heap := h', toks := tk }) :
  wpAny (model PySem.Challenge.rw_rs0078_01.row.prog w) (lawA L fa) (execs lawCode.1.tailB (lawEnv L fa)) Q E s := by
  w_top off
  revert X; k_fill; intro X
  have hP3 := mem_six hP
  unfold lawCode
  dsimp only
  repeat ((fail_if_success (with_reducible show PySem.wpAny _ _ (PySem.exec (PySem.Stmt.For _ _ _ _ _) _) _ _ _)); (first | (k_unfold; (try dsimp only)) | (k_end; kc_close) | walk1 | (dsimp only; walk1) | (leave1; walk_say "STEP leave1"; (try dsimp only))))
  rename Fr _ _ _ _ => F1
  with_unfolding_all refine' For_invVF F1 ?k1 ?k2 ?_ ?k3 hE
  case k1 => exact rfl
  case k2 => exact rfl
  case k3 => intro _; rfl
  repeat ((fail_if_success (with_reducible show wpAny _ _ (pyIter (Value.ref _)) _ _ _)); (first | (k_unfold; (try dsimp only)) | (k_end; kc_close) | walk1 | (dsimp only; walk1) | (leave1; walk_say "STEP leave1"; (try dsimp only))))
  rename IsRange _ _ _ _ _ _ _ _ => hR
  rename Fr _ _ _ _ => F1
  rename News _ _ _ _ => N1
  refine iter_rangeJ (n := P.toNat) (JB L tl op oa P fun u1 u2 u3 u4 => frB b c tb tc tl sl u1 u2 u3 u4 m0)
    rfl hR (small_six hP) (size_six hP) F1 N1 ⟨[], [], 0, m0 (Str.ofString "k"), m0 (Str.ofString "wide"), m0 (Str.ofString "value"), m0 (Str.ofString "thing"), rfl, rfl, by simp, by simp, (fun _ h => nomatch h), ?_⟩ ?_ ?_
  · show _ = frB b c tb tc tl sl _ _ _ _ m0
    unfold frB
    funext z
    by_cases g0 : z = Str.ofString "b"
    · subst g0; with_unfolding_all rfl
    by_cases g1 : z = Str.ofString "c"
    · subst g1; with_unfolding_all rfl
    by_cases g2 : z = Str.ofString "things"
    · subst g2; with_unfolding_all rfl
    by_cases g3 : z = Str.ofString "script"
    · subst g3; with_unfolding_all rfl
    by_cases g4 : z = Str.ofString "k"
    · subst g4; with_unfolding_all rfl
    by_cases g5 : z = Str.ofString "wide"
    · subst g5; with_unfolding_all rfl
    by_cases g6 : z = Str.ofString "value"
    · subst g6; with_unfolding_all rfl
    by_cases g7 : z = Str.ofString "thing"
    · subst g7; with_unfolding_all rfl
    simp only [if_neg g0, if_neg g1, if_neg g2, if_neg g3, if_neg g4, if_neg g5, if_neg g6, if_neg g7]
  · rintro i t m₁ nx h tk own I hi ⟨ts, objs, e, u1, u2, u3, u4, rfl, hlen, hts, hsq, hoff, rfl⟩ hnI hown hIo F2 N2
    clear F1 N1 hR
    have F3 : Fr h₀ L h (fun z => if z = Str.ofString "k" then some (Value.int (i : Nat) t) else if z = Str.ofString "b" then some (Value.int b tb) else if z = Str.ofString "c" then some (.int c tc) else if z = Str.ofString "things" then some (.ref tl) else if z = Str.ofString "script" then some (.ref sl) else if z = Str.ofString "k" then u1 else if z = Str.ofString "wide" then u2 else if z = Str.ofString "value" then u3 else if z = Str.ofString "thing" then u4 else m0 z) := F2
    have N3 : News h₀ L h ((L + 1 + 1, op) :: (L + 1, oa) :: (92, tabObj #[]) :: (tl, rowObj ts e) :: (objs ++ own)) := N2
    clear F2 N2
    have hsub : ∀ q ∈ objs, q ∈ objs ++ own := fun q hq => List.mem_append_left _ hq
    have hown' : ∀ q ∈ own, q ∈ objs ++ own := fun q hq => List.mem_append_right _ hq
    have hoff2 : OwnOff (objs ++ own) [L + 1 + 1, L + 1, 92, tl] := by
      intro p hp b' hb'
      rcases List.mem_append.mp hp with hp | hp
      · exact hoff p hp b' hb'
      · rw [hown p hp]
        simp only [List.mem_cons, List.not_mem_nil, or_false] at hb'
        rcases hb' with rfl | rfl | rfl | rfl
        · exact fun q => hnI _ (List.Mem.head _) q.symm
        · exact fun q => hnI _ (List.Mem.tail _ (List.Mem.head _)) q.symm
        · exact fun q => hnI _ (List.Mem.tail _ (List.Mem.tail _ (List.Mem.head _))) q.symm
        · exact fun q => hnI _ (List.Mem.tail _ (List.Mem.tail _ (List.Mem.tail _ (List.Mem.head _)))) q.symm
    generalize objs ++ own = oo at N3 hsub hown' hoff2
    have hi17 : (i : Int) < P := by omega
    have hi0 : (0 : Int) ≤ (i : Int) := Int.natCast_nonneg i
    try k_fold
    iterate 2 (first | (k_unfold; (try dsimp only)) | (k_end; kc_close) | walk1 | (dsimp only; walk1) | (leave1; walk_say "STEP leave1"; (try dsimp only)))
    refine wpAny_mono (Q := fun v s' => ∃ wd t1 tk1, v = Value.int wd t1 ∧ -500000000 ≤ wd ∧ wd ≤ 500000000 ∧ s' = { s with heap := h, toks := tk1 }) ?_ ?_ (fun _ _ x => x)
    · iterate 30 (first | (k_unfold; (try dsimp only)) | (k_end; kc_close) | walk1 | (dsimp only; walk1) | (leave1; walk_say "STEP leave1"; (try dsimp only)))
      · refine mul_int ?_ (IntMulOk.of_left (intBits_le_64 (by decide) (by decide)))
        (first | (k_unfold; (try dsimp only)) | (k_end; kc_close) | walk1 | (dsimp only; walk1) | (leave1; walk_say "STEP leave1"; (try dsimp only)))
        refine ⟨_, _, _, rfl, ?_, ?_, rfl⟩
        · show (-500000000 : Int) ≤ Int.fmod _ 1000000000 - 500000000
          rw [fm _ _ (by decide)]; omega
        · show Int.fmod _ 1000000000 - 500000000 ≤ (500000000 : Int)
          rw [fm _ _ (by decide)]; omega
      · (first | (k_unfold; (try dsimp only)) | (k_end; kc_close) | walk1 | (dsimp only; walk1) | (leave1; walk_say "STEP leave1"; (try dsimp only)))
        exact ⟨0, _, _, rfl, by decide, by decide, rfl⟩
    rintro v s' ⟨wd, t1, tk1, rfl, hw1, hw2, rfl⟩
    repeat ((fail_if_success (with_reducible show wpAny _ _ (storeName _ (Str.ofString "value") _) _ _ _)); (first | (k_unfold; (try dsimp only)) | (k_end; kc_close) | walk1 | (dsimp only; walk1) | (leave1; walk_say "STEP leave1"; (try dsimp only))))
    obtain ⟨hV1, hV2⟩ := val_bd hP hw1 hw2 hi0 hi17
    have hVs := val_sq (P := P) (wd := wd) (i := (i : Int))
    generalize (i : Int) + P * wd = V at hV1 hV2 hVs ⊢
    clear hw1 hw2
    repeat ((fail_if_success (with_reducible show wpAny _ _ (binaryOp PySem.Operator.Pow _ _) _ _ _)); (first | (k_unfold; (try dsimp only)) | (k_end; kc_close) | walk1 | (dsimp only; walk1) | (leave1; walk_say "STEP leave1"; (try dsimp only))))
    refine pow_int_small (by decide) (by decide) (by omega) ?_
    rw [pow_two_toNat]
    have hsv := sq_eq V
    generalize V * V = W at hVs hsv ⊢
    repeat ((fail_if_success (with_reducible show wpAny _ _ (compareOp PySem.CmpOp.NotEq _ _) _ _ _)); (first | (k_unfold; (try dsimp only)) | (k_end; kc_close) | walk1 | (dsimp only; walk1) | (leave1; walk_say "STEP leave1"; (try dsimp only))))
    rw [hsv]
    iterate 2 (first | (k_unfold; (try dsimp only)) | (k_end; kc_close) | walk1 | (dsimp only; walk1) | (leave1; walk_say "STEP leave1"; (try dsimp only)))
    rw [if_neg (by simp)]
    k_steps
    rename Fr _ _ _ _ => F9
    rename News _ _ _ _ => N9
    refine' turnB F9 N9 ?hl ?hd hlen hts hsq hoff hVs hsub hown' hIo hnI ?hm
    case hl => assumption
    case hd => assumption
    case hm =>
      show _ = frB b c tb tc tl sl _ _ _ _ m0
      unfold frB
      funext z
      by_cases g0 : z = Str.ofString "b"
      · subst g0; with_unfolding_all rfl
      by_cases g1 : z = Str.ofString "c"
      · subst g1; with_unfolding_all rfl
      by_cases g2 : z = Str.ofString "things"
      · subst g2; with_unfolding_all rfl
      by_cases g3 : z = Str.ofString "script"
      · subst g3; with_unfolding_all rfl
      by_cases g4 : z = Str.ofString "k"
      · subst g4; with_unfolding_all rfl
      by_cases g5 : z = Str.ofString "wide"
      · subst g5; with_unfolding_all rfl
      by_cases g6 : z = Str.ofString "value"
      · subst g6; with_unfolding_all rfl
      by_cases g7 : z = Str.ofString "thing"
      · subst g7; with_unfolding_all rfl
      simp only [if_neg g0, if_neg g1, if_neg g2, if_neg g3, if_neg g4, if_neg g5, if_neg g6, if_neg g7]
  · rintro m₁ nx h tk ⟨ts, objs, e, u1, u2, u3, u4, rfl, hlen, hts, hsq, hoff, rfl⟩ F2 N2
    clear F1 N1 hR
    dsimp only
    have F3 : Fr h₀ L h (fun z => if z = Str.ofString "b" then some (.int b tb) else if z = Str.ofString "c" then some (.int c tc) else if z = Str.ofString "things" then some (.ref tl) else (fun z => if z = Str.ofString "script" then some (.ref sl) else if z = Str.ofString "k" then u1 else if z = Str.ofString "wide" then u2 else if z = Str.ofString "value" then u3 else if z = Str.ofString "thing" then u4 else m0 z) z) := F2
    have N3 : News h₀ L h ((L + 1 + 1, op) :: (L + 1, oa) :: (92, tabObj #[]) :: (tl, rowObj ts e) :: objs) := N2
    clear F2 N2
    have hl17 : ts.length ≤ 1000 := by omega
    exact partC B X T C hE F3 N3 hoff l0 l1 hop hoa hP ha hb hc hts hl17 (count_law hP ha hb hc hlen hsq) (fun h' tk m' F9 G9 => hret h' tk m' F9 G9)
end
end Mine

namespace Mine
section
theorem partA2 {w : World} {p₀ : Program} {loose : List Str} {mean : ExcName → Option Value} {mg mb : Str → Option Value}
  {h₀ : Heap} {L fa : Addr} {m0 : Str → Option Value} {s : Shared} {Q : Flow → Shared → Prop} {E : Value → Shared → Prop}
  {tl fi sl : Addr} {a b c P : Int} {ta tb tc tP : Tok} {oa op : Obj} {vs : List Value} {ns : List Int} {news : List (Addr × Obj)}
  (B : Below callerA h₀ [] h₀) (X : (hd.heap_39 w.params).In h₀) (T : Top p₀ loose mean mg mb h₀) (C : CodeHd h₀ 94 92) (hE : PassesOwn (model PySem.Challenge.rw_rs0078_01.row.prog w) (lawA L fa) (lawEnv L fa) E)
  (F : Fr h₀ L s.heap (fun y => if y = Str.ofString "things" then some (Value.ref tl) else if y = Str.ofString "c" then some (.int c tc) else if y = Str.ofString "b" then some (.int b tb) else if y = Str.ofString "firsts" then some (.ref fi) else (fun z => if z = Str.ofString "script" then some (.ref sl) else m0 z) y))
  (N : News h₀ L s.heap ((tl, rowObj [] 0) :: news))
  (n1 : (L + 1 + 1, op) ∈ news) (n2 : (L + 1, oa) ∈ news) (n3 : (92, tabObj #[]) ∈ news)
  (l0 : @LT.lt Nat _ 92 L) (l1 : @LT.lt Nat _ (L + 1 + 1) tl)
  (hop : op.data = .cell (some (.int P tP))) (hoa : oa.data = .cell (some (.int a ta)))
  (hP : P ∈ ([3, 5, 7, 11, 13, 17] : List Int)) (ha : 0 ≤ a ∧ a < 255255) (hb : 0 ≤ b ∧ b < 255255) (hc : 0 ≤ c ∧ c < 255255)
  (hsl : h₀.IsList sl vs.toArray) (hI : IntsAre vs ns) (hns : ns.length ≤ 63)
  (hret : ∀ h' tk m', Fr h₀ L h' m' → GrownAt 92 h' → Q (.ret (.bool true)) { s with heap := h', toks := tk }) :
  wpAny (model PySem.Challenge.rw_rs0078_01.row.prog w) (lawA L fa) (execs lawCode.1.tailB (lawEnv L fa)) Q E s := by
  have F9 : Fr h₀ L s.heap (fun z => if z = Str.ofString "b" then some (.int b tb) else if z = Str.ofString "c" then some (.int c tc) else if z = Str.ofString "things" then some (.ref tl) else if z = Str.ofString "script" then some (.ref sl) else (fun z => if z = Str.ofString "firsts" then some (Value.ref fi) else m0 z) z) := by
    have e : (fun y => if y = Str.ofString "things" then some (Value.ref tl) else if y = Str.ofString "c" then some (.int c tc) else if y = Str.ofString "b" then some (.int b tb) else if y = Str.ofString "firsts" then some (.ref fi) else (fun z => if z = Str.ofString "script" then some (.ref sl) else m0 z) y) = (fun z => if z = Str.ofString "b" then some (.int b tb) else if z = Str.ofString "c" then some (.int c tc) else if z = Str.ofString "things" then some (.ref tl) else if z = Str.ofString "script" then some (.ref sl) else (fun z => if z = Str.ofString "firsts" then some (Value.ref fi) else m0 z) z) := by
      funext z
      by_cases g0 : z = Str.ofString "b"
      · subst g0; with_unfolding_all rfl
      by_cases g1 : z = Str.ofString "c"
      · subst g1; with_unfolding_all rfl
      by_cases g2 : z = Str.ofString "things"
      · subst g2; with_unfolding_all rfl
      by_cases g3 : z = Str.ofString "script"
      · subst g3; with_unfolding_all rfl
      by_cases g4 : z = Str.ofString "firsts"
      · subst g4; with_unfolding_all rfl
      simp only [if_neg g0, if_neg g1, if_neg g2, if_neg g3, if_neg g4]
    exact e ▸ F
  refine partB B X T C hE F9 (fun p hp => N p ?_) l0 l1 hop hoa hP ha hb hc hsl hI hns hret
  rcases List.mem_cons.mp hp with e2 | hp
  · exact e2 ▸ List.Mem.tail _ n1
  rcases List.mem_cons.mp hp with e2 | hp
  · exact e2 ▸ List.Mem.tail _ n2
  rcases List.mem_cons.mp hp with e2 | hp
  · exact e2 ▸ List.Mem.tail _ n3
  rcases List.mem_cons.mp hp with e2 | hp
  · exact e2 ▸ List.Mem.head _
  · exact absurd hp (by simp)
theorem partA {w : World} {p₀ : Program} {loose : List Str} {mean : ExcName → Option Value} {mg mb : Str → Option Value}
  {h₀ : Heap} {L fa : Addr} {m0 : Str → Option Value} {s : Shared} {Q : Flow → Shared → Prop} {E : Value → Shared → Prop}
  {sl : Addr} {oa op : Obj} {va vp : Option Value} {vs : List Value} {ns : List Int}
  (B : Below callerA h₀ [] h₀) (X : (hd.heap_39 w.params).In h₀) (T : Top p₀ loose mean mg mb h₀) (C : CodeHd h₀ 94 92) (hE : PassesOwn (model PySem.Challenge.rw_rs0078_01.row.prog w) (lawA L fa) (lawEnv L fa) E)
  (F : Fr h₀ L s.heap (fun z => if z = Str.ofString "script" then some (.ref sl) else m0 z))
  (N : News h₀ L s.heap [(L + 1 + 1, op), (L + 1, oa), (92, tabObj #[])])
  (l0 : @LT.lt Nat _ 92 L) (hop : op.data = .cell vp) (hoa : oa.data = .cell va)
  (hsl : h₀.IsList sl vs.toArray) (hI : IntsAre vs ns) (hns : ns.length ≤ 63)
  (hret : ∀ h' tk m', Fr h₀ L h' m' → GrownAt 92 h' → Q (.ret (.bool true)) { s with heap := h', toks := tk }) :
  wpAny (model PySem.Challenge.rw_rs0078_01.row.prog w) (lawA L fa) (execs lawCode.1.tailA (lawEnv L fa)) Q E s := by
  have X0 := X
  w_top off
  revert X; k_fill; intro X
  unfold lawCode
  dsimp only
  repeat ((fail_if_success (with_reducible show PySem.wpAny _ _ (PyProof.Rows.subscriptTail _ _ (PySem.Value.ref _) _) _ _ _)); (first | (k_unfold; (try dsimp only)) | (k_end; kc_close) | walk1 | (dsimp only; walk1) | (leave1; walk_say "STEP leave1"; (try dsimp only))))
  rename News _ _ _ _ => N1
  with_unfolding_all refine' item_anyT (ns := [3, 5, 7, 11, 13, 17]) ?k1 ?k2 ?k3 ?k4 ?k5 ?_
  case k1 => exact News.isTup N1 (List.Mem.head _)
  case k2 => exact .cons _ _ (.cons _ _ (.cons _ _ (.cons _ _ (.cons _ _ (.cons _ _ .nil)))))
  case k3 => rw [fm _ _ (by decide)]; omega
  case k4 => rw [fm _ _ (by decide)]; simp only [List.length_cons, List.length_nil]; omega
  case k5 => rw [fm _ _ (by decide)]; omega
  intro tP
  generalize hPe : ([3, 5, 7, 11, 13, 17] : List Int).getD _ 0 = P
  have hP : P ∈ ([3, 5, 7, 11, 13, 17] : List Int) := by
    rw [← hPe]
    refine six _ ?_ ?_
    · rw [fm _ _ (by decide)]; omega
    · rw [fm _ _ (by decide)]; omega
  clear hPe
  repeat ((fail_if_success (with_reducible show PySem.wpAny _ _ (PySem.binaryOp _ (PySem.Value.ref _) (PySem.Value.ref _)) _ _ _)); (first | (k_unfold; (try dsimp only)) | (k_end; kc_close) | walk1 | (dsimp only; walk1) | (leave1; walk_say "STEP leave1"; (try dsimp only))))
  (first | (k_unfold; (try dsimp only)) | (k_end; kc_close) | walk1 | (dsimp only; walk1) | (leave1; walk_say "STEP leave1"; (try dsimp only)))
  rename IntsAre _ (_ ++ _) => hI3
  obtain ⟨a, b, c, ta, tb, tc, rfl, ha, hb, hc⟩ := abc hI3
  repeat ((fail_if_success (with_reducible show wpAny _ _ (execs (PySem.Stmt.For _ _ _ _ _ :: _) _) _ _ _)); (first | (k_unfold; (try dsimp only)) | (k_end; kc_close) | walk1 | (dsimp only; walk1) | (leave1; walk_say "STEP leave1"; (try dsimp only))))
  rename Fr _ _ _ _ => F9
  rename News _ _ _ _ => N9
  rename _ = Data.cell (some (Value.int P tP)) => dP
  rename _ = Data.cell (some (Value.int a ta)) => dA
  refine partA2 B X0 T C hE F9 N9 ?_ ?_ ?_ l0 ?_ dP dA hP ha hb hc hsl hI hns (fun h' tk m' F10 G10 => hret h' tk m' F10 G10)
  · k_mem
  · k_mem
  · k_mem
  · omega
end
end Mine

namespace Mine
theorem script_split {m0 : Str → Option Value} {v : Value} (h : m0 (Str.ofString "script") = some v) : m0 = (fun z => if z = Str.ofString "script" then some v else m0 z) := by
  funext z
  by_cases g0 : z = Str.ofString "script"
  · subst g0; exact Eq.trans h (by with_unfolding_all rfl)
  simp only [if_neg g0]
end Mine

open Mine
theorem PySem.Challenge.cw_rs0078_01_holds : PySem.Challenge.rw_rs0078_01.Holds := by
  refine Mine.hd ?_
  w_top off
  w_strict (
    k_go0
    rename Below _ _ _ _ => B1
    rename Fr _ _ _ _ => F1
    rename News _ _ _ _ => N1
    rename Top _ _ _ _ _ _ => T1
    rename CodeHd _ _ _ => C1
    rename Heap.IsList (ghostOf _ _) _ _ => hL1
    rename Frag.In _ _ => X1
    rename IntsAre _ _ => I1
    generalize hm0 : bindL _ _ _ = m0 at F1
    obtain ⟨sl, hms, hsl⟩ : ∃ sl : Addr, m0 (Str.ofString "script") = some (Value.ref sl) ∧ (ghostOf _ _).IsList sl _ := ⟨_, by subst hm0; with_unfolding_all rfl, hL1⟩
    rw [script_split hms] at F1
    refine' partA B1 X1 T1 C1 ?pE F1 N1 ?pl ?pop ?poa hsl I1 ?pns ?pret
    case pl => omega
    case pop => assumption
    case poa => assumption
    case pns => omega
    case pE => passes_own
    case pret =>
      intro h' tk m' F10 G10
      clear hm0 hms
      refine ⟨?_, G10, True.intro⟩
      k_steps)

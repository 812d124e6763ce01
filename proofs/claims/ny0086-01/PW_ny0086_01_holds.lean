import PyProof.Rows.All
import Wide.All
import OpenK.AllK
import Wide.FinOn
import Lean
import PySem.Challenge.RW_ny0086_01
set_option Elab.async false
set_option rowWalk.seconds 0
section
open PySem PySem.W PyProof.Rows
set_option maxRecDepth 100000
set_option maxHeartbeats 8000000
namespace Mine
open_top hd for PySem.Challenge.rw_ny0086_01
end Mine
end
local macro_rules | `(tactic| walk_at $s:str) => `(tactic| k_extra $s)
section
open PySem PySem.W PyProof.Rows PySem.Calls
set_option maxRecDepth 100000
set_option maxHeartbeats 8000000
namespace Mine
/-- what stands around a call that no handler holds -/
abbrev Ar (dp : Nat) (fr : Option (List Env)) (gd : Option (List Code)) (un : Nat) : Around := { handled := none, depth := dp, frames := fr, guards := gd, units := un }
theorem enter_c {prog : Program} {w : World} {A : Around} {s : Shared} {R : Result → Shared → Prop} {K : Frag} {name qual : Str} {params : Arguments} {body : List Stmt} {scope : Scope} {dV kV doc pm cdv ct oc : Value} {an od : Option Addr} {osl : Array (Option Value)} {f : Addr} {args : Args} {binds : List (Str × Value)}
    (X : K.In s.heap) (hlim : s.heap.NoLimit)
    (ho : K.lookup f = some ⟨oc, od, .func (fnOf name qual params body scope dV kV doc pm an cdv ct), osl⟩) (hcd : codeIn K cdv qual = true) (hroom : A.depth < recursionLimit)
    (hbind : BindsTo s (fnOf name qual params body scope dV kV doc pm an cdv ct) args binds) (hloc : ∀ y ∈ binds, scope.names.lookup y.1 = some .local)
    (h : ∀ L' h₁, Fr s.heap L' h₁ (fun y => binds.reverse.lookup y) → News s.heap L' h₁ [] →
      wpAny (model prog w) (A.deeper (envOf qual scope L' f cdv)) (execs body (envOf qual scope L' f cdv))
        (fun fl s' => R (.ok (.ret (match fl with | .ret v => v | _ => .none))) s')
        (fun e s' => wpAny (model prog w) (A.deeper (envOf qual scope L' f cdv)) (leaving (envOf qual scope L' f cdv) e) (fun _ s'' => R (.error e) s'') (fun e' s'' => R (.error e') s'') s')
        { s with heap := h₁, toks := s.toks + binds.length })
    (hcell : ∀ x ∈ scope.names, x.2 ≠ .cell) (hco : scope.isCoroutine = false) (hgen : scope.isGenerator = false) (hk : scope.kind = .function) : codeAny (model prog w) A (.call (.ref f) args) R s := by
  refine codeAny_call_def (fd := fnOf name qual params body scope dV kV doc pm an cdv ct) (body := body) (binds := binds) hroom (X _ _ ho) rfl hlim (codeRec_of X hcd) rfl hbind hcell hloc (fun h₁ hns hk₁ => ?_) hco hgen hk
  exact h _ h₁ ⟨hns, hk₁, Nat.le_refl _⟩ News.nil
end Mine
end
section
open PySem PySem.W PyProof.Rows PySem.Calls
set_option maxRecDepth 100000
set_option maxHeartbeats 8000000
namespace Mine
theorem reset_Sub : True := by
  w_top off
  k_with_none
  trivial
/-- the small form of a sign below 128 -/
def lowc (c : Nat) : Nat := if 65 ≤ c ∧ c ≤ 90 then c + 32 else c
/-- what the program asks for a sign in another's place -/
def sc (x y : Nat) : Int := if x = y then 0 else if lowc x = lowc y then 1 else 2
theorem lower_all : (List.range 128).all (fun c => decide (Txt.lower ⟨#[c]⟩ = ⟨#[lowc c]⟩)) = true := by decide +kernel
theorem lower1 {c : Nat} (h : c < 128) : Txt.lower ⟨#[c]⟩ = ⟨#[lowc c]⟩ := by
  have := List.all_eq_true.mp lower_all c (List.mem_range.mpr h)
  exact of_decide_eq_true this
theorem lower1_fit {c : Nat} (h : c < 128) : PySem.Builtin.Str.tooLong (Txt.lower ⟨#[c]⟩).length = false := by
  rw [lower1 h]; rfl
theorem str1_eq {x y : Nat} : ((⟨#[x]⟩ : Str) == ⟨#[y]⟩) = decide (x = y) := by
  by_cases h : x = y
  · subst h; simp
  · have : (⟨#[x]⟩ : Str) ≠ ⟨#[y]⟩ := fun e => h (by injection e with e; injection e with e; injection e)
    simp [h, this]
theorem subst_c {w : World} {dp un : Nat} {fr : Option (List Env)} {gd : Option (List Code)} {s : Shared} {Q E : Value → Shared → Prop} {mean : ExcName → Option Value} {mg mb : Str → Option Value} {x y : Nat} {tx ty : Tok}
    (X : (hd.heap_39 w.params).In s.heap) (T : Top hd.view_39 (looseW hd.view_39 []) mean mg mb s.heap) (hr : dp + 1 < recursionLimit) (hx : x < 128) (hy : y < 128)
    (ret : ∀ t h' tk', s.heap.StaysIn h' → Q (.int (sc x y) t) { s with heap := h', toks := tk' }) :
    wpAny (model PySem.Challenge.rw_ny0086_01.row.prog w) (Ar dp fr gd un) (call (.ref 35) [.str ⟨#[x]⟩ tx, .str ⟨#[y]⟩ ty]) Q E s := by
  k_with "mine enter" => ( refine wpAny_call ?_; k_dflt (refine' enter_c (by assumption) (Top.nolimit (by assumption)) ?hk6 ?hk7 ?hk8 ?hk9 ?hkB ?_ ?hc5 ?hc2 ?hc3 ?hc4; (case hk6 => k_is); (case hk7 => k_is); (case hk8 => ((try dsimp only [Ar]); omega)); (case hk9 => exact BindsTo.of_eq rfl); (case hc5 => decide); (case hkB => exact locs rfl); (case hc2 => exact rfl); (case hc3 => exact rfl); (case hc4 => exact rfl)); intro yL' yh' yF' yN'; (try dsimp only); (try k_fold))
  k_with "call builtin:str.lower" => ((show wpAny _ _ (call (Value.builtin "str.lower") [Value.str _ _]) _ _ _); (refine KXw.lower (lower1 (by assumption)) (lower1_fit (by assumption)) ?_); intro _ _)
  revert X; k_fill; intro X
  walk_at "mine enter"
  k_steps
  all_goals (try simp only [str1_eq, decide_eq_true_eq, decide_eq_false_iff_not] at *)
  · rename_i h1
    have e : sc x y = 0 := by simp [sc, h1]
    exact e ▸ ret _ _ _ (Fr.keep (by assumption))
  · rename_i h1 h2
    have e : sc x y = 1 := by simp [sc, h1, h2]
    exact e ▸ ret _ _ _ (Fr.keep (by assumption))
  · rename_i h1 h2
    have e : sc x y = 2 := by simp [sc, h1, h2]
    exact e ▸ ret _ _ _ (Fr.keep (by assumption))
end Mine
end
section
open PySem PySem.W PyProof.Rows PySem.Calls
set_option maxRecDepth 100000
set_option maxHeartbeats 8000000
namespace Mine
/-- a goal that the walk is to leave alone -/
def Hold (p : Prop) : Prop := p
theorem stop {p : Prop} (h : Hold p) : p := h
theorem go {p : Prop} (h : p) : Hold p := h

theorem len_mk (l : List Nat) : Str.length ⟨l.toArray⟩ = l.length := by simp [Str.length]
theorem slice_from_l {l : List Nat} {k : Nat} (h : k ≤ l.length) : Txt.slice ⟨l.toArray⟩ (some (k : Int)) none = ⟨(l.drop k).toArray⟩ := by
  show StrLaws.sliceText _ _ _ = _
  rw [StrLaws.sliceText_from ⟨by omega, by simpa using h⟩]
  have e : ((↑(Array.toList (⟨l.toArray⟩ : Str).cps).length : Int) - (k : Int)).toNat = (l.drop k).length := by simp
  rw [e]
  show (⟨(List.take (l.drop k).length (List.drop (k : Int).toNat l)).toArray⟩ : Str) = _
  rw [Int.toNat_natCast, List.take_length]
theorem slice_to_neg_l {l : List Nat} {k : Nat} (h0 : 0 < k) (h : k ≤ l.length) : Txt.slice ⟨l.toArray⟩ none (some (-(k : Int))) = ⟨(l.take (l.length - k)).toArray⟩ := by
  show StrLaws.sliceText _ _ _ = _
  rw [StrLaws.sliceText_to_neg (by omega) (by rw [len_mk]; omega)]
  have : (-(k : Int) + ↑(Str.length ⟨l.toArray⟩) - 0).toNat = l.length - k := by rw [len_mk]; omega
  rw [this]
  simp
theorem slice_all_l {l : List Nat} : Txt.slice ⟨l.toArray⟩ none none = ⟨l.toArray⟩ := by
  unfold Txt.slice
  split
  · rfl
  · rename_i h
    exfalso
    apply h
    simp [Builtin.Str.strSliceIndices, sliceRange]
    split <;> omega
theorem item_l {l : List Nat} {k : Nat} (h : k < l.length) : Txt.item ⟨l.toArray⟩ (k : Int) = ⟨#[l[k]]⟩ := by
  refine item_meets (by omega) ?_
  simp [h]
theorem item_neg_l {l : List Nat} {k : Nat} (h0 : 0 < k) (h : k ≤ l.length) : Txt.item ⟨l.toArray⟩ (-(k : Int)) = ⟨#[l[l.length - k]'(by omega)]⟩ := by
  have e := eq_of_beq (item_closes_neg (x := ⟨l.toArray⟩) (i := -(k : Int)) (j := -(k : Int) + ((⟨l.toArray⟩ : Str).length : Int)) (by omega) (by rw [len_mk]; omega) rfl)
  rw [e, len_mk]
  have : (-(k : Int) + (l.length : Int)).toNat = l.length - k := by omega
  rw [this]
  have h2 : l.length - k < l.length := by omega
  simp [Array.getD, h2]

/-- how a while's test ends -/
def TestEnd (h₀ : Heap) (L : Addr) (m : Str → Option Value) (news : List (Addr × Obj)) (s : Shared) (b₀ b : Bool) (s₂ : Shared) : Prop :=
  b = b₀ ∧ ∃ h tk, s₂ = { s with heap := h, toks := tk } ∧ Fr h₀ L h m ∧ News h₀ L h news
def BodyEnd (h₀ : Heap) (L : Addr) (x : Str) (v : Int) (m : Str → Option Value) (news : List (Addr × Obj)) (s : Shared) (f : Flow) (s₂ : Shared) : Prop :=
  f = .next ∧ ∃ t h tk m', s₂ = { s with heap := h, toks := tk } ∧ Fr h₀ L h m' ∧ News h₀ L h news ∧ m' x = some (.int v t) ∧ ∀ z, z ≠ x → m' z = m z
section
variable {prog : Program} {w : World} {A : Around} {E : Value → Shared → Prop} {Q : Flow → Shared → Prop} {s : Shared} {env : Env} {h₀ : Heap} {L : Addr}
/-- a while that steps one int name from g 0 to g n -/
theorem while_to {test : Expr} {body : List Stmt} {pos : Pos} {m₀ : Str → Option Value} {news : List (Addr × Obj)} (x : Str) (g : Nat → Int) (n : Nat) {t₀ : Tok}
    (F : Fr h₀ L s.heap m₀) (N : News h₀ L s.heap news) (hx : m₀ x = some (.int (g 0) t₀))
    (tst : ∀ k t h tk, k ≤ n → Fr h₀ L h (fun z => if z = x then some (.int (g k) t) else m₀ z) → News h₀ L h news →
      wpAny (model prog w) A (isTrue test env (eval test env)) (TestEnd h₀ L (fun z => if z = x then some (.int (g k) t) else m₀ z) news s (decide (k < n))) E { s with heap := h, toks := tk })
    (bod : ∀ k t h tk, k < n → Fr h₀ L h (fun z => if z = x then some (.int (g k) t) else m₀ z) → News h₀ L h news →
      wpAny (model prog w) A (execs body env) (BodyEnd h₀ L x (g (k + 1)) m₀ news s) E { s with heap := h, toks := tk })
    (done : ∀ t h tk, Fr h₀ L h (fun z => if z = x then some (.int (g n) t) else m₀ z) → News h₀ L h news → Q .next { s with heap := h, toks := tk })
    (hE : PassesOwn (model prog w) A env E := by passes_own) :
    wpAny (model prog w) A (exec (.While test body [] pos) env) Q E s := by
  have em : ∀ {m : Str → Option Value} {v : Value}, m x = some v → (∀ z, z ≠ x → m z = m₀ z) → m = fun z => if z = x then some v else m₀ z := by
    intro m v h1 h2
    funext z
    by_cases hz : z = x
    · rw [if_pos hz, hz, h1]
    · rw [if_neg hz, h2 z hz]
  refine While_inv2 (fun j m nx => nx = news ∧ ∃ k, k ≤ n ∧ j = n - k ∧ (∃ t, m x = some (.int (g k) t)) ∧ ∀ z, z ≠ x → m z = m₀ z) F N ⟨rfl, 0, Nat.zero_le _, rfl, ⟨t₀, hx⟩, fun _ _ => rfl⟩ ?_ hE
  rintro j m₁ nx h tk F₁ N₁ ⟨rfl, k, hk, rfl, ⟨t, h1⟩, h2⟩
  have e1 := em h1 h2
  subst e1
  refine wpAny_mono (tst k t h tk hk F₁ N₁) (fun b s₂ p => ?_) fun _ _ x => x
  obtain ⟨rfl, h', tk', rfl, F₂, N₂⟩ := p
  by_cases hkn : k < n
  · simp only [hkn, decide_true, if_true]
    refine wpAny_mono (bod k t h' tk' hkn F₂ N₂) (fun f s₃ q => ?_) fun _ _ x => x
    obtain ⟨rfl, t', h'', tk'', m', rfl, F₃, N₃, e1, e2⟩ := q
    exact ⟨h'', tk'', _, _, _, rfl, F₃, N₃, (by omega : n - (k + 1) < n - k), rfl, k + 1, hkn, rfl, ⟨t', e1⟩, e2⟩
  · have : k = n := by omega
    subst this
    simp only [Nat.lt_irrefl, decide_false, Bool.false_eq_true, if_false]
    exact done t h' tk' F₂ N₂
end
end Mine
end
section
open PySem PySem.W PyProof.Rows PySem.Calls
set_option maxRecDepth 100000
set_option maxHeartbeats 8000000
namespace Mine
/-- a[:post or None], post = -k -/
theorem cut_end {prog : Program} {w : World} {A : Around} {E : Value → Shared → Prop} {s : Shared} {cn : Str} {cs : Scope} {L a : Addr} {cd : Value} {h₀ : Heap} {m : Str → Option Value} {news : List (Addr × Obj)}
    {na np : Str} {p1 p2 p3 p4 p5 p6 : Pos} {kk : Nat} {x : Str} {l : List Nat} {k : Nat} {tx tp : Tok} {Q : Value → Shared → Prop}
    (hx : x = ⟨l.toArray⟩) (hk : k ≤ l.length) (hsz : l.length ≤ 1000) (F : Fr h₀ L s.heap m) (N : News h₀ L s.heap news) (ha : m na = some (.str x tx)) (hp : m np = some (.int (-(k : Int)) tp))
    (h : ∀ h' t' tk', Fr h₀ L h' m → News h₀ L h' news → Q (.str ⟨(l.take (l.length - k)).toArray⟩ t') { s with heap := h', toks := tk' })
    (hc : cs.kind = .function) (hl : (envOf cn cs L a cd).kindOf na = some .local) (hd : (na == ("__debug__" : Str)) = false) (hl2 : (envOf cn cs L a cd).kindOf np = some .local) (hd2 : (np == ("__debug__" : Str)) = false) :
    wpAny (model prog w) A (eval (.Subscript (.Name na p1) (.Slice none (some (.BoolOp .Or [.Name np p2, .Constant .none kk p3] p4)) none p5) p6) (envOf cn cs L a cd)) Q E s := by
  have hz : x.length ≤ sizeLine := by rw [hx, len_mk, sizeLine_eq]; omega
  refine Subscript_ (ld F ha ?_ hc hl hd)
  refine wpAny_Slice ?_
  refine evalPart_none_step ?_
  refine evalPart_some_step ?_
  refine BoolOp_or (ld F hp ?_ hc hl2 hd2)
  refine truthy_int ?_
  by_cases h0 : k = 0
  · subst h0
    have e : (-((0 : Nat) : Int) != 0) = false := by decide
    rw [e]
    simp only [Bool.false_eq_true, if_false]
    refine BoolOp_one (Constant_none ?_)
    refine evalPart_none_step ?_
    refine slice_strN_nn F N (fun h' t' tk' F' N' => ?_) (by with_unfolding_all rfl) (by intro _; with_unfolding_all rfl) hz
    have e2 : Txt.slice x none none = ⟨(l.take (l.length - 0)).toArray⟩ := by rw [hx, slice_all_l]; simp
    rw [e2]
    exact h h' t' tk' F' N'
  · have e : (-(k : Int) != 0) = true := by
      have : -(k : Int) ≠ 0 := by omega
      simpa using this
    rw [e]
    simp only [if_true]
    refine evalPart_none_step ?_
    refine slice_strN_ns F N (fun h' t' tk' F' N' => ?_) (by with_unfolding_all rfl) (by intro _; with_unfolding_all rfl) hz
    have e2 : Txt.slice x none (some (-(k : Int))) = ⟨(l.take (l.length - k)).toArray⟩ := by rw [hx, slice_to_neg_l (by omega) hk]
    rw [e2]
    exact h h' t' tk' F' N'
end Mine
end
section
namespace Mine
/-- what the costs of the middle parts are asked to be: 2 off the diagonal but in the first row and column, 2 on it but at the last place -/
structure Costs (c : Nat → Nat → Int) (n : Nat) (lc : Int) : Prop where
  lo : ∀ i j, 0 ≤ c i j
  hi : ∀ i j, c i j ≤ 2
  off : ∀ i j, 1 ≤ i → i < n → 1 ≤ j → j < n → i ≠ j → c i j = 2
  diag : ∀ k, k + 1 < n → c k k = 2
  last : c (n - 1) (n - 1) = lc
  lc1 : 1 ≤ lc
  npos : 0 < n
/-- a bound from below for the table's cells -/
def LB (n : Nat) (lc : Int) (i j : Nat) : Int :=
  if i = 0 then 2 * j else if j = 0 then 2 * i else if i = j then (if i = n then 2 * n - 2 + lc else 2 * i) else if i < j then 2 * j - 2 else 2 * i - 2
structure RowInv (n : Nat) (lc : Int) (r : Nat) (row : List Int) : Prop where
  len : row.length = n
  lo : ∀ k, k < n → LB n lc r (k + 1) ≤ row.getD k 0
  di : r ≠ 0 → row.getD (r - 1) 0 ≤ 2 * r
structure InInv (c : Nat → Nat → Int) (n : Nat) (lc : Int) (r j : Nat) (row : List Int) (dist res mn : Int) : Prop where
  len : row.length = n
  done : ∀ k, k < j → LB n lc (r + 1) (k + 1) ≤ row.getD k 0
  todo : ∀ k, j ≤ k → k < n → LB n lc r (k + 1) ≤ row.getD k 0
  di : r ≠ 0 → j ≤ r - 1 → row.getD (r - 1) 0 ≤ 2 * r
  dlo : LB n lc r j ≤ dist
  dhi : j = r → dist ≤ 2 * r
  res0 : j = 0 → 2 * r ≤ res
  res1 : 1 ≤ j → LB n lc (r + 1) j ≤ res
  up : r < j → row.getD r 0 ≤ 2 * r + c r r
  resup : j = r + 1 → res ≤ 2 * r + c r r
  mnup : r < j → mn ≤ 2 * r + c r r
  resrow : 1 ≤ j → res = row.getD (j - 1) 0
theorem in_start {c : Nat → Nat → Int} {n : Nat} {lc : Int} {r : Nat} {row : List Int} {mn : Int} (h : RowInv n lc r row) : InInv c n lc r 0 row (2 * r) (2 * r) mn where
  len := h.len
  done := fun k hk => absurd hk (Nat.not_lt_zero _)
  todo := fun k _ hk => h.lo k hk
  di := fun h1 _ => h.di h1
  dlo := by unfold LB; split <;> simp_all
  dhi := fun _ => Int.le_refl _
  res0 := fun _ => Int.le_refl _
  res1 := fun h1 => absurd h1 (by omega)
  up := fun h1 => absurd h1 (by omega)
  resup := fun h1 => absurd h1 (by omega)
  mnup := fun h1 => absurd h1 (by omega)
  resrow := fun h1 => absurd h1 (by omega)
theorem getD_set_eq {l : List Int} {k : Nat} {v : Int} (h : k < l.length) : (l.set k v).getD k 0 = v := by simp [List.getD, h]
theorem getD_set_ne {l : List Int} {k j : Nat} {v : Int} (h : k ≠ j) : (l.set k v).getD j 0 = l.getD j 0 := by simp [List.getD, List.getElem?_set, h]
theorem LB_0 {n : Nat} {lc : Int} {j : Nat} : LB n lc 0 j = 2 * j := by simp [LB]
theorem LB_l {n : Nat} {lc : Int} {i : Nat} : LB n lc i 0 = 2 * i := by unfold LB; split <;> simp_all
theorem LB_lt {n : Nat} {lc : Int} {i j : Nat} (h0 : 0 < i) (h : i < j) : LB n lc i j = 2 * j - 2 := by
  unfold LB
  rw [if_neg (by omega), if_neg (by omega), if_neg (by omega), if_pos h]
theorem LB_gt {n : Nat} {lc : Int} {i j : Nat} (h0 : 0 < j) (h : j < i) : LB n lc i j = 2 * i - 2 := by
  unfold LB
  rw [if_neg (by omega), if_neg (by omega), if_neg (by omega), if_neg (by omega)]
theorem LB_eq {n : Nat} {lc : Int} {i : Nat} (h : i ≠ n) : LB n lc i i = 2 * i := by
  unfold LB
  by_cases h0 : i = 0
  · simp [h0]
  · rw [if_neg h0, if_neg h0, if_pos rfl, if_neg h]
theorem LB_n {n : Nat} {lc : Int} (h : 0 < n) : LB n lc n n = 2 * n - 2 + lc := by
  unfold LB
  rw [if_neg (by omega), if_neg (by omega), if_pos rfl, if_pos rfl]
theorem lb_step {c : Nat → Nat → Int} {n : Nat} {lc : Int} (C : Costs c n lc) {r j : Nat} (hr : r < n) (hj : j < n) {dist res nd : Int} (h1 : LB n lc r j ≤ dist) (h2 : j = 0 → 2 * r ≤ res) (h3 : 1 ≤ j → LB n lc (r + 1) j ≤ res) (h4 : LB n lc r (j + 1) ≤ nd) :
    LB n lc (r + 1) (j + 1) ≤ min (min res nd + 2) (dist + c r j) := by
  have c0 := C.lo r j
  have c2 := C.hi r j
  have l1 := C.lc1
  have ch := C.hi (n - 1) (n - 1)
  rw [C.last] at ch
  have r1 := Nat.lt_of_le_of_lt (Nat.zero_le r) hr
  rcases Nat.lt_trichotomy r j with h | h | h
  · have j1 := Nat.lt_of_le_of_lt (Nat.zero_le r) h
    rw [LB_lt (Nat.succ_pos r) (Nat.succ_lt_succ h)]
    have h3' := h3 j1
    clear h2 h3 ch l1
    have a3 : 2 * (j : Int) - 2 ≤ res := by
      by_cases e : r + 1 = j
      · subst e
        rw [LB_eq (Nat.ne_of_lt hj)] at h3'
        omega
      · rw [LB_lt (Nat.succ_pos r) (Nat.lt_of_le_of_ne h e)] at h3'
        exact h3'
    clear h3'
    by_cases r0 : r = 0
    · subst r0
      rw [LB_0] at h1 h4
      clear hr hj r1 j1 h
      omega
    · have r2 := Nat.pos_of_ne_zero r0
      rw [LB_lt r2 h] at h1
      rw [LB_lt r2 (Nat.lt_succ_of_lt h)] at h4
      have hc := C.off r j r2 hr j1 hj (Nat.ne_of_lt h)
      clear hr hj r1 j1 h r0 r2 c0 c2
      omega
  · subst h
    rw [LB_eq (Nat.ne_of_lt hr)] at h1
    have h4' : 2 * (r : Int) ≤ nd := by
      by_cases r0 : r = 0
      · subst r0
        rw [LB_0] at h4
        clear h1 h2 h3 ch l1 c0 c2 hr hj
        omega
      · rw [LB_lt (Nat.pos_of_ne_zero r0) (Nat.lt_succ_self r)] at h4
        clear h1 h2 h3 ch l1 c0 c2 hr hj
        omega
    have h3' : 2 * (r : Int) ≤ res := by
      by_cases r0 : r = 0
      · exact h2 r0
      · have := h3 (Nat.pos_of_ne_zero r0)
        rw [LB_gt (Nat.pos_of_ne_zero r0) (Nat.lt_succ_self r)] at this
        clear h1 h2 h3 h4 h4' ch l1 c0 c2 hr hj
        omega
    clear h2 h3 h4
    by_cases hn : r + 1 = n
    · have e : c r r = lc := by rw [← C.last, ← hn]; rfl
      rw [hn, LB_n r1]
      omega
    · rw [LB_eq hn]
      have := C.diag r (Nat.lt_of_le_of_ne hr hn)
      clear hr hj hn ch l1 r1 c0 c2
      omega
  · have r2 := Nat.lt_of_le_of_lt (Nat.zero_le j) h
    rw [LB_gt (Nat.succ_pos j) (Nat.succ_lt_succ h)]
    have h4' : 2 * (r : Int) - 2 ≤ nd := by
      by_cases e : r = j + 1
      · subst e
        rw [LB_eq (Nat.ne_of_lt hr)] at h4
        clear h1 h2 h3 ch l1 c0 c2 hr hj
        omega
      · rw [LB_gt (Nat.succ_pos j) (Nat.lt_of_le_of_ne h (fun x => e x.symm))] at h4
        exact h4
    clear h4 ch l1
    by_cases j0 : j = 0
    · subst j0
      rw [LB_l] at h1
      have := h2 rfl
      clear h2 h3 hr hj r1 r2 h
      omega
    · have j1 := Nat.pos_of_ne_zero j0
      rw [LB_gt j1 h] at h1
      have h3' := h3 j1
      rw [LB_gt j1 (Nat.lt_succ_of_lt h)] at h3'
      have hc := C.off r j r2 hr j1 hj (Nat.ne_of_gt h)
      clear h2 h3 hr hj r1 r2 h j0 j1 c0 c2
      omega
theorem in_step {c : Nat → Nat → Int} {n : Nat} {lc : Int} (C : Costs c n lc) {r j : Nat} {row : List Int} {dist res mn res' mn' : Int} (hr : r < n) (hj : j < n) (h : InInv c n lc r j row dist res mn)
    (e : res' = min (min res (row.getD j 0) + 2) (dist + c r j)) (e2 : mn' ≤ mn ∧ mn' ≤ res') : InInv c n lc r (j + 1) (row.set j res') (row.getD j 0) res' mn' where
  len := by rw [List.length_set]; exact h.len
  done := fun k hk => by
    by_cases hkj : k = j
    · subst hkj
      rw [getD_set_eq (by rw [h.len]; exact hj), e]
      exact lb_step C hr hj h.dlo h.res0 h.res1 (h.todo k (Nat.le_refl _) hj)
    · rw [getD_set_ne (by omega)]
      exact h.done k (by omega)
  todo := fun k hk hkn => by
    rw [getD_set_ne (by omega)]
    exact h.todo k (by omega) hkn
  di := fun h1 h2 => by
    rw [getD_set_ne (by omega)]
    exact h.di h1 (by omega)
  dlo := h.todo j (Nat.le_refl _) hj
  dhi := fun h1 => by
    have := h.di (by omega) (by omega)
    have e : r - 1 = j := by omega
    rw [e] at this
    exact this
  res0 := fun h1 => absurd h1 (by omega)
  res1 := fun _ => by
    rw [e]
    exact lb_step C hr hj h.dlo h.res0 h.res1 (h.todo j (Nat.le_refl _) hj)
  up := fun h1 => by
    by_cases hrj : r = j
    · subst hrj
      rw [getD_set_eq (by rw [h.len]; exact hj), e]
      have := h.dhi rfl
      omega
    · rw [getD_set_ne (by omega)]
      exact h.up (by omega)
  resup := fun h1 => by
    have hrj : j = r := by omega
    have := h.dhi hrj
    subst hrj
    rw [e]
    omega
  mnup := fun h1 => by
    by_cases hrj : r = j
    · have := h.dhi hrj.symm
      subst hrj
      rw [e] at e2
      omega
    · have := h.mnup (by omega)
      omega
  resrow := fun _ => by
    show res' = (row.set j res').getD j 0
    rw [getD_set_eq (by rw [h.len]; exact hj)]
theorem row_next {c : Nat → Nat → Int} {n : Nat} {lc : Int} (C : Costs c n lc) {r : Nat} {row : List Int} {dist res mn : Int} (hr : r < n) (h : InInv c n lc r n row dist res mn) : RowInv n lc (r + 1) row where
  len := h.len
  lo := fun k hk => h.done k hk
  di := fun _ => by
    have := h.up hr
    have := C.hi r r
    show row.getD r 0 ≤ _
    omega
theorem row_last {c : Nat → Nat → Int} {n : Nat} {lc : Int} (C : Costs c n lc) {r : Nat} {row : List Int} {dist res mn : Int} (hr : r + 1 = n) (h : InInv c n lc r n row dist res mn) : res = 2 * n - 2 + lc := by
  have h1 := h.res1 C.npos
  have h2 := h.resup hr.symm
  have e : c r r = lc := by rw [← C.last]; congr 1 <;> omega
  rw [hr, LB_n (by omega)] at h1
  omega
theorem mn_early {c : Nat → Nat → Int} {n : Nat} {lc : Int} (C : Costs c n lc) {r : Nat} {row : List Int} {dist res mn mc : Int} (hr : r < n) (h : InInv c n lc r n row dist res mn) (hb : 2 * n - 2 + lc - 1 ≤ mc) (hm : mc < mn) : mc + 1 = 2 * n - 2 + lc := by
  have h1 := h.mnup hr
  have l1 := C.lc1
  by_cases hr' : r + 1 = n
  · have e : c r r = lc := by rw [← C.last]; congr 1 <;> omega
    omega
  · have := C.diag r (by omega)
    omega
end Mine
end
section
open PySem PySem.W PyProof.Rows PySem.Calls
set_option maxRecDepth 100000
set_option maxHeartbeats 8000000
namespace Mine
def evens (n : Nat) : List Int := (List.range n).map fun (i : Nat) => 2 + (i : Int) * 2
theorem ints_of : ∀ (vs : List Value) (f : Nat → Int), (∀ (j : Nat) (v : Value), vs[j]? = some v → ∃ t, v = .int (f j) t) → IntsAre vs ((List.range vs.length).map f)
  | [], _, _ => IntsAre.nil
  | v :: r, f, h => by
    rw [List.length_cons, List.range_succ_eq_map, List.map_cons, List.map_map]
    obtain ⟨t, ht⟩ := h 0 v rfl
    subst ht
    exact IntsAre.cons _ _ (ints_of r (f ∘ Nat.succ) fun j v hj => h (j + 1) v hj)
section
variable {prog : Program} {w : World} {A : Around} {E : Value → Shared → Prop} {s : Shared} {h₀ : Heap} {L r : Addr} {m : Str → Option Value} {news : List (Addr × Obj)} {b : Int} {t₀ u₀ v₀ : Tok} {n : Nat} {Q : Value → Shared → Prop}
theorem list_range2 (hb : b = 2 * ((n : Int) + 1)) (hz : n ≤ 1000) (hh : A.handled = none) (F : Fr h₀ L s.heap m) (N : News h₀ L s.heap news) (hr : IsRange s.heap r 2 b 2 t₀ u₀ v₀)
    (h : ∀ D us c h' tk, Fr h₀ L h' m → News h₀ L h' ((D, listOf (List.toArray us) c) :: news) → (∀ p ∈ news, p.1 < D) → IntsAre us (evens n) → Q (.ref D) { s with heap := h', toks := tk }) :
    wpAny (model prog w) A (call (.type "list") [.ref r]) Q E s := by
  subst hb
  have hn : Builtin.Range.rangeSize 2 (2 * ((n : Int) + 1)) 2 = (n : Int) := by
    unfold Builtin.Range.rangeSize
    simp only [show (2 : Int) > 0 by decide, if_true]
    split <;> omega
  have hs : Builtin.Range.small 2 (2 * ((n : Int) + 1)) 2 = true := by
    unfold Builtin.Range.small
    rw [hn]
    have e : ∀ i : Int, -9223372036854775808 ≤ i → i < 9223372036854775808 → Builtin.Range.rangeFitsLong i = true := by
      intro i h1 h2
      unfold Builtin.Range.rangeFitsLong
      rw [Bool.and_eq_true, decide_eq_true_eq, decide_eq_true_eq]
      exact ⟨h1, h2⟩
    simp only [e _ (show (-9223372036854775808 : Int) ≤ 2 by decide) (by decide), e (2 * ((n : Int) + 1)) (by omega) (by omega), e (n : Int) (by omega) (by omega), Bool.and_self, Bool.true_and]
    rw [if_pos (by decide), e _ (by omega) (by omega), Bool.or_true]
  refine call_list_range hh hr hs hn (by omega) fun h' tk acc c hk hD hI => ?_
  have hD' : h'.get? s.heap.objs.size = some (listOf (List.toArray acc.toList) c) := by
    rw [Array.toArray_toList]
    exact hD
  refine h _ acc.toList c h' tk (F.keeps hk) (news_pushed F N hk hD' rfl) (fun p hp => Heap.lt_size (N p hp).1) ?_
  have hl : acc.toList.length = n := by rw [Array.length_toList]; exact hI.1
  have := ints_of acc.toList (fun i => 2 + (i : Int) * 2) fun j v hj => hI.2 j v (by rw [← hj, Array.getElem?_toList])
  rw [hl] at this
  exact this
end
theorem evens_get {n k : Nat} (h : k < n) : (evens n).getD k 0 = 2 * ((k + 1 : Nat) : Int) := by
  unfold evens
  rw [List.getD_eq_getElem?_getD, List.getElem?_map, List.getElem?_range h]
  show 2 + (k : Int) * 2 = _
  omega
theorem row_start {n : Nat} {lc : Int} : RowInv n lc 0 (evens n) where
  len := by simp [evens]
  lo := fun k hk => by rw [LB_0, evens_get hk]; exact Int.le_refl _
  di := fun h => absurd rfl h
end Mine
end
section
open PySem PySem.W PyProof.Rows PySem.Calls
set_option maxRecDepth 100000
set_option maxHeartbeats 8000000


namespace Mine
theorem reset_Lev : True := by
  w_top off
  k_with_none
  trivial
theorem mid_at {M M' : List Nat} {n : Nat} {lc : Int} (hC : Costs (fun i j => sc (M'.getD i 0) (M.getD j 0)) n lc) (k : Nat) (hk : k < n) : M.getD k 0 ≠ M'.getD k 0 := by
  intro e
  have h1 : sc (M'.getD k 0) (M.getD k 0) = 0 := by unfold sc; rw [if_pos e.symm]
  by_cases h : k + 1 < n
  · have h2 : sc (M'.getD k 0) (M.getD k 0) = 2 := hC.diag k h
    rw [h1] at h2; cases h2
  · have e2 : n - 1 = k := by omega
    have h2 : sc (M'.getD (n - 1) 0) (M.getD (n - 1) 0) = lc := hC.last
    rw [e2, h1] at h2
    have h3 := hC.lc1
    rw [← h2] at h3
    exact absurd h3 (by decide)
theorem mid_ne {P M M' S : List Nat} {n : Nat} {lc : Int} (hM : M.length = n) (hM' : M'.length = n) (hC : Costs (fun i j => sc (M'.getD i 0) (M.getD j 0)) n lc) : ((⟨(P ++ (M ++ S)).toArray⟩ : Str) == ⟨(P ++ (M' ++ S)).toArray⟩) = false := by
  have : (⟨(P ++ (M ++ S)).toArray⟩ : Str) ≠ ⟨(P ++ (M' ++ S)).toArray⟩ := by
    intro e
    injection e with e
    have e := List.append_cancel_left (List.toArray_inj e)
    have e := List.append_cancel_right e
    exact mid_at hC 0 hC.npos (by rw [e])
  simpa using this
theorem mid_pre {P M M' S : List Nat} {n : Nat} {lc : Int} (hM : M.length = n) (hM' : M'.length = n) (hC : Costs (fun i j => sc (M'.getD i 0) (M.getD j 0)) n lc) :
    ∀ k : Nat, k ≤ P.length → (Txt.item ⟨(P ++ (M ++ S)).toArray⟩ k == Txt.item ⟨(P ++ (M' ++ S)).toArray⟩ k) = decide (k < P.length) := by
  intro k hk
  have hn := hC.npos
  rw [item_l (by simp; omega), item_l (by simp; omega), str1_eq]
  by_cases h : k < P.length
  · simp [h, List.getElem_append_left]
  · have e : k = P.length := by omega
    subst e
    have := mid_at hC 0 hn
    have h1 : 0 < M.length := by omega
    have h2 : 0 < M'.length := by omega
    simpa [List.getD, h1, h2, List.getElem_append_left] using this
theorem back_lt {a s k : Nat} (h : k < s) : a + s - (k + 1) - a = s - (k + 1) ∧ a ≤ a + s - (k + 1) := by omega
theorem back_0 {a s : Nat} (h : 0 < a) : a + s - (s + 1) = a - 1 ∧ a - 1 < a := by omega
theorem back_in {a s k : Nat} (h : k ≤ s) (h0 : 0 < a) : k + 1 ≤ a + s := by omega
/-- the item that stands k + 1 from the end -/
theorem item_back {A S : List Nat} {k : Nat} (h : k ≤ S.length) (h0 : 0 < A.length) : Txt.item ⟨(A ++ S).toArray⟩ (-(k : Int) - 1) = ⟨#[if k < S.length then S.getD (S.length - (k + 1)) 0 else A.getD (A.length - 1) 0]⟩ := by
  have hl : k + 1 ≤ (A ++ S).length := by rw [List.length_append]; exact back_in h h0
  rw [show (-(k : Int) - 1) = -((k + 1 : Nat) : Int) by omega, item_neg_l (Nat.succ_pos k) hl]
  have e : (A ++ S)[(A ++ S).length - (k + 1)]? = some (if k < S.length then S.getD (S.length - (k + 1)) 0 else A.getD (A.length - 1) 0) := by
    rw [List.length_append]
    by_cases hk : k < S.length
    · obtain ⟨e1, e2⟩ := back_lt (a := A.length) hk
      rw [if_pos hk, List.getElem?_append_right e2, e1, List.getD_eq_getElem?_getD, List.getElem?_eq_getElem (Nat.sub_lt (Nat.lt_of_le_of_lt (Nat.zero_le k) hk) (Nat.succ_pos k))]
      rfl
    · obtain rfl : k = S.length := Nat.le_antisymm h (Nat.not_lt.mp hk)
      obtain ⟨e1, e2⟩ := back_0 (s := S.length) h0
      rw [if_neg hk, e1, List.getElem?_append_left e2, List.getD_eq_getElem?_getD, List.getElem?_eq_getElem e2]
      rfl
  rw [(List.getElem?_eq_some_iff.mp e).2]
theorem mid_post {M M' S : List Nat} {n : Nat} {lc : Int} (hM : M.length = n) (hM' : M'.length = n) (hC : Costs (fun i j => sc (M'.getD i 0) (M.getD j 0)) n lc) :
    ∀ k : Nat, k ≤ S.length → (Txt.item ⟨(M ++ S).toArray⟩ (-(k : Int) - 1) == Txt.item ⟨(M' ++ S).toArray⟩ (-(k : Int) - 1)) = decide (k < S.length) := by
  intro k hk
  have hn := hC.npos
  rw [item_back hk (hM ▸ hn), item_back hk (hM' ▸ hn), str1_eq, hM, hM']
  by_cases h : k < S.length
  · rw [if_pos h, if_pos h]; simp [h]
  · rw [if_neg h, if_neg h]
    have := mid_at hC (n - 1) (Nat.sub_lt hn Nat.one_pos)
    rw [decide_eq_false this, decide_eq_false h]
theorem news_stays {h₀ h h' : Heap} {L : Addr} {news : List (Addr × Obj)} (N : News h₀ L h news) (st : h.StaysIn h') : News h₀ L h' news := fun p hp => ⟨st _ _ (N p hp).1, (N p hp).2⟩
theorem subst_i {w : World} {dp un : Nat} {fr : Option (List Env)} {gd : Option (List Code)} {s : Shared} {Q E : Value → Shared → Prop} {mean : ExcName → Option Value} {mg mb : Str → Option Value} {x y : Nat} {cx cy : Str} {tx ty : Tok} {h₀ : Heap} {L : Addr} {m : Str → Option Value} {news : List (Addr × Obj)}
    (hcx : cx = ⟨#[x]⟩) (hcy : cy = ⟨#[y]⟩) (hx : x < 128) (hy : y < 128) (X : (hd.heap_39 w.params).In h₀) (T : Top hd.view_39 (looseW hd.view_39 []) mean mg mb h₀) (F : Fr h₀ L s.heap m) (N : News h₀ L s.heap news) (hr : dp + 1 < recursionLimit)
    (ret : ∀ t h' tk', Fr h₀ L h' m → News h₀ L h' news → Q (.int (sc x y) t) { s with heap := h', toks := tk' }) :
    wpAny (model PySem.Challenge.rw_ny0086_01.row.prog w) (Ar dp fr gd un) (call (.ref 35) [.str cx tx, .str cy ty]) Q E s := by
  subst hcx hcy
  exact subst_c (X.keeps F.keep) (T.keeps F.keep) hr hx hy fun t h' tk' st => ret t h' tk' (F.keeps st) (news_stays N st)
theorem ite_min {a b : Int} : (if b < a then b else a) = min a b := by split <;> omega
theorem lev_c {w : World} {dp un : Nat} {fr : Option (List Env)} {gd : Option (List Code)} {s : Shared} {Q E : Value → Shared → Prop} {mean : ExcName → Option Value} {mg mb : Str → Option Value} {P M M' S : List Nat} {n : Nat} {lc : Int} {x y : Str} {tx ty tz : Tok} {mc : Int}
    (X : (hd.heap_39 w.params).In s.heap) (T : Top hd.view_39 (looseW hd.view_39 []) mean mg mb s.heap) (hr : dp + 2 < recursionLimit) 
    (hx : x = ⟨(P ++ (M ++ S)).toArray⟩) (hy : y = ⟨(P ++ (M' ++ S)).toArray⟩) (hM : M.length = n) (hM' : M'.length = n) (hn2 : n ≤ 40) (hP : P.length ≤ 100) (hS : S.length ≤ 100)
    (hC : Costs (fun i j => sc (M'.getD i 0) (M.getD j 0)) n lc) (h128 : ∀ z ∈ M, z < 128) (h128' : ∀ z ∈ M', z < 128) (hmc : 2 * n - 2 + lc - 1 ≤ mc)
    (ret : ∀ t h' tk', s.heap.StaysIn h' → Q (.int (2 * n - 2 + lc) t) { s with heap := h', toks := tk' }) :
    wpAny (model PySem.Challenge.rw_ny0086_01.row.prog w) (Ar dp fr gd un) (call (.ref 42) [.str x tx, .str y ty, .int mc tz]) Q E s := by
  k_with "mine enter" => ( refine wpAny_call ?_; k_dflt (refine' enter_c (by assumption) (Top.nolimit (by assumption)) ?hk6 ?hk7 ?hk8 ?hk9 ?hkB ?_ ?hc5 ?hc2 ?hc3 ?hc4; (case hk6 => k_is); (case hk7 => k_is); (case hk8 => ((try dsimp only [Ar]); omega)); (case hk9 => exact BindsTo.of_eq rfl); (case hc5 => decide); (case hkB => exact locs rfl); (case hc2 => exact rfl); (case hc3 => exact rfl); (case hc4 => exact rfl)); intro yL' yh' yF' yN'; (try dsimp only); (try k_fold))
  k_with "exec While" => refine stop ?_
  k_with "mine test" => (first | (exfalso; omega) | (refine ⟨?_, _, _, rfl, by assumption, by assumption⟩; (first | rfl | (symm; assumption) | (simp_all; done))))
  k_with "mine body" => (refine ⟨rfl, _, _, _, _, rfl, by assumption, by assumption, by (first | rfl | simp), fun z hz => by simp [hz]⟩)
  k_with "subscriptTail Name BinOp Name Constant str int" => (refine item_str (fitsSsize_of (N := 9223372036854775808) (by omega) (by omega) (Int.le_refl _)) (by omega) (by omega) ?_; intro _)
  k_with "exec If" => k_extra "mine If"
  k_with "eval Subscript" => ((with_reducible show wpAny _ _ (eval (Expr.Subscript (Expr.Name _ _) (Expr.Slice none (some (Expr.BoolOp _ _ _)) none _) _) _) _ _ _); (rename Fr _ _ _ _ => zF'); (rename News _ _ _ _ => zN'); (with_unfolding_all refine' cut_end (m := _) ?hc1 ?hc2 ?hc3 zF' zN' ?hc4 ?hc5 ?_ ?hc6 ?hc7 ?hc8 ?hc9 ?hc10; (case hc4 => rfl); (case hc5 => rfl); (case hc6 => rfl); (case hc7 => rfl); (case hc8 => decide); (case hc9 => rfl); (case hc10 => decide); (case hc1 => assumption); (case hc2 => (simp only [List.length_append]; omega)); (case hc3 => (simp only [List.length_append]; omega))); intro yh' yt' ytk' yF' yN'; (try dsimp only))
  k_with "call ref" => ((show wpAny _ _ (call (Value.ref 35) [Value.str _ _, Value.str _ _]) _ _ _); k_dflt (refine' subst_i ?hk1 ?hk2 ?hk3 ?hk4 ?hk5 ?hk6 ?hk7 ?hk8 ?hk9 ?_; (case hk7 => assumption); (case hk8 => assumption); (case hk5 => assumption); (case hk6 => assumption); (case hk1 => assumption); (case hk2 => assumption); (case hk3 => assumption); (case hk4 => assumption); (case hk9 => omega)); intro yt9 yh9 ytk9 yF9 yN9; (try dsimp only))
  k_with "subscriptTail" => ((with_reducible show wpAny _ _ (subscriptTail _ _ (Value.ref _) (Value.int _ _)) _ _ _); k_dflt (refine' ksa_sub ?hk1 ?hk2 ?hk3 ?hk4 ?hk5 ?hk6 ?_ ?hk7; (case hk1 => assumption); (case hk2 => exact List.Mem.head _); (case hk3 => with_reducible assumption); (case hk4 => omega); (case hk5 => omega); (case hk6 => omega); (case hk7 => with_unfolding_all rfl)); intro _; (try dsimp only))
  k_with "setItem ref int" => ((with_reducible show wpAny _ _ (setItem (Value.ref _) (Value.int _ _) (Value.int _ _)) _ _ _); k_dflt (refine' ksa_set ?hk1 ?hk2 ?hk3 ?hk4 ?hk5 ?hk6 ?hk7 ?_; (case hk1 => assumption); (case hk2 => assumption); (case hk3 => exact Upd.head (by assumption)); (case hk4 => with_reducible assumption); (case hk5 => omega); (case hk6 => omega); (case hk7 => omega)); intro yh' yF' yN' yhi' yhl' yhs'; clear yhs'; (try dsimp only))
  k_with "mine rest" => (intro yz yh1 yh2 yh3; (simp only [List.forall_mem_cons, List.not_mem_nil, false_implies, implies_true, and_true, ne_eq] at yh2); (simp only [List.contains_cons, List.contains_nil, Bool.or_false, Bool.or_eq_false_iff, beq_eq_false_iff_ne, ne_eq] at yh3); simp [kstB, yh1, yh2, yh3])
  k_with "InvEndN" => refine stop ?_
  have hn := hC.npos
  have hlc := hC.lc1
  have hlx : x.length = P.length + (n + S.length) := by rw [hx, len_mk]; simp [hM]
  have hly : y.length = P.length + (n + S.length) := by rw [hy, len_mk]; simp [hM']
  have hxy : (x == y) = false := by
    rw [hx, hy]
    exact mid_ne hM hM' hC
  have hit : ∀ k : Nat, k ≤ P.length → (Txt.item x k == Txt.item y k) = decide (k < P.length) := by
    rw [hx, hy]
    exact mid_pre hM hM' hC
  revert X; k_fill; intro X
  walk_at "mine enter"
  k_steps
  refine go ?_
  refine while_to (Str.ofString "pre") (fun k => (k : Int)) P.length (by assumption) (by assumption) (by with_unfolding_all rfl) ?_ ?_ ?_
  · intro k t h tk hk F9 N9
    have hit1 := hit k hk
    k_steps
    all_goals walk_at "mine test"
  · intro k t h tk hk F9 N9
    k_steps
    all_goals walk_at "mine body"
  intro t h tk F9 N9
  dsimp only
  have e1 : Txt.slice x (some (P.length : Int)) none = ⟨(M ++ S).toArray⟩ := by rw [hx, slice_from_l (by simp)]; simp
  have e2 : Txt.slice y (some (P.length : Int)) none = ⟨(M' ++ S).toArray⟩ := by rw [hy, slice_from_l (by simp)]; simp
  clear hit hxy
  k_steps
  refine go ?_
  rw [e1, e2] at *
  generalize hx1 : (⟨(M ++ S).toArray⟩ : Str) = x1 at *
  generalize hy1 : (⟨(M' ++ S).toArray⟩ : Str) = y1 at *
  have hlx1 : x1.length = n + S.length := by rw [← hx1, len_mk]; simp [hM]
  have hly1 : y1.length = n + S.length := by rw [← hy1, len_mk]; simp [hM']
  have hit2 : ∀ k : Nat, k ≤ S.length → (Txt.item x1 (-(k : Int) - 1) == Txt.item y1 (-(k : Int) - 1)) = decide (k < S.length) := by
    rw [← hx1, ← hy1]
    exact mid_post hM hM' hC
  have hx2 : x1 = ⟨(M ++ S).toArray⟩ := hx1.symm
  have hy2 : y1 = ⟨(M' ++ S).toArray⟩ := hy1.symm
  clear e1 e2
  refine while_to (Str.ofString "post") (fun k => -(k : Int)) S.length (by assumption) (by assumption) (by with_unfolding_all rfl) ?_ ?_ ?_
  · intro k t h tk hk F9 N9
    have hit3 := hit2 k hk
    have l1 : Str.length ⟨((M ++ S).take ((M ++ S).length - k)).toArray⟩ = n + S.length - k := by rw [len_mk]; simp [hM]
    have l2 : Str.length ⟨((M' ++ S).take ((M' ++ S).length - k)).toArray⟩ = n + S.length - k := by rw [len_mk]; simp [hM']
    k_steps
    all_goals walk_at "mine test"
  · intro k t h tk hk F9 N9
    k_steps
    all_goals (rw [show (-((k + 1 : Nat) : Int)) = -(k : Int) - 1 by omega])
    all_goals walk_at "mine body"
  intro t h tk F9 N9
  dsimp only
  have e3 : (M ++ S).take ((M ++ S).length - S.length) = M := by simp
  have e4 : (M' ++ S).take ((M' ++ S).length - S.length) = M' := by simp
  k_with "mine If" => refine stop ?_
  k_steps
  k_with_none
  k_with "mine enter" => ( refine wpAny_call ?_; k_dflt (refine' enter_c (by assumption) (Top.nolimit (by assumption)) ?hk6 ?hk7 ?hk8 ?hk9 ?hkB ?_ ?hc5 ?hc2 ?hc3 ?hc4; (case hk6 => k_is); (case hk7 => k_is); (case hk8 => ((try dsimp only [Ar]); omega)); (case hk9 => exact BindsTo.of_eq rfl); (case hc5 => decide); (case hkB => exact locs rfl); (case hc2 => exact rfl); (case hc3 => exact rfl); (case hc4 => exact rfl)); intro yL' yh' yF' yN'; (try dsimp only); (try k_fold))
  k_with "exec While" => refine stop ?_
  k_with "mine test" => (first | (exfalso; omega) | (refine ⟨?_, _, _, rfl, by assumption, by assumption⟩; (first | rfl | (symm; assumption) | (simp_all; done))))
  k_with "mine body" => (refine ⟨rfl, _, _, _, _, rfl, by assumption, by assumption, by (first | rfl | simp), fun z hz => by simp [hz]⟩)
  k_with "subscriptTail Name BinOp Name Constant str int" => (refine item_str (fitsSsize_of (N := 9223372036854775808) (by omega) (by omega) (Int.le_refl _)) (by omega) (by omega) ?_; intro _)
  k_with "exec If" => k_extra "mine If"
  k_with "eval Subscript" => ((with_reducible show wpAny _ _ (eval (Expr.Subscript (Expr.Name _ _) (Expr.Slice none (some (Expr.BoolOp _ _ _)) none _) _) _) _ _ _); (rename Fr _ _ _ _ => zF'); (rename News _ _ _ _ => zN'); (with_unfolding_all refine' cut_end (m := _) ?hc1 ?hc2 ?hc3 zF' zN' ?hc4 ?hc5 ?_ ?hc6 ?hc7 ?hc8 ?hc9 ?hc10; (case hc4 => rfl); (case hc5 => rfl); (case hc6 => rfl); (case hc7 => rfl); (case hc8 => decide); (case hc9 => rfl); (case hc10 => decide); (case hc1 => assumption); (case hc2 => (simp only [List.length_append]; omega)); (case hc3 => (simp only [List.length_append]; omega))); intro yh' yt' ytk' yF' yN'; (try dsimp only))
  k_with "call ref" => ((show wpAny _ _ (call (Value.ref 35) [Value.str _ _, Value.str _ _]) _ _ _); k_dflt (refine' subst_i ?hk1 ?hk2 ?hk3 ?hk4 ?hk5 ?hk6 ?hk7 ?hk8 ?hk9 ?_; (case hk7 => assumption); (case hk8 => assumption); (case hk5 => assumption); (case hk6 => assumption); (case hk1 => assumption); (case hk2 => assumption); (case hk3 => assumption); (case hk4 => assumption); (case hk9 => omega)); intro yt9 yh9 ytk9 yF9 yN9; (try dsimp only))
  k_with "subscriptTail" => ((with_reducible show wpAny _ _ (subscriptTail _ _ (Value.ref _) (Value.int _ _)) _ _ _); k_dflt (refine' ksa_sub ?hk1 ?hk2 ?hk3 ?hk4 ?hk5 ?hk6 ?_ ?hk7; (case hk1 => assumption); (case hk2 => exact List.Mem.head _); (case hk3 => with_reducible assumption); (case hk4 => omega); (case hk5 => omega); (case hk6 => omega); (case hk7 => with_unfolding_all rfl)); intro _; (try dsimp only))
  k_with "setItem ref int" => ((with_reducible show wpAny _ _ (setItem (Value.ref _) (Value.int _ _) (Value.int _ _)) _ _ _); k_dflt (refine' ksa_set ?hk1 ?hk2 ?hk3 ?hk4 ?hk5 ?hk6 ?hk7 ?_; (case hk1 => assumption); (case hk2 => assumption); (case hk3 => exact Upd.head (by assumption)); (case hk4 => with_reducible assumption); (case hk5 => omega); (case hk6 => omega); (case hk7 => omega)); intro yh' yF' yN' yhi' yhl' yhs'; clear yhs'; (try dsimp only))
  k_with "mine rest" => (intro yz yh1 yh2 yh3; (simp only [List.forall_mem_cons, List.not_mem_nil, false_implies, implies_true, and_true, ne_eq] at yh2); (simp only [List.contains_cons, List.contains_nil, Bool.or_false, Bool.or_eq_false_iff, beq_eq_false_iff_ne, ne_eq] at yh3); simp [kstB, yh1, yh2, yh3])
  k_with "InvEndN" => refine stop ?_
  refine go ?_
  rw [e3, e4] at *
  generalize hx3 : (⟨M.toArray⟩ : Str) = x2 at *
  generalize hy3 : (⟨M'.toArray⟩ : Str) = y2 at *
  have hlx2 : x2.length = n := by rw [← hx3, len_mk, hM]
  have hly2 : y2.length = n := by rw [← hy3, len_mk, hM']
  k_steps
  rotate_left
  · exfalso; omega
  · exfalso; omega
  clear hit2 hx1 hy1 hx2 hy2 e3 e4
  refine list_range2 (n := n) (b := 2 * ((x2.length : Int) + 1)) (by rw [hlx2]) (by omega) rfl (by assumption) (by assumption) (by assumption) ?_
  intro D us c h' tk' F' N' l1 hI
  k_lt l1
  (try k_sweep)
  k_with "pyIter ref" => refine stop ?_
  k_steps
  refine go ?_
  have hsm : Builtin.Range.small 0 (y2.length : Int) 1 = true := small_one (by decide) (by decide) (by omega) (by omega)
  have hsz : Builtin.Range.rangeSize 0 (y2.length : Int) 1 = (n : Int) := by rw [rangeSize_one]; split <;> omega
  have hsm2 : Builtin.Range.small 0 (x2.length : Int) 1 = true := small_one (by decide) (by decide) (by omega) (by omega)
  have hsz2 : Builtin.Range.rangeSize 0 (x2.length : Int) 1 = (n : Int) := by rw [rangeSize_one]; split <;> omega
  have hix : ∀ j : Nat, j < n → Txt.item x2 (j : Int) = ⟨#[M.getD j 0]⟩ ∧ M.getD j 0 < 128 := by
    intro j hj
    rw [← hx3, item_l (by omega)]
    have e : M.getD j 0 = M[j] := by simp [List.getD, hM, hj]
    rw [e]
    exact ⟨rfl, h128 _ (List.getElem_mem _)⟩
  have hiy : ∀ j : Nat, j < n → Txt.item y2 (j : Int) = ⟨#[M'.getD j 0]⟩ ∧ M'.getD j 0 < 128 := by
    intro j hj
    rw [← hy3, item_l (by omega)]
    have e : M'.getD j 0 = M'[j] := by simp [List.getD, hM', hj]
    rw [e]
    exact ⟨rfl, h128' _ (List.getElem_mem _)⟩
  with_unfolding_all refine' kst_range (σ := List Value × List Int × Int × Tok) (fun c' => [(D, W.listOf c'.1.toArray c)]) (fun c' => [(Str.ofString "result", Value.int c'.2.2.1 c'.2.2.2)]) (fun c' => IntsAre c'.1 c'.2.1) [Str.ofString "bchar", Str.ofString "distance", Str.ofString "minimum", Str.ofString "index", Str.ofString "substitute", Str.ofString "insert_delete"] (fun pre c' => RowInv n lc pre.length c'.2.1 ∧ (pre.length = n → c'.2.2.1 = 2 * n - 2 + lc)) (us, evens n, 0, _) ?z1 ?z2 hsm hsz ?z3 ?z4 hI ?z5 ⟨row_start, fun h => absurd h (by simp; omega)⟩ ?_ ?_
  case z1 => rfl
  case z2 => (with_reducible rename IsRange _ _ _ _ _ _ _ _ => rgX); exact rgX
  case z3 => (with_reducible rename Fr _ _ _ _ => rgX); exact rgX
  case z4 => (with_reducible rename News _ _ _ _ => rgX); exact rgX
  case z5 => intro p hp; rw [List.mem_singleton.mp hp]; with_unfolding_all rfl
  · rintro ⟨us1, row1, res1, t1⟩ pre k t u h9 tk9 own hk hlt hoff hI1 ⟨hR, _⟩ F9 N9
    dsimp only at hI1 hR F9 N9 ⊢
    obtain ⟨ey, ey2⟩ := hiy pre.length hlt
    have hk' : k = (pre.length : Int) := by omega
    rw [hk'] at F9 ⊢
    have hlr := hR.len
    try k_fold
    k_steps
    refine go ?_
    have hin : InInv (fun i j => sc (M'.getD i 0) (M.getD j 0)) n lc pre.length 0 row1 ((pre.length : Int) * 2) ((pre.length : Int) * 2) 9223372036854775807 := by
      rw [Int.mul_comm]; exact in_start hR
    with_unfolding_all refine' kst_range (σ := List Value × List Int × (Int × Tok) × (Int × Tok) × Int × Tok) (fun c' => [(D, W.listOf c'.1.toArray c)] ++ own) (fun c' => [(Str.ofString "distance", Value.int c'.2.2.1.1 c'.2.2.1.2), (Str.ofString "result", Value.int c'.2.2.2.1.1 c'.2.2.2.1.2), (Str.ofString "minimum", Value.int c'.2.2.2.2.1 c'.2.2.2.2.2)]) (fun c' => IntsAre c'.1 c'.2.1) [Str.ofString "substitute", Str.ofString "insert_delete"] (fun pr c' => InInv (fun i j => sc (M'.getD i 0) (M.getD j 0)) n lc pre.length pr.length c'.2.1 c'.2.2.1.1 c'.2.2.2.1.1 c'.2.2.2.2.1) (us1, row1, ((pre.length : Int) * 2, _), ((pre.length : Int) * 2, _), 9223372036854775807, _) ?z1 ?z2 hsm2 hsz2 ?z3 ?z4 hI1 ?z5 hin ?_ ?_
    case z1 => rfl
    case z2 => (with_reducible rename IsRange _ _ _ _ _ _ _ _ => rgX); exact rgX
    case z3 => (with_reducible rename Fr _ _ _ _ => rgX); exact rgX
    case z4 => (with_reducible rename News _ _ _ _ => rgX); exact rgX
    case z5 => refine List.forall_mem_cons.mpr ⟨by with_unfolding_all rfl, List.forall_mem_cons.mpr ⟨by with_unfolding_all rfl, List.forall_mem_cons.mpr ⟨by with_unfolding_all rfl, List.forall_mem_nil _⟩⟩⟩
    · rintro ⟨us2, row2, ⟨di2, td2⟩, ⟨re2, tr2⟩, mn2, tm2⟩ pr j tj u2 h8 tk8 own2 hj hjl hoff2 hI2 hV F8 N8
      dsimp only at hI2 hV F8 N8 ⊢
      obtain ⟨ex, ex2⟩ := hix pr.length hjl
      have hj' : j = (pr.length : Int) := by omega
      rw [hj'] at F8 ⊢
      have hlr2 := hV.len
      have hne : ∀ p ∈ own ++ own2, p.1 ≠ D := by
        intro p hp
        rcases List.mem_append.mp hp with hp | hp
        · exact hoff p hp D (List.Mem.head _)
        · exact hoff2 p hp D (List.Mem.head _)
      have N7 : News s.heap _ h8 ((D, W.listOf us2.toArray c) :: (own ++ own2)) := N8
      have hstep := fun (re mn : Int) => in_step (res' := re) (mn' := mn) hC hlt hjl hV
      clear N8 hoff hoff2
      obtain ⟨v, hv⟩ : ∃ v, v = (if di2 + sc (M'.getD pre.length 0) (M.getD pr.length 0) < (if row2.getD (pr.length : Int).toNat 0 < re2 then row2.getD (pr.length : Int).toNat 0 else re2) + 2 then di2 + sc (M'.getD pre.length 0) (M.getD pr.length 0) else (if row2.getD (pr.length : Int).toNat 0 < re2 then row2.getD (pr.length : Int).toNat 0 else re2) + 2) := ⟨_, rfl⟩
      have hv2 : v = min (min re2 (row2.getD pr.length 0) + 2) (di2 + sc (M'.getD pre.length 0) (M.getD pr.length 0)) := by rw [hv, ite_min, ite_min]; rfl
      try k_fold
      k_steps
      · refine go ?_
        simp only [← hv] at *
        with_reducible rename (v < mn2) => hq
        with_unfolding_all refine' kst_end (us2.set (pr.length : Int).toNat (Value.int v ?ct), row2.set (pr.length : Int).toNat v, (row2.getD (pr.length : Int).toNat 0, ?cd), (v, ?cf), v, ?ch) ?kF ?kN ?kn ?ko rfl ?kf ?kk ?kr ?kp
        case kN => (with_reducible rename News _ _ _ _ => rgX); exact rgX
        case kF => (with_reducible rename Fr _ _ _ _ => rgX); exact rgX
        case kf => assumption
        case kk => exact List.forall_mem_cons.mpr ⟨by with_unfolding_all rfl, List.forall_mem_cons.mpr ⟨by with_unfolding_all rfl, List.forall_mem_cons.mpr ⟨by with_unfolding_all rfl, List.forall_mem_nil _⟩⟩⟩
        case kn =>
          intro p hp
          rcases List.mem_cons.mp hp with rfl | hp
          · exact .head _
          · exact .tail _ (List.mem_append_left _ hp)
        case ko => exact fun p hp => .tail _ (List.mem_append_right _ hp)
        case kr => walk_at "mine rest"
        case kp =>
          dsimp only
          rw [List.length_append, List.length_singleton]
          exact hstep v v hv2 ⟨Int.le_of_lt hq, Int.le_refl _⟩
      · refine go ?_
        simp only [← hv] at *
        with_reducible rename (¬ v < mn2) => hq
        with_unfolding_all refine' kst_end (us2.set (pr.length : Int).toNat (Value.int v ?ct), row2.set (pr.length : Int).toNat v, (row2.getD (pr.length : Int).toNat 0, ?cd), (v, ?cf), mn2, tm2) ?kF ?kN ?kn ?ko rfl ?kf ?kk ?kr ?kp
        case kN => (with_reducible rename News _ _ _ _ => rgX); exact rgX
        case kF => (with_reducible rename Fr _ _ _ _ => rgX); exact rgX
        case kf => assumption
        case kk => exact List.forall_mem_cons.mpr ⟨by with_unfolding_all rfl, List.forall_mem_cons.mpr ⟨by with_unfolding_all rfl, List.forall_mem_cons.mpr ⟨by with_unfolding_all rfl, List.forall_mem_nil _⟩⟩⟩
        case kn =>
          intro p hp
          rcases List.mem_cons.mp hp with rfl | hp
          · exact .head _
          · exact .tail _ (List.mem_append_left _ hp)
        case ko => exact fun p hp => .tail _ (List.mem_append_right _ hp)
        case kr => walk_at "mine rest"
        case kp =>
          dsimp only
          rw [List.length_append, List.length_singleton]
          exact hstep v mn2 hv2 ⟨Int.le_refl _, Int.not_lt.mp hq⟩
    · rintro ⟨us2, row2, ⟨di2, td2⟩, ⟨re2, tr2⟩, mn2, tm2⟩ u2 h8 tk8 hI2 hV F8 N8
      dsimp only at hI2 hV F8 N8 ⊢
      rw [rangeKs_length] at hV
      try k_fold
      k_steps
      · rename_i hmm
        have e := mn_early hC hlt hV hmc (by simpa using hmm)
        rw [e]
        exact ret _ _ _ (Fr.keep (by assumption))
      · refine go ?_
        refine kst_end (us2, row2, re2, tr2) F8 N8 ?_ ?_ rfl hI2 ?_ ?_ ?_
        · intro p hp
          exact List.mem_append_left _ hp
        · intro p hp
          exact List.mem_append_right _ hp
        · intro p hp; rw [List.mem_singleton.mp hp]; with_unfolding_all rfl
        · walk_at "mine rest"
        · dsimp only
          rw [List.length_append, List.length_singleton]
          exact ⟨row_next hC hlt hV, fun h => row_last hC h hV⟩
  · rintro ⟨us1, row1, res1, t1⟩ u h9 tk9 hI1 ⟨hR, hres⟩ F9 N9
    dsimp only at hI1 hR hres F9 N9 ⊢
    try k_fold
    k_steps
    rw [hres (rangeKs_length _ _)]
    exact ret _ _ _ (Fr.keep (by assumption))
end Mine
end
section
namespace Mine
/-- the sum of the figures of v in base b -/
def dsum (b v : Nat) : Nat := if h : v = 0 ∨ b < 2 then 0 else v % b + dsum b (v / b)
termination_by v
decreasing_by
  have h1 : v ≠ 0 := fun e => h (.inl e)
  have h2 : ¬ b < 2 := fun e => h (.inr e)
  exact Nat.div_lt_self (by omega) (by omega)
theorem dsum_0 (b : Nat) : dsum b 0 = 0 := by rw [dsum]; simp
theorem dsum_rec {b : Nat} (hb : 2 ≤ b) (v : Nat) : dsum b v = v % b + dsum b (v / b) := by
  by_cases h : v = 0
  · subst h; simp [dsum_0]
  · rw [dsum, dif_neg (by omega)]
theorem fmod_nat (a b : Nat) : Int.fmod (a : Int) (b : Int) = ((a % b : Nat) : Int) := by
  rw [Int.fmod_eq_emod_of_nonneg _ (by omega)]; simp
theorem fdiv_nat (a b : Nat) : Int.fdiv (a : Int) (b : Int) = ((a / b : Nat) : Int) := by
  rw [Int.fdiv_eq_ediv_of_nonneg _ (by omega)]; simp
end Mine
end
section
open PySem PySem.W PyProof.Rows PySem.Calls
set_option maxRecDepth 100000
set_option maxHeartbeats 8000000


namespace Mine
theorem reset_Sum : True := by
  w_top off
  k_with_none
  trivial
theorem sum_c {w : World} {dp un : Nat} {fr : Option (List Env)} {gd : Option (List Code)} {s : Shared} {Q E : Value → Shared → Prop} {mean : ExcName → Option Value} {mg mb : Str → Option Value} {v b : Nat} {tx ty : Tok}
    (X : (hd.heap_39 w.params).In s.heap) (T : Top hd.view_39 (looseW hd.view_39 []) mean mg mb s.heap) (hr : dp + 1 < recursionLimit) (hb : 2 ≤ b) (hb2 : b ≤ 64)
    (ret : ∀ t h' tk', s.heap.StaysIn h' → Q (.int (dsum b v) t) { s with heap := h', toks := tk' }) :
    wpAny (model PySem.Challenge.rw_ny0086_01.row.prog w) (Ar dp fr gd un) (call (.ref 49) [.int v tx, .int b ty]) Q E s := by
  k_with "mine enter" => ( refine wpAny_call ?_; k_dflt (refine' enter_c (by assumption) (Top.nolimit (by assumption)) ?hk6 ?hk7 ?hk8 ?hk9 ?hkB ?_ ?hc5 ?hc2 ?hc3 ?hc4; (case hk6 => k_is); (case hk7 => k_is); (case hk8 => ((try dsimp only [Ar]); omega)); (case hk9 => exact BindsTo.of_eq rfl); (case hc5 => decide); (case hkB => exact locs rfl); (case hc2 => exact rfl); (case hc3 => exact rfl); (case hc4 => exact rfl)); intro yL' yh' yF' yN'; (try dsimp only); (try k_fold))
  k_with "exec While" => refine stop ?_
  k_with "KswEnd" => refine stop ?_
  revert X; k_fill; intro X
  walk_at "mine enter"
  k_steps
  refine go ?_
  with_unfolding_all refine' ksw_while (σ := Nat × Nat × Tok × Tok) (fun _ => []) (fun c => [(Str.ofString "total", Value.int (c.1 : Int) c.2.2.1), (Str.ofString "number", Value.int (c.2.1 : Int) c.2.2.2)]) (fun _ => True) [] (fun c => c.1 + dsum b c.2.1 = dsum b v ∧ c.2.1 ≤ v) (fun c => c.2.1) (0, v, _, _) ?z3 ?z4 True.intro ?z5 ⟨by simp, Nat.le_refl _⟩ ?_
  case z3 => (with_reducible rename Fr _ _ _ _ => rgX); exact rgX
  case z4 => (with_reducible rename News _ _ _ _ => rgX); exact rgX
  case z5 => exact List.forall_mem_cons.mpr ⟨by with_unfolding_all rfl, List.forall_mem_cons.mpr ⟨by with_unfolding_all rfl, List.forall_mem_nil _⟩⟩
  rintro ⟨tot, rem, t1, t2⟩ u h tk _ ⟨hP, hle⟩ F9 N9
  dsimp only at hP hle F9 N9 ⊢
  k_steps
  · refine go ?_
    simp only [fdiv_nat, fmod_nat, ← Int.natCast_add] at *
    with_unfolding_all refine' ksw_end (tot + rem % b, rem / b, ?t1, ?t2) ?kF ?kN ?kn True.intro ?kk ?kr ?kp ?km
    case kF => (with_reducible rename Fr _ _ _ _ => rgX); exact rgX
    case kN => (with_reducible rename News _ _ _ _ => rgX); exact rgX
    case kn => exact List.forall_mem_nil _
    case kk => exact List.forall_mem_cons.mpr ⟨by with_unfolding_all rfl, List.forall_mem_cons.mpr ⟨by with_unfolding_all rfl, List.forall_mem_nil _⟩⟩
    case kr =>
      intro z h2 h3
      simp only [List.forall_mem_cons, List.not_mem_nil, false_implies, implies_true, and_true, ne_eq] at h2
      simp [kstB, h2]
    case kp =>
      dsimp only
      have := dsum_rec hb rem
      exact ⟨by omega, Nat.le_trans (Nat.div_le_self _ _) hle⟩
    case km =>
      dsimp only
      exact Nat.div_lt_self (by omega) (by omega)
  · have e : rem = 0 := by omega
    subst e
    rw [dsum_0] at hP
    have e2 : tot = dsum b v := by omega
    subst e2
    exact ret _ _ _ (Fr.keep (by assumption))
end Mine
end
section
open PySem PySem.W PyProof.Rows PySem.Calls
set_option maxRecDepth 100000
set_option maxHeartbeats 8000000
namespace Mine
section
variable {prog : Program} {w : World} {A : Around} {E : Value → Shared → Prop} {s : Shared} {h₀ : Heap} {L : Addr} {m : Str → Option Value} {news : List (Addr × Obj)}
theorem applied_two {sl : Addr} {u : Tok} {Q : Int × Int × Nat → Shared → Prop} (hs : s.heap.IsSliceOf sl .none (.int 2 u) .none) (h : Q (0, 1, 2) s) :
    wpAny (model prog w) A (Builtin.Slice.sliceApplied (.ref sl) (pure (5 : Int))) Q E s := by
  obtain ⟨os, hos, hcs, hds⟩ := id hs
  unfold Builtin.Slice.sliceApplied Builtin.Slice.sliceFields
  refine wpAny_bind (wpAny_bind (wpAny_field hos hds (x := .none) rfl (wpAny_bind (wpAny_field hos hds (x := .int 2 u) rfl (wpAny_bind (wpAny_field hos hds (x := .none) rfl (wpAny_pure ?_)))))))
  refine wpAny_bind (slicePart_none ?_)
  show wpAny _ _ (if ((1 : Int) == 0) = true then _ else _) _ _ s
  rw [if_neg (by decide)]
  refine wpAny_bind (slicePart_none (wpAny_bind (slicePart_int (wpAny_bind (wpAny_pure ?_)))))
  show wpAny _ _ (match Builtin.Slice.sliceAdjust none (some 2) 1 5 with | (lo, hi) => pure (lo, (1 : Int), Builtin.Slice.slicePlaces lo hi 1)) _ _ s
  rw [show Builtin.Slice.sliceAdjust none (some 2) 1 5 = (0, 2) by decide]
  show wpAny _ _ (pure ((0 : Int), (1 : Int), Builtin.Slice.slicePlaces 0 2 1)) _ _ s
  rw [show Builtin.Slice.slicePlaces 0 2 1 = 2 by decide]
  exact wpAny_pure h
/-- t[:2] of a tuple of five -/
theorem tuple_two {t sl : Addr} {v0 v1 v2 v3 v4 : Value} {u : Tok} {Q : Value → Shared → Prop} (ht : IsTup s.heap t #[v0, v1, v2, v3, v4]) (hs : s.heap.IsSliceOf sl .none (.int 2 u) .none)
    (h : Q (.ref s.heap.objs.size) { s with heap := s.heap.push { cls := .type "tuple", data := .seq #[v0, v1] } }) : wpAny (model prog w) A (getItem (.ref t) (.ref sl)) Q E s := by
  have hz : sizeOk (.seq #[v0, v1]) := by
    show (2 : Nat) ≤ sizeLine
    rw [sizeLine_eq]; omega
  obtain ⟨os, hos, hcs, hds⟩ := id hs
  have hTs : s.TypeIs (.ref sl) "slice" := ⟨os, hos, hcs⟩
  unfold getItem
  try with_reducible refine wpAny_holding ?_
  first | refine wpAny_bind (wpAny_pure ?_) | skip
  refine wpAny_bind (wpAny_sequenceKey ht.typeIs (by decide) ?_)
  refine wpAny_bind (wpAny_callSpecial?_slot (name := Str.ofString "__getitem__") ht.typeIs slot_tuple_getitem
    (wpAny_call_entry slot_tuple_getitem ht.typeIs entry_tuple_getitem ?_ (args_tuple_getitem _ _)))
  show wpAny _ _ (Builtin.Tuple.tupleItemsOf (.ref t) >>= _) _ _ s
  refine wpAny_bind (tupleItemsOf_ ht ?_)
  refine wpAny_bind (wpAny_typeOf hTs ?_)
  rw [if_pos (by decide)]
  refine wpAny_bind (applied_two hs ?_)
  show wpAny _ _ (if ((0 : Int) == 0 && (1 : Int) == 1 && (2 : Nat) == 5) = true then _ else _) _ _ s
  rw [if_neg (by decide)]
  first
    | exact wpAny_bind (m := Builtin.Tuple.tupleExact _) (wpAny_newObj_type (wpAny_pure ⟨_, rfl, wpAny_pure h⟩) hz)
    | exact wpAny_bind (m := Builtin.Tuple.tupleExact _) (wpAny_newObj_type (wpAny_bind (wpAny_pure (wpAny_pure ⟨_, rfl, wpAny_pure h⟩))) hz)
    | exact wpAny_bind (wpAny_bind (m := Builtin.Tuple.tupleExact _) (wpAny_newObj_type (wpAny_pure (wpAny_pure ⟨_, rfl, wpAny_pure h⟩)) hz))
    | exact wpAny_bind (wpAny_bind (m := Builtin.Tuple.tupleExact _) (wpAny_newObj_type (wpAny_pure ⟨_, rfl, wpAny_pure h⟩) hz))
theorem slice_two {value slice : Expr} {t : Addr} {v0 v1 v2 v3 v4 : Value} {u : Tok} {Q : Value → Shared → Prop}
    (F : Fr h₀ L s.heap m) (N : News h₀ L s.heap news) (ht : IsTup s.heap t #[v0, v1, v2, v3, v4])
    (h : ∀ D h', Fr h₀ L h' m → News h₀ L h' ((D, { cls := .type "tuple", data := .seq #[v0, v1] }) :: news) → (∀ p ∈ news, p.1 < D) → Q (.ref D) { s with heap := h' })
    (hs : subscripted slice false (.ref t) (.ref s.heap.objs.size) = operate [.ref s.heap.objs.size, .ref t] (getItem (.ref t) (.ref s.heap.objs.size)) := by with_unfolding_all rfl)
    (hg : ∀ r, letTemporaryGo value (.ref t) r = pure () := by intro _; with_unfolding_all rfl) :
    wpAny (model prog w) A (subscriptTail value slice (.ref t) (.ref s.heap.objs.size)) Q E { s with heap := s.heap.push { cls := .type "slice", data := .fields #[.none, .int 2 u, .none] } } := by
  have ht' : IsTup (s.heap.push { cls := .type "slice", data := .fields #[.none, .int 2 u, .none] }) t #[v0, v1, v2, v3, v4] := ht.keeps fun _ _ e => Heap.get?_push_of_some _ e
  refine subscriptTail_ops (s := { s with heap := s.heap.push { cls := .type "slice", data := .fields #[.none, .int 2 u, .none] } }) ht'.typeIs slot_tuple_getitem.lookup
    (tuple_two ht' (Heap.IsSliceOf.new ..) ?_) hs hg
  have N1 := News.push (F.push { cls := .type "slice", data := .fields #[.none, .int 2 u, .none] }) (N.grown fun _ _ e => Heap.get?_push_of_some _ e) { cls := .type "tuple", data := .seq #[v0, v1] }
  refine h _ _ ((F.push _).push _) N1 fun p hp => ?_
  have := Heap.lt_size (N p hp).1
  rw [Heap.size_push]
  exact Nat.lt_succ_of_lt this
end
end Mine
end
section
open PySem PySem.W PyProof.Rows PySem.Calls
set_option maxRecDepth 100000
set_option maxHeartbeats 8000000
namespace Mine
section
variable {prog : Program} {w : World} {A : Around} {E : Value → Shared → Prop} {s : Shared} {h₀ : Heap} {L t : Addr} {m : Str → Option Value} {news : List (Addr × Obj)} {a b : Int} {ta tb : Tok} {n : Nat} {Q : Value → Shared → Prop}
theorem slice_rest {value slice : Expr} {v0 v1 v2 v3 v4 : Value} {u : Tok} 
    (F : Fr h₀ L s.heap m) (N : News h₀ L s.heap news) (ht : IsTup s.heap t #[v0, v1, v2, v3, v4])
    (h : ∀ D h', Fr h₀ L h' m → News h₀ L h' ((D, { cls := .type "tuple", data := .seq #[v2, v3, v4] }) :: news) → (∀ p ∈ news, p.1 < D) → Q (.ref D) { s with heap := h' })
    (hs : subscripted slice false (.ref t) (.ref s.heap.objs.size) = operate [.ref s.heap.objs.size, .ref t] (getItem (.ref t) (.ref s.heap.objs.size)) := by with_unfolding_all rfl)
    (hg : ∀ r, letTemporaryGo value (.ref t) r = pure () := by intro _; with_unfolding_all rfl) :
    wpAny (model prog w) A (subscriptTail value slice (.ref t) (.ref s.heap.objs.size)) Q E { s with heap := s.heap.push { cls := .type "slice", data := .fields #[.int 2 u, .none, .none] } } :=
  slice_tuple_from (a := 2) F N ht (by decide) (show 2 ≤ 5 by decide) (fun h' F' N' => h _ h' F' N' fun p hp => Nat.lt_succ_of_lt (Heap.lt_size (N p hp).1)) hs hg (show 5 ≤ sizeLine by rw [sizeLine_eq]; omega)
theorem pair_iter {R : Value → Shared → Prop} (hT : s.heap.IsTuple t (intItems #[(a, ta), (b, tb)])) (h : ∀ s₂ : Shared, s₂ = { s with heap := s.heap.push { cls := .type "tuple_iterator", data := .fields #[.ref t, .int 0 0] } } →
      (s₂.heap.IsTupleIter s.heap.objs.size t 0 ∧ s₂.heap.IsTuple t (intItems #[(a, ta), (b, tb)])) → (∀ c ∈ [s.heap.objs.size, t], c < s₂.heap.objs.size) → t ≠ s.heap.objs.size → R (.ref s.heap.objs.size) s₂) :
    wpAny (model prog w) A (pyIter (.ref t)) R E s := by
  have hlt : t < s.heap.objs.size := by obtain ⟨_, e, _⟩ := hT; exact Heap.lt_size e
  refine wpAny_pyIter_tuple hT (h _ rfl ⟨⟨_, Heap.get?_push_size _ rfl, rfl, rfl⟩, hT.push _⟩ (fun c hc => ?_) (Nat.ne_of_lt hlt))
  show c < (s.heap.push _).objs.size
  rw [Heap.size_push]
  rcases List.mem_cons.mp hc with rfl | hc
  · exact Nat.lt_succ_self _
  · rw [List.mem_singleton.mp hc]; exact Nat.lt_succ_of_lt hlt
theorem pair_kept {h' : Heap} (hk : ∀ b o, b ∉ [s.heap.objs.size] → (s.heap.push { cls := .type "tuple_iterator", data := .fields #[.ref t, .int 0 0] }).get? b = some o → h'.get? b = some o) :
    ∀ b o, s.heap.get? b = some o → h'.get? b = some o := fun b o e => by
  refine hk b o (fun hm => ?_) (Heap.get?_push_of_some _ e)
  exact absurd (List.mem_singleton.mp hm ▸ Heap.lt_size e) (Nat.lt_irrefl _)
theorem min_pair (hh : A.handled = none) (F : Fr h₀ L s.heap m) (N : News h₀ L s.heap news) (hT : s.heap.get? t = some { cls := .type "tuple", data := .seq #[.int a ta, .int b tb] n })
    (h : ∀ h' tk t', Fr h₀ L h' m → News h₀ L h' news → Q (.int (min a b) t') { s with heap := h', toks := tk }) :
    wpAny (model prog w) A (call (.builtin "min") [.ref t]) Q E s := by
  have hT' : s.heap.IsTuple t (intItems #[(a, ta), (b, tb)]) := ⟨_, hT, rfl, n, by simp [intItems]⟩
  refine call_min_walk (pair_iter hT' fun s₂ e st hfp hlI => ?_)
  subst e
  refine ⟨_, _, _, _, _, _, _, rfl, Walks.tuple (A := A.in1) hh _ t hlI (intItems #[(a, ta), (b, tb)]), st, hfp, by simp [intItems], CmpOf.ints_lt (numAt #[(a, ta), (b, tb)]) (fun _ _ => intItems_at), fun v h' tk hP hk => ?_⟩
  have hk' := pair_kept hk
  have hP' : (intItems #[(a, ta), (b, tb)])[argBest (fun i j => decide (numAt #[(a, ta), (b, tb)] i < numAt #[(a, ta), (b, tb)] j)) 1]? = some v := by
    have hsz2 : (intItems #[(a, ta), (b, tb)]).size - 1 = 1 := by simp [intItems]
    rw [← hsz2]; exact hP
  have hv : ∃ t', v = .int (min a b) t' := by
    by_cases hba : b < a
    · have e : argBest (fun i j => decide (numAt #[(a, ta), (b, tb)] i < numAt #[(a, ta), (b, tb)] j)) 1 = 1 := by simp [argBest, numAt, hba]
      rw [e] at hP'
      refine ⟨tb, ?_⟩
      rw [show min a b = b by omega]
      simpa [intItems] using hP'.symm
    · have e : argBest (fun i j => decide (numAt #[(a, ta), (b, tb)] i < numAt #[(a, ta), (b, tb)] j)) 1 = 0 := by simp [argBest, numAt, hba]
      rw [e] at hP'
      refine ⟨ta, ?_⟩
      rw [show min a b = a by omega]
      simpa [intItems] using hP'.symm
  obtain ⟨t', rfl⟩ := hv
  exact h h' tk t' (F.keeps hk') (news_stays N hk')
theorem max_pair (hh : A.handled = none) (F : Fr h₀ L s.heap m) (N : News h₀ L s.heap news) (hT : s.heap.get? t = some { cls := .type "tuple", data := .seq #[.int a ta, .int b tb] n })
    (h : ∀ h' tk t', Fr h₀ L h' m → News h₀ L h' news → Q (.int (max a b) t') { s with heap := h', toks := tk }) :
    wpAny (model prog w) A (call (.builtin "max") [.ref t]) Q E s := by
  have hT' : s.heap.IsTuple t (intItems #[(a, ta), (b, tb)]) := ⟨_, hT, rfl, n, by simp [intItems]⟩
  refine call_max_walk (pair_iter hT' fun s₂ e st hfp hlI => ?_)
  subst e
  refine ⟨_, _, _, _, _, _, _, rfl, Walks.tuple (A := A.in1) hh _ t hlI (intItems #[(a, ta), (b, tb)]), st, hfp, by simp [intItems], CmpOf.ints_gt (numAt #[(a, ta), (b, tb)]) (fun _ _ => intItems_at), fun v h' tk hP hk => ?_⟩
  have hk' := pair_kept hk
  have hP' : (intItems #[(a, ta), (b, tb)])[argBest (fun i j => decide (numAt #[(a, ta), (b, tb)] i > numAt #[(a, ta), (b, tb)] j)) 1]? = some v := by
    have hsz2 : (intItems #[(a, ta), (b, tb)]).size - 1 = 1 := by simp [intItems]
    rw [← hsz2]; exact hP
  have hv : ∃ t', v = .int (max a b) t' := by
    by_cases hba : b > a
    · have e : argBest (fun i j => decide (numAt #[(a, ta), (b, tb)] i > numAt #[(a, ta), (b, tb)] j)) 1 = 1 := by simp [argBest, numAt, hba]
      rw [e] at hP'
      refine ⟨tb, ?_⟩
      rw [show max a b = b by omega]
      simpa [intItems] using hP'.symm
    · have e : argBest (fun i j => decide (numAt #[(a, ta), (b, tb)] i > numAt #[(a, ta), (b, tb)] j)) 1 = 0 := by simp [argBest, numAt, hba]
      rw [e] at hP'
      refine ⟨ta, ?_⟩
      rw [show max a b = a by omega]
      simpa [intItems] using hP'.symm
  obtain ⟨t', rfl⟩ := hv
  exact h h' tk t' (F.keeps hk') (news_stays N hk')
end
end Mine
end
section
open PySem PySem.W PyProof.Rows PySem.Calls
set_option maxRecDepth 100000
set_option maxHeartbeats 8000000
namespace Mine
theorem reset_Due : True := by
  w_top off
  k_with_none
  trivial
theorem sum_i {w : World} {dp un : Nat} {fr : Option (List Env)} {gd : Option (List Code)} {s : Shared} {Q E : Value → Shared → Prop} {mean : ExcName → Option Value} {mg mb : Str → Option Value} {a b : Int} {v bb : Nat} {tx ty : Tok} {h₀ : Heap} {L : Addr} {m : Str → Option Value} {news : List (Addr × Obj)}
    (ha : a = v) (hb : b = bb) (h2 : 2 ≤ bb) (h3 : bb ≤ 64) (X : (hd.heap_39 w.params).In h₀) (T : Top hd.view_39 (looseW hd.view_39 []) mean mg mb h₀) (F : Fr h₀ L s.heap m) (N : News h₀ L s.heap news) (hr : dp + 1 < recursionLimit)
    (ret : ∀ t h' tk', Fr h₀ L h' m → News h₀ L h' news → Q (.int (dsum bb v) t) { s with heap := h', toks := tk' }) :
    wpAny (model PySem.Challenge.rw_ny0086_01.row.prog w) (Ar dp fr gd un) (call (.ref 49) [.int a tx, .int b ty]) Q E s := by
  subst ha hb
  exact sum_c (X.keeps F.keep) (T.keeps F.keep) hr h2 h3 fun t h' tk' st => ret t h' tk' (F.keeps st) (news_stays N st)
abbrev Letter (b p f lo : Nat) : Prop := b = 64 ∧ 0 < p ∧ f = 32 ∧ 0 < lo / 64 ^ p % 32 ∧ lo / 64 ^ p % 32 < 27
/-- what _law_due tells -/
def duev (b p f lo hi : Nat) : Int := 2 * Int.fdiv ((dsum b lo : Int) + f - dsum b hi) ((b : Int) - 1) + (if Letter b p f lo then 1 else 2)
theorem duev_1 {b p f lo hi : Nat} (h : Letter b p f lo) : duev b p f lo hi = 2 * Int.fdiv ((dsum b lo : Int) + f - dsum b hi) ((b : Int) - 1) + 1 := by unfold duev; rw [if_pos h]
theorem duev_2 {b p f lo hi : Nat} (h : ¬ Letter b p f lo) : duev b p f lo hi = 2 * Int.fdiv ((dsum b lo : Int) + f - dsum b hi) ((b : Int) - 1) + 2 := by unfold duev; rw [if_neg h]
theorem due_c {w : World} {dp un : Nat} {fr : Option (List Env)} {gd : Option (List Code)} {s : Shared} {Q E : Value → Shared → Prop} {mean : ExcName → Option Value} {mg mb : Str → Option Value} {n0 n1 b p f : Nat} {r : Addr} {t0 t1 t2 t3 t4 : Tok}
    (X : (hd.heap_39 w.params).In s.heap) (T : Top hd.view_39 (looseW hd.view_39 []) mean mg mb s.heap) (hr : dp + 2 < recursionLimit) 
    (hR : IsTup s.heap r #[.int n0 t0, .int n1 t1, .int b t2, .int p t3, .int f t4]) (hb : b = 10 ∨ b = 64) (hp : p < 4)
    (ret : ∀ t h' tk', s.heap.StaysIn h' → Q (.int (duev b p f (min n0 n1) (max n0 n1)) t) { s with heap := h', toks := tk' }) :
    wpAny (model PySem.Challenge.rw_ny0086_01.row.prog w) (Ar dp fr gd un) (call (.ref 63) [.ref r]) Q E s := by
  k_with "mine enter" => ( refine wpAny_call ?_; k_dflt (refine' enter_c (by assumption) (Top.nolimit (by assumption)) ?hk6 ?hk7 ?hk8 ?hk9 ?hkB ?_ ?hc5 ?hc2 ?hc3 ?hc4; (case hk6 => k_is); (case hk7 => k_is); (case hk8 => ((try dsimp only [Ar]); omega)); (case hk9 => exact BindsTo.of_eq rfl); (case hc5 => decide); (case hkB => exact locs rfl); (case hc2 => exact rfl); (case hc3 => exact rfl); (case hc4 => exact rfl)); intro yL' yh' yF' yN'; (try dsimp only); (try k_fold))
  k_with "subscriptTail Name Slice ref ref" => (first | ((rename Fr _ _ _ _ => zF'); (rename News _ _ _ _ => zN'); (with_unfolding_all refine slice_two (s := ⟨_, _, _, _, _⟩) zF' zN' (IsTup.keeps (by assumption) (Fr.keep zF')) ?_); intro yD' yh' yF' yN' yl1; (try k_lt yl1); (try k_sweep); (try dsimp only)) | ((rename Fr _ _ _ _ => zF'); (rename News _ _ _ _ => zN'); (with_unfolding_all refine slice_rest (s := ⟨_, _, _, _, _⟩) zF' zN' (IsTup.keeps (by assumption) (Fr.keep zF')) ?_); intro yD' yh' yF' yN' yl1; (try k_lt yl1); (try k_sweep); (try dsimp only)))
  k_with "call builtin:min" => ((with_reducible show wpAny _ _ (call (Value.builtin _) [Value.ref _]) _ _ _); (rename Fr _ _ _ _ => zF'); (rename News _ _ _ _ => zN'); (with_unfolding_all refine min_pair rfl zF' zN' ((zN' _ (List.Mem.head _)).1) ?_); intro yh' ytk' yt' yF' yN'; (try dsimp only))
  k_with "call builtin:max" => ((with_reducible show wpAny _ _ (call (Value.builtin _) [Value.ref _]) _ _ _); (rename Fr _ _ _ _ => zF'); (rename News _ _ _ _ => zN'); (with_unfolding_all refine max_pair rfl zF' zN' ((zN' _ (List.Mem.head _)).1) ?_); intro yh' ytk' yt' yF' yN'; (try dsimp only))
  k_with "call ref" => ((show wpAny _ _ (call (Value.ref 49) [Value.int _ _, Value.int _ _]) _ _ _); k_dflt (refine' sum_i ?hk1 ?hk2 ?hk3 ?hk4 ?hk5 ?hk6 ?hk7 ?hk8 ?hk9 ?_; (case hk7 => assumption); (case hk8 => assumption); (case hk5 => assumption); (case hk6 => assumption); (case hk1 => assumption); (case hk2 => rfl); (case hk3 => omega); (case hk4 => omega); (case hk9 => omega)); intro yt9 yh9 ytk9 yF9 yN9; (try dsimp only))
  k_with "binaryOp FloorDiv int int" => (with_reducible refine floordiv_int (by assumption) ?_ (Or.inl (PyProof.noPylong_small (by first | assumption | omega))))
  have hlo : min (n0 : Int) (n1 : Int) = ((min n0 n1 : Nat) : Int) := by omega
  have hhi : max (n0 : Int) (n1 : Int) = ((max n0 n1 : Nat) : Int) := by omega
  have hpw : (64 : Int) ^ (p : Int).toNat ≠ 0 := by
    have : (p : Int).toNat = p := by omega
    rw [this]
    exact Int.pow_ne_zero (by decide)
  have hpw2 : ((64 : Int) ^ (p : Int).toNat).natAbs < 1073741824 := by
    have : (p : Int).toNat = p := by omega
    rw [this]
    rcases (show p = 0 ∨ p = 1 ∨ p = 2 ∨ p = 3 by omega) with h | h | h | h <;> subst h <;> decide
  have hfm : ((min (n0 : Int) (n1 : Int)).fdiv (64 ^ (p : Int).toNat)).fmod 32 = ((min n0 n1 / 64 ^ p % 32 : Nat) : Int) := by
    have : (p : Int).toNat = p := by omega
    rw [this, hlo, show (64 : Int) ^ p = ((64 ^ p : Nat) : Int) by simp, fdiv_nat]
    exact fmod_nat _ 32
  revert X; k_fill; intro X
  walk_at "mine enter"
  k_steps
  all_goals (try (exfalso; omega))
  all_goals (try rw [hfm] at *)
  all_goals first
    | (rw [duev_1 ⟨by omega, by omega, by omega, by omega, by omega⟩] at ret; exact ret _ _ _ (Fr.keep (by assumption)))
    | (rw [duev_2 (by rintro ⟨g1, g2, g3, g4, g5⟩; omega)] at ret; exact ret _ _ _ (Fr.keep (by assumption)))
end Mine
end
section
open PySem PySem.W PyProof.Rows PySem.Calls
set_option maxRecDepth 100000
set_option maxHeartbeats 8000000
namespace Mine
/-- an iterator over bytes, at place i -/
abbrev biter (b : Array UInt8) (t : Tok) (i : Nat) : Obj := { cls := .type "bytes_iterator", data := .fields #[.bytes b t, .int i 0] }
section
variable {prog : Program} {w : World} {A : Around} {E : Value → Shared → Prop} {s : Shared} {h₀ : Heap} {L it : Addr} {m : Str → Option Value} {news : List (Addr × Obj)} {b : Array UInt8} {t : Tok} {i : Nat} {c : UInt8} {Q : Value → Shared → Prop}
theorem next_bytes (F : Fr h₀ L s.heap m) (N : News h₀ L s.heap [(it, biter b t i)]) (hx : b[i]? = some c)
    (h : ∀ h' tk t', Fr h₀ L h' m → News h₀ L h' [(it, biter b t (i + 1))] → Q (.int (c.toNat : Int) t') { s with heap := h', toks := tk }) :
    wpAny (model prog w) A (call (.builtin "next") [.ref it]) Q E s := by
  have hm := N _ (List.Mem.head _)
  have ho := hm.1
  have hit : KBw.IsBytesIter s.heap it b t i := ⟨_, ho, rfl, rfl⟩
  refine call_function_entry (by decide +kernel) (by decide +kernel) kdk_entry_next (kdk_args_next _) ?_
  unfold Builtin.«next»
  refine wpAny_bind (m := someArgs "next" 1 2 _) (wpAny_of_eq (a := [Value.ref it]) (by first | rfl | kernel_rfl!) ?_)
  dsimp only
  refine wpAny_bind (wpAny_specialOf (name := Str.ofString "__next__") (KBw.iter_typeIs hit) KBw.slot_next.lookup ?_)
  refine wpAny_ite_split (fun hab => absurd hab (by decide)) (fun _ => ?_)
  refine wpAny_bind (wpAny_callSpecial?_slot (name := Str.ofString "__next__") (KBw.iter_typeIs hit) KBw.slot_next
    (wpAny_call_entry KBw.slot_next (KBw.iter_typeIs hit) KBw.entry_next ?_ (KBw.args_next _)))
  show wpAny _ _ (field (.ref it) 0 >>= _) _ _ s
  refine wpAny_bind (wpAny_field ho rfl (x := .bytes b t) rfl ?_)
  show wpAny _ _ (if (Value.bytes b t == Value.none) = true then _ else _) _ _ s
  rw [if_neg (show ¬ ((Value.bytes b t == Value.none) = true) from Bool.false_ne_true)]
  show wpAny _ _ (field (.ref it) 1 >>= _) _ _ s
  refine wpAny_bind (wpAny_field ho rfl (x := .int i 0) rfl ?_)
  refine wpAny_bind (wpAny_of_eq (a := b) rfl ?_)
  simp only [Int.toNat_natCast, hx]
  refine wpAny_bind (wpAny_setField ho rfl (by simp) (wpAny_bind (wpAny_mkInt (wpAny_pure ⟨_, rfl, wpAny_pure ⟨_, rfl, ?_⟩⟩))))
  have hs := Heap.SameBut.update s.heap it (Obj.mapFields (·.setIfInBounds 1 (rawInt ((i : Int) + 1))))
  refine h _ _ _ (F.change hs hm.2.1 hm.2.2) ?_
  intro p hp
  rw [List.mem_singleton.mp hp]
  refine ⟨?_, hm.2⟩
  exact Heap.get?_update_self _ ho rfl
theorem iter_bytes (F : Fr h₀ L s.heap m) (N : News h₀ L s.heap news)
    (h : ∀ I h', Fr h₀ L h' m → News h₀ L h' ((I, biter b t 0) :: news) → (∀ p ∈ news, p.1 < I) → Q (.ref I) { s with heap := h' }) :
    wpAny (model prog w) A (call (.builtin "iter") [.bytes b t]) Q E s := by
  refine call_function_entry (by decide +kernel) (by decide +kernel) kdk_entry_iter (kdk_args_iter _) ?_
  unfold Builtin.«iter»
  refine wpAny_bind (m := someArgs "iter" 1 2 _) (wpAny_of_eq (a := [Value.bytes b t]) (by first | rfl | kernel_rfl!) ?_)
  show wpAny _ _ (pyIter (.bytes b t) >>= _) _ _ _
  refine wpAny_bind (KBw.pyIter_bytes ?_)
  exact wpAny_pure ⟨_, rfl, h _ _ (F.push _) (News.push F N _ rfl) (fun q hq => Heap.lt_size (N q hq).1)⟩
end
end Mine
end
section
open PySem PySem.W PyProof.Rows PySem.Calls
namespace Mine
theorem nand0 (v d : Nat) (h : d < 64) : (v * 64) &&& d = 0 := by
  have e1 : d &&& 63 = d := by
    have := Nat.and_two_pow_sub_one_eq_mod d 6
    rw [show (2 ^ 6 - 1 : Nat) = 63 by decide, show (2 ^ 6 : Nat) = 64 by decide] at this
    rw [this]; omega
  have e2 : (v * 64) &&& 63 = 0 := by
    have := Nat.and_two_pow_sub_one_eq_mod (v * 64) 6
    rw [show (2 ^ 6 - 1 : Nat) = 63 by decide, show (2 ^ 6 : Nat) = 64 by decide] at this
    rw [this]; omega
  rw [← e1, Nat.and_comm d, ← Nat.and_assoc, e2, Nat.zero_and]
theorem bor_low (v d : Nat) (h : d < 64) : Builtin.bitOr ((v * 64 : Nat) : Int) (d : Int) = ((v * 64 + d : Nat) : Int) := by
  have h1 := bitXor_and ((v * 64 : Nat) : Int) (d : Int)
  have h2 : Builtin.bitAnd ((v * 64 : Nat) : Int) (d : Int) = 0 := by
    unfold Builtin.bitAnd
    have a1 : decide ((0 : Int) ≤ ((v * 64 : Nat) : Int)) = true := decide_eq_true (by omega)
    have a2 : decide ((0 : Int) ≤ (d : Int)) = true := decide_eq_true (by omega)
    rw [a1, a2]
    show (((((v * 64 : Nat) : Int).toNat &&& (d : Int).toNat) : Nat) : Int) = 0
    rw [Int.toNat_natCast, Int.toNat_natCast, nand0 v d h]
    rfl
  unfold Builtin.bitXor at h1
  rw [h2] at h1
  omega
theorem band63 (c : Nat) : Builtin.bitAnd (c : Int) 63 = ((c % 64 : Nat) : Int) := by
  rw [bitAnd_m6]; omega
theorem band64 (c : Nat) (h : c < 128) : Builtin.bitAnd (c : Int) 64 = if c < 64 then 0 else 64 := by
  have := kbt_bit (c : Int) 6
  rw [show ((2 : Int) ^ 6) = 64 by decide] at this
  rw [this]
  split <;> omega
end Mine
end
section
open PySem PySem.W PyProof.Rows PySem.Calls
set_option maxRecDepth 100000
set_option maxHeartbeats 8000000
namespace Mine
theorem reset_Var : True := by
  w_top off
  k_with_none
  trivial
/-- a def is entered; one object that the caller hands may be changed -/
theorem enter_it {prog : Program} {w : World} {A : Around} {s : Shared} {R : Result → Shared → Prop} {K : Frag} {name qual : Str} {params : Arguments} {body : List Stmt} {scope : Scope} {dV kV doc pm cdv ct oc : Value} {an od : Option Addr} {osl : Array (Option Value)} {f : Addr} {args : Args} {binds : List (Str × Value)} {it : Addr} {io : Obj}
    (X : K.In (s.heap.hide it)) (hlim : (s.heap.hide it).NoLimit) (hio : s.heap.get? it = some io)
    (ho : K.lookup f = some ⟨oc, od, .func (fnOf name qual params body scope dV kV doc pm an cdv ct), osl⟩) (hcd : codeIn K cdv qual = true) (hroom : A.depth < recursionLimit)
    (hbind : BindsTo s (fnOf name qual params body scope dV kV doc pm an cdv ct) args binds) (hloc : ∀ y ∈ binds, scope.names.lookup y.1 = some .local)
    (h : ∀ L' h₁, Fr (s.heap.hide it) L' h₁ (fun y => binds.reverse.lookup y) → News (s.heap.hide it) L' h₁ [(it, io)] →
      wpAny (model prog w) (A.deeper (envOf qual scope L' f cdv)) (execs body (envOf qual scope L' f cdv))
        (fun fl s' => R (.ok (.ret (match fl with | .ret v => v | _ => .none))) s')
        (fun e s' => wpAny (model prog w) (A.deeper (envOf qual scope L' f cdv)) (leaving (envOf qual scope L' f cdv) e) (fun _ s'' => R (.error e) s'') (fun e' s'' => R (.error e') s'') s')
        { s with heap := h₁, toks := s.toks + binds.length })
    (hcell : ∀ x ∈ scope.names, x.2 ≠ .cell) (hco : scope.isCoroutine = false) (hgen : scope.isGenerator = false) (hk : scope.kind = .function) : codeAny (model prog w) A (.call (.ref f) args) R s := by
  have st : ∀ b o, (s.heap.hide it).get? b = some o → s.heap.get? b = some o := fun b o e => Heap.of_hide e
  have X' := X.keeps st
  refine codeAny_call_def (fd := fnOf name qual params body scope dV kV doc pm an cdv ct) (body := body) (binds := binds) hroom (X' _ _ ho) rfl (hlim.keeps st) (codeRec_of X' hcd) rfl hbind hcell hloc (fun h₁ hns hk₁ => ?_) hco hgen hk
  refine h _ h₁ ⟨hns, fun b o e => hk₁ b o (st b o e), Nat.le_of_eq (Heap.hide_size _ _)⟩ fun p hp => ?_
  rw [List.mem_singleton.mp hp]
  exact ⟨hk₁ _ _ hio, Nat.ne_of_lt (Heap.lt_size hio), Heap.hide_self _ _⟩
/-- the i-th octet of n -/
def oc (n i : Nat) : Nat := (if i < 4 then 64 else 0) + n / 64 ^ (4 - i) % 64
theorem oc_lt (n i : Nat) : oc n i < 128 := by
  unfold oc
  have := Nat.mod_lt (n / 64 ^ (4 - i)) (show 0 < 64 by decide)
  split <;> omega
theorem oc_mod (n i : Nat) : oc n i % 64 = n / 64 ^ (4 - i) % 64 := by
  unfold oc
  have := Nat.mod_lt (n / 64 ^ (4 - i)) (show 0 < 64 by decide)
  split <;> omega
theorem oc_test (n i : Nat) : oc n i < 64 ↔ ¬ i < 4 := by
  unfold oc
  have := Nat.mod_lt (n / 64 ^ (4 - i)) (show 0 < 64 by decide)
  split <;> omega
theorem shl6 (v : Nat) : (v : Int) * 2 ^ (6 : Int).toNat = ((v * 64 : Nat) : Int) := by
  rw [show (2 : Int) ^ (6 : Int).toNat = 64 by decide]; omega
theorem pre_step (n i : Nat) (h : i < 4) : n / 64 ^ (4 - i) * 64 + n / 64 ^ (4 - (i + 1)) % 64 = n / 64 ^ (4 - (i + 1)) := by
  have e : 4 - i = (4 - (i + 1)) + 1 := by omega
  rw [e, Nat.pow_succ, ← Nat.div_div_eq_div_mul]
  omega
theorem varint_c {w : World} {dp un : Nat} {fr : Option (List Env)} {gd : Option (List Code)} {s : Shared} {Q E : Value → Shared → Prop} {mean : ExcName → Option Value} {mg mb : Str → Option Value} {h₀ : Heap} {L it : Addr} {m : Str → Option Value} {news : List (Addr × Obj)} {bs : Array UInt8} {tb : Tok} {n : Nat}
    (X₀ : (hd.heap_39 w.params).In h₀) (T₀ : Top hd.view_39 (looseW hd.view_39 []) mean mg mb h₀) (F₀ : Fr h₀ L s.heap m) (N₀ : News h₀ L s.heap ((it, biter bs tb 0) :: news)) (hne : ∀ p ∈ news, p.1 ≠ it) (hr : dp + 1 < recursionLimit)
    (hn : n < 64 ^ 5) (hbs : ∀ i, i < 5 → ∃ c, bs[i]? = some c ∧ c.toNat = oc n i)
    (ret : ∀ t h' tk', Fr h₀ L h' m → News h₀ L h' news → Q (.int n t) { s with heap := h', toks := tk' }) :
    wpAny (model PySem.Challenge.rw_ny0086_01.row.prog w) (Ar dp fr gd un) (call (.ref 21) [.ref it]) Q E s := by
  k_with "exec While" => refine stop ?_
  k_with "KswEnd" => refine stop ?_
  k_with "call builtin:next" => ((rename Fr _ _ _ _ => zF'); (rename News _ _ _ _ => zN'); (with_unfolding_all refine next_bytes zF' zN' (by assumption) ?_); intro yh' ytk' yt' yF' yN'; (try dsimp only))
  have hm := N₀ _ (List.Mem.head _)
  have st : ∀ b o, h₀.get? b = some o → (s.heap.hide it).get? b = some o := fun b o e => by
    have hb : b ≠ it := fun q => by rw [q, hm.2.2] at e; cases e
    rw [Heap.hide_ne _ hb]; exact F₀.keep b o e
  have ret' : ∀ t h' tk', (∀ b o, (s.heap.hide it).get? b = some o → h'.get? b = some o) → Q (.int n t) { s with heap := h', toks := tk' } := by
    intro t h' tk' hk
    have hk2 : ∀ b o, b ≠ it → s.heap.get? b = some o → h'.get? b = some o := fun b o hb e => hk b o (by rw [Heap.hide_ne _ hb]; exact e)
    refine ret t h' tk' ⟨?_, fun b o e => hk b o (st b o e), F₀.above⟩ fun p hp => ⟨hk2 _ _ (hne p hp) (N₀ p (.tail _ hp)).1, (N₀ p (.tail _ hp)).2⟩
    obtain ⟨oL, a1, a2, hoL, a3⟩ := F₀.ns
    exact ⟨oL, a1, a2, hk2 L oL (fun q => hm.2.1 q.symm) hoL, a3⟩
  have X : (hd.heap_39 w.params).In (s.heap.hide it) := X₀.keeps st
  have T := T₀.keeps st
  obtain ⟨c0, hc0, hv0⟩ := hbs 0 (by omega)
  clear X₀ T₀ F₀ N₀ hne ret st
  revert X; k_fill; intro X
  refine wpAny_call ?_
  k_dflt (refine' enter_it X (Top.nolimit T) hm.1 ?k6 ?k7 ?k8 ?k9 ?kB ?_ ?c5 ?c2 ?c3 ?c4; (case k6 => k_is); (case k7 => k_is); (case k8 => ((try dsimp only [Ar]); omega)); (case k9 => exact BindsTo.of_eq rfl); (case c5 => decide); (case kB => exact locs rfl); (case c2 => exact rfl); (case c3 => exact rfl); (case c4 => exact rfl))
  clear hm
  generalize s.heap.hide it = g at *
  intro L' h' F' N'
  (try dsimp only); (try k_fold)
  k_steps
  refine go ?_
  have hn4 : n / 64 ^ (4 - 0) % 64 = n / 64 ^ (4 - 0) := Nat.mod_eq_of_lt (by omega)
  (with_reducible rename Fr _ _ _ _ => FQ)
  rw [hv0, band63, oc_mod, hn4] at FQ
  with_unfolding_all refine' ksw_while (σ := Nat × Tok × Tok) (fun c => [(it, biter bs tb (c.1 + 1))]) (fun c => [(Str.ofString "val", Value.int ((n / 64 ^ (4 - c.1) : Nat) : Int) c.2.1), (Str.ofString "b", Value.int ((oc n c.1 : Nat) : Int) c.2.2)]) (fun _ => True) [] (fun c => c.1 ≤ 4) (fun c => 4 - c.1) (0, _, _) ?z3 ?z4 True.intro ?z5 (Nat.zero_le _) ?_
  case z3 => (with_reducible rename Fr _ _ _ _ => rgX); exact rgX
  case z4 => (with_reducible rename News _ _ _ _ => rgX); exact rgX
  case z5 => exact List.forall_mem_cons.mpr ⟨by with_unfolding_all rfl, List.forall_mem_cons.mpr ⟨by with_unfolding_all rfl, List.forall_mem_nil _⟩⟩
  rintro ⟨i, t1, t2⟩ u h tk _ hi F9 N9
  dsimp only at hi F9 N9 ⊢
  have ht := band64 (oc n i) (oc_lt n i)
  have ht2 := oc_test n i
  by_cases h4 : i < 4
  · rw [if_neg (by omega)] at ht
    obtain ⟨c1, hc1, hv1⟩ := hbs (i + 1) (by omega)
    have hsz : ((n / 64 ^ (4 - i) : Nat) : Int).natAbs < 2 ^ 64 := by
      rw [Int.natAbs_natCast]
      exact Nat.lt_of_le_of_lt (Nat.div_le_self _ _) (Nat.lt_trans hn (by decide))
    k_steps
    · refine go ?_
      (with_reducible rename Fr _ _ _ _ => FQ)
      rw [hv1, band63, oc_mod, shl6, bor_low _ _ (Nat.mod_lt _ (by decide)), pre_step n i h4] at FQ
      with_unfolding_all refine' ksw_end (i + 1, ?t1, ?t2) ?kF ?kN ?kn True.intro ?kk ?kr ?kp ?km
      case kF => exact FQ
      case kN => (with_reducible rename News _ _ _ _ => rgX); exact rgX
      case kn => exact fun p hp => hp
      case kk => exact List.forall_mem_cons.mpr ⟨by with_unfolding_all rfl, List.forall_mem_cons.mpr ⟨by with_unfolding_all rfl, List.forall_mem_nil _⟩⟩
      case kr =>
        intro z h2 h3
        simp only [List.forall_mem_cons, List.not_mem_nil, false_implies, implies_true, and_true, ne_eq] at h2
        simp [kstB, h2]
      case kp => exact h4
      case km => (show 4 - (i + 1) < 4 - i); omega
    · exfalso; omega
  · have e4 : i = 4 := by omega
    subst e4
    rw [if_pos (by omega)] at ht
    k_steps
    · exfalso; omega
    · have e : n / 64 ^ (4 - 4) = n := by simp
      rw [e] at *
      exact ret' _ _ _ (Fr.keep (by assumption))
end Mine
end
section
namespace Mine
/-- the base, the place, the figure and the worth that a drawn x gives -/
def bs (x : Int) : Nat := if x.fmod 2 = 0 then 10 else 64
def pl (x : Int) : Nat := ((x.fdiv 2).fmod 4).toNat
def fg (x : Int) : Nat := 1 + ((x.fdiv 8).fmod ((bs x : Int) - 1)).toNat
def wo (x : Int) : Nat := fg x * bs x ^ pl x
def nm (x : Int) : Nat := (x.fmod 1000000).toNat
def nx (n : Nat) (x : Int) : Nat := if x < 0 ∧ wo x ≤ n then n - wo x else n + wo x
theorem bs_or (x : Int) : bs x = 10 ∨ bs x = 64 := by unfold bs; split <;> simp
theorem bs_lo (x : Int) : 10 ≤ bs x := by have := bs_or x; omega
theorem bs_hi (x : Int) : bs x ≤ 64 := by have := bs_or x; omega
theorem fmod_nn (x : Int) {k : Int} (h : 0 < k) : 0 ≤ x.fmod k ∧ x.fmod k < k := ⟨Int.fmod_nonneg_of_pos x h, Int.fmod_lt_of_pos x h⟩
theorem pl_eq (x : Int) : (x.fdiv 2).fmod 4 = ((pl x : Nat) : Int) := by
  unfold pl
  have := fmod_nn (x.fdiv 2) (show (0 : Int) < 4 by decide)
  omega
theorem pl_lt (x : Int) : pl x < 4 := by
  have := fmod_nn (x.fdiv 2) (show (0 : Int) < 4 by decide)
  rw [pl_eq] at this
  omega
theorem fg_eq (x : Int) : 1 + (x.fdiv 8).fmod (((bs x : Nat) : Int) - 1) = ((fg x : Nat) : Int) := by
  unfold fg
  have := fmod_nn (x.fdiv 8) (show (0 : Int) < ((bs x : Nat) : Int) - 1 by have := bs_lo x; omega)
  omega
theorem fg_lo (x : Int) : 1 ≤ fg x := by unfold fg; omega
theorem fg_hi (x : Int) : fg x < bs x := by
  have := fmod_nn (x.fdiv 8) (show (0 : Int) < ((bs x : Nat) : Int) - 1 by have := bs_lo x; omega)
  have h := fg_eq x
  omega
theorem wo_eq (x : Int) : ((fg x : Nat) : Int) * ((bs x : Nat) : Int) ^ ((pl x : Nat) : Int).toNat = ((wo x : Nat) : Int) := by
  unfold wo
  rw [Int.toNat_natCast]
  simp
theorem num_eq (x : Int) : x.fmod 1000000 = ((nm x : Nat) : Int) := by
  unfold nm
  have := fmod_nn x (show (0 : Int) < 1000000 by decide)
  omega
theorem nm_lt (x : Int) : nm x < 1000000 := by
  have := fmod_nn x (show (0 : Int) < 1000000 by decide)
  rw [num_eq] at this
  omega
theorem wo_lt (x : Int) : wo x < 16777216 := by
  unfold wo
  have h1 := fg_hi x
  have h2 : bs x ^ pl x ≤ 262144 := by
    have := pl_lt x
    rcases bs_or x with h | h <;> rw [h] <;> rcases (show pl x = 0 ∨ pl x = 1 ∨ pl x = 2 ∨ pl x = 3 by omega) with e | e | e | e <;> rw [e] <;> decide
  have h3 : fg x ≤ 63 := by have := bs_hi x; omega
  calc fg x * bs x ^ pl x ≤ 63 * 262144 := Nat.mul_le_mul h3 h2
    _ < 16777216 := by decide
theorem wo_pos (x : Int) : 1 ≤ wo x := by
  unfold wo
  have h1 := fg_lo x
  have h2 : 0 < bs x ^ pl x := Nat.pow_pos (by have := bs_lo x; omega)
  exact Nat.mul_pos h1 h2
theorem nx_lt {n : Nat} {x : Int} : nx n x < n + 16777216 := by
  have := wo_lt x
  unfold nx
  split <;> omega
theorem bs_menu (x : Int) : ([10, 64] : List Int).getD (x.fmod 2).toNat 0 = ((bs x : Nat) : Int) := by
  have := fmod_nn x (show (0 : Int) < 2 by decide)
  unfold bs
  rcases (show x.fmod 2 = 0 ∨ x.fmod 2 = 1 by omega) with e | e <;> rw [e] <;> rfl
end Mine
end
section
open PySem PySem.W PyProof.Rows PySem.Calls
set_option maxRecDepth 100000
set_option maxHeartbeats 8000000
namespace Mine
/-- a turn's end in a loop whose ledger may grow -/
def GrowEnd {σ : Type} (h₀ : Heap) (L : Addr) (s : Shared) (I : Addr) (it : Obj) (lp : Addr × Obj) (Led : σ → List (Addr × Obj)) (ps : σ → List (Str × Value)) (Inv : List Value → σ → Prop) (r : List Value) (f : Flow) (s₂ : Shared) : Prop :=
  f = .next ∧ ∃ (c' : σ) (h' : Heap) (tk : Nat) (m' : Str → Option Value) (all : List (Addr × Obj)), s₂ = { s with heap := h', toks := tk } ∧ Fr h₀ L h' m' ∧ News h₀ L h' all ∧ (I, it) ∈ all ∧ (∀ p ∈ lp :: Led c', p ∈ all) ∧ (∀ p ∈ lp :: Led c', p.1 ≠ I) ∧ (∀ p ∈ ps c', m' p.1 = some p.2) ∧ Inv r c'
theorem kstB_self {m : Str → Option Value} {ps : List (Str × Value)} (h : ∀ p ∈ ps, m p.1 = some p.2) : kstB m ps = m := by
  funext z
  exact kstB_eq h fun _ => rfl
section
variable {prog : Program} {w : World} {A : Around} {E : Value → Shared → Prop} {s : Shared} {env : Env} {h₀ : Heap} {x : Str} {body : List Stmt} {Q : Flow → Shared → Prop}
theorem grow_loop {σ : Type} {ax : Addr} {lo : Obj} {vs : List Value} {n : Nat} {m₀ : Str → Option Value} (Led : σ → List (Addr × Obj)) (ps : σ → List (Str × Value)) (Inv : List Value → σ → Prop) (c₀ : σ)
    (hh : A.handled = none) (F : Fr h₀ env.locals s.heap m₀) (N : News h₀ env.locals s.heap ((ax, lo) :: Led c₀)) (hc : lo.cls = .type "list") (hd : lo.data = .seq vs.toArray n) (hk : ∀ p ∈ ps c₀, m₀ p.1 = some p.2) (hI : Inv vs c₀)
    (turn : ∀ v r (c : σ) (u : Str → Option Value) I it h tk, Inv (v :: r) c → (∀ p ∈ (ax, lo) :: Led c, p.1 ≠ I) → Fr h₀ env.locals h (fun y => if y = x then some v else kstB u (ps c) y) → News h₀ env.locals h ((I, it) :: (ax, lo) :: Led c) →
      wpAny (model prog w) A (execs body env) (GrowEnd h₀ env.locals { s with heap := h, toks := tk } I it (ax, lo) Led ps Inv r) E { s with heap := h, toks := tk })
    (done : ∀ (c : σ) (u : Str → Option Value) h tk, Inv [] c → Fr h₀ env.locals h (kstB u (ps c)) → News h₀ env.locals h ((ax, lo) :: Led c) → Q .next { s with heap := h, toks := tk }) :
    wpAny (model prog w) A (pyIter (.ref ax)) (fun it s₂ => LoopAtV prog w A h₀ env x body Q E it s₂) E s := by
  refine iter_listUnr hh F N (List.Mem.head _) hc hd fun I hI0 => ?_
  have key : ∀ (r : List Value) (m : Str → Option Value) (c : σ), Inv r c → (∀ p ∈ ps c, m p.1 = some p.2) → (∀ p ∈ (ax, lo) :: Led c, p.1 ≠ I) → ListRest prog w A E h₀ env x body Q s I (ax, lo) r m ((ax, lo) :: Led c) := by
    intro r
    induction r with
    | nil =>
      intro m c hi hp _ h tk F' N'
      rw [← kstB_self hp] at F'
      exact done c m h tk hi F' N'
    | cons v r ih =>
      intro m c hi hp hne it h tk _ F' N'
      rw [← kstB_self hp] at F'
      refine wpAny_mono (turn v r c m I it h tk hi hne F' N') (fun f s₂ q => ?_) fun _ _ e => e
      obtain ⟨rfl, c', h', tk', m', all, rfl, F₂, N₂, hit, hall, hne', hp', hi'⟩ := q
      refine ⟨h', tk', m', (ax, lo) :: Led c', rfl, F₂, fun p hp => ?_, hne', List.Mem.head _, ih m' c' hi' hp' hne'⟩
      rcases List.mem_cons.mp hp with rfl | hp
      · exact N₂ _ hit
      · exact N₂ _ (hall p hp)
  exact key vs m₀ c₀ hI hk fun p hp => Nat.ne_of_lt (hI0 p hp)
end
/-- the tuple of one step -/
abbrev tupO (n : Nat) (x : Int) (ta tb tc td te : Tok) : Obj := { cls := .type "tuple", data := .seq #[.int ((n : Nat) : Int) ta, .int ((nx n x : Nat) : Int) tb, .int ((bs x : Nat) : Int) tc, .int ((pl x : Nat) : Int) td, .int ((fg x : Nat) : Int) te] }
/-- the steps made so far: from n, by xs, to n', the references and the tuples (the newest first) -/
inductive Made (n : Nat) : List Int → Nat → List Value → List (Addr × Obj) → Prop
  | nil : Made n [] n [] []
  | snoc {xs : List Int} {n' : Nat} {refs : List Value} {tups : List (Addr × Obj)} {T : Addr} {x : Int} {ta tb tc td te : Tok} : Made n xs n' refs tups → Made n (xs ++ [x]) (nx n' x) (refs ++ [.ref T]) ((T, tupO n' x ta tb tc td te) :: tups)
theorem Made.len {n : Nat} {xs : List Int} {n' : Nat} {refs : List Value} {tups : List (Addr × Obj)} (h : Made n xs n' refs tups) : refs.length = xs.length := by
  induction h with
  | nil => rfl
  | snoc _ ih => simp [ih]
end Mine
end
section
open PySem PySem.W PyProof.Rows PySem.Calls
set_option maxRecDepth 100000
set_option maxHeartbeats 8000000
namespace Mine
theorem reset_Stp : True := by
  w_top off
  k_with_none
  trivial
theorem nx_1 {n : Nat} {x : Int} (h1 : x < 0) (h2 : ((wo x : Nat) : Int) ≤ ((n : Nat) : Int)) : ((n : Nat) : Int) - ((wo x : Nat) : Int) = ((nx n x : Nat) : Int) := by
  unfold nx; rw [if_pos ⟨h1, by omega⟩]; omega
theorem nx_2 {n : Nat} {x : Int} (h : ¬ (x < 0 ∧ ((wo x : Nat) : Int) ≤ ((n : Nat) : Int))) : ((n : Nat) : Int) + ((wo x : Nat) : Int) = ((nx n x : Nat) : Int) := by
  unfold nx; rw [if_neg (fun q => h ⟨q.1, by omega⟩)]; omega
/-- two ways that come to one int -/
def JoinEnd (v : Int) (s : Shared) (r : Value) (s' : Shared) : Prop := ∃ t tk, r = .int v t ∧ s' = { s with toks := tk }
theorem join_int {prog : Program} {w : World} {A : Around} {E : Value → Shared → Prop} {s : Shared} {tree : Sem Value} {Q : Value → Shared → Prop} (v : Int) (h : wpAny (model prog w) A tree (JoinEnd v s) E s)
    (k : ∀ t tk, Q (.int v t) { s with toks := tk }) : wpAny (model prog w) A tree Q E s :=
  wpAny_mono h (fun r s' e => by obtain ⟨t, tk, rfl, rfl⟩ := e; exact k t tk) fun _ _ x => x
theorem menu_item {prog : Program} {w : World} {A : Around} {E : Value → Shared → Prop} {s : Shared} {h₀ : Heap} {L D : Addr} {news : List (Addr × Obj)} {value slice : PySem.Expr} {Q : Value → Shared → Prop} {x : Int} {ta tb u : Tok} {n : Nat}
    (N : News h₀ L s.heap news) (hm : (D, W.listOf #[Value.int 10 ta, Value.int 64 tb] n) ∈ news) (h : ∀ t, Q (.int ((bs x : Nat) : Int) t) s)
    (hs : subscripted slice false (.ref D) (.int (x.fmod 2) u) = operate [.ref D, .int (x.fmod 2) u] (getItem (.ref D) (.int (x.fmod 2) u)) := by with_unfolding_all rfl) :
    wpAny (model prog w) A (subscriptTail value slice (.ref D) (.int (x.fmod 2) u)) Q E s := by
  have hb := fmod_nn x (show (0 : Int) < 2 by decide)
  refine ksa_sub (vs := [Value.int 10 ta, Value.int 64 tb]) (ns := [10, 64]) N hm (.cons _ _ (.cons _ _ .nil)) hb.1 (by simpa using hb.2) (by omega) (fun t => ?_) hs
  rw [bs_menu]
  exact h t
theorem fig_small (x : Int) : Builtin.Int.intBits (1 + (x.fdiv 8).fmod (((bs x : Nat) : Int) - 1)) ≤ 64 := by
  rw [fg_eq]
  have := fg_hi x
  have := bs_hi x
  exact intBits_le_64 (by omega) (by omega)
theorem step_end {h₀ : Heap} {L I D S TA M : Addr} {it lo mo : Obj} {h' : Heap} {m' : Str → Option Value} {n n0 : Nat} {y : Int} {ta tb tc td te tn : Tok} {items r : List Value} {ep tk : Nat} {tups : List (Addr × Obj)} {xs ns all : List Int} {s₁ : Shared}
    (F : Fr h₀ L h' m') (N : News h₀ L h' ((TA, tupO n y ta tb tc td te) :: (M, mo) :: (I, it) :: (D, lo) :: (S, W.listOf (items.toArray.push (Value.ref TA)) (ep + 1)) :: tups))
    (e1 : m' (Str.ofString "number") = some (.int ((nx n y : Nat) : Int) tn)) (e2 : m' (Str.ofString "steps") = some (.ref S)) (a1 : D ≠ I) (a2 : S ≠ I) (a3 : TA ≠ I) (a4 : TA ≠ S) (hneT : ∀ p ∈ tups, p.1 ≠ I) (hne : ∀ p ∈ tups, p.1 ≠ S)
    (hM : Made n0 xs n items tups) (hIr : IntsAre r ns) (hxy : xs ++ y :: ns = all) :
    GrowEnd h₀ L s₁ I it (D, lo) (fun c : Nat × Tok × List Value × Nat × List (Addr × Obj) => (S, W.listOf c.2.2.1.toArray c.2.2.2.1) :: c.2.2.2.2) (fun c => [(Str.ofString "number", Value.int ((c.1 : Nat) : Int) c.2.1), (Str.ofString "steps", Value.ref S)])
      (fun r c => ∃ xs ys, Made n0 xs c.1 c.2.2.1 c.2.2.2.2 ∧ IntsAre r ys ∧ xs ++ ys = all ∧ ∀ p ∈ c.2.2.2.2, p.1 ≠ S) r .next { s₁ with heap := h', toks := tk } := by
  refine ⟨rfl, (nx n y, tn, items ++ [.ref TA], ep + 1, (TA, tupO n y ta tb tc td te) :: tups), h', tk, m', _, rfl, F, N, .tail _ (.tail _ (.head _)), ?_, ?_, ?_, ?_⟩
  · refine List.forall_mem_cons.mpr ⟨.tail _ (.tail _ (.tail _ (.head _))), List.forall_mem_cons.mpr ⟨?_, List.forall_mem_cons.mpr ⟨.head _, fun p hp => .tail _ (.tail _ (.tail _ (.tail _ (.tail _ hp))))⟩⟩⟩
    dsimp only
    rw [← List.push_toArray]
    exact .tail _ (.tail _ (.tail _ (.tail _ (.head _))))
  · exact List.forall_mem_cons.mpr ⟨a1, List.forall_mem_cons.mpr ⟨a2, List.forall_mem_cons.mpr ⟨a3, hneT⟩⟩⟩
  · exact List.forall_mem_cons.mpr ⟨e1, List.forall_mem_cons.mpr ⟨e2, List.forall_mem_nil _⟩⟩
  · exact ⟨xs ++ [y], ns, .snoc hM, hIr, by rw [← hxy]; simp, List.forall_mem_cons.mpr ⟨a4, hne⟩⟩
theorem steps_c {w : World} {dp un : Nat} {fr : Option (List Env)} {gd : Option (List Code)} {s : Shared} {Q E : Value → Shared → Prop} {mean : ExcName → Option Value} {mg mb : Str → Option Value} {d : Addr} {x0 x1 x2 x3 x4 x5 : Int} {t0 t1 t2 t3 t4 t5 : Tok}
    (X : (hd.heap_39 w.params).In s.heap) (T : Top hd.view_39 (looseW hd.view_39 []) mean mg mb s.heap) (hr : dp + 2 < recursionLimit) 
    (hD : s.heap.IsList d [Value.int x0 t0, .int x1 t1, .int x2 t2, .int x3 t3, .int x4 t4, .int x5 t5].toArray)
    (ret : ∀ S L' refs tups n' c h' tk', s.heap.StaysIn h' → Made (nm x0) [x1, x2, x3, x4, x5] n' refs tups → News s.heap L' h' ((S, W.listOf refs.toArray c) :: tups) → Q (.ref S) { s with heap := h', toks := tk' }) :
    wpAny (model PySem.Challenge.rw_ny0086_01.row.prog w) (Ar dp fr gd un) (call (.ref 56) [.ref d]) Q E s := by
  k_with "mine enter" => ( refine wpAny_call ?_; k_dflt (refine' enter_c (by assumption) (Top.nolimit (by assumption)) ?hk6 ?hk7 ?hk8 ?hk9 ?hkB ?_ ?hc5 ?hc2 ?hc3 ?hc4; (case hk6 => k_is); (case hk7 => k_is); (case hk8 => ((try dsimp only [Ar]); omega)); (case hk9 => exact BindsTo.of_eq rfl); (case hc5 => decide); (case hkB => exact locs rfl); (case hc2 => exact rfl); (case hc3 => exact rfl); (case hc4 => exact rfl)); intro yL' yh' yF' yN'; (try dsimp only); (try k_fold))
  k_with "eval IfExp" => k_extra "mine IfExp"
  k_with "exec For" => (k_here; (rename Fr _ _ _ _ => zlF'); (with_unfolding_all refine' For_invVF zlF' ?hk1 ?hk2 ?_; (case hk1 => exact rfl); (case hk2 => exact rfl); k_whole))
  k_with "subscriptTail" => ((with_reducible show wpAny _ _ (subscriptTail _ _ (Value.ref _) (Value.int (Int.fmod _ 2) _)) _ _ _); (rename News _ _ _ _ => zN'); (with_unfolding_all refine menu_item zN' (List.Mem.head _) ?_); intro _; (try dsimp only))
  k_with "binaryOp Pow int int" => ((try k_fmods); (with_reducible refine pow_int_small (by omega) (by omega) (by omega) ?_))
  k_with "binaryOp Mult int int" => (with_reducible refine mul_int ?_ (IntMulOk.of_left (by assumption)))
  k_with "call builtin:list.append" => ((with_reducible show wpAny _ _ (call (Value.builtin _) [Value.ref _, _]) _ _ _); k_dflt (refine' append_K ?hk1 ?hk2 ?hk3 ?_ ?hz; (case hk1 => assumption); (case hk2 => assumption); (case hk3 => exact Upd.tail (by k_ne) (Upd.tail (by k_ne) (Upd.tail (by k_ne) (Upd.tail (by k_ne) (Upd.head (by assumption)))))); (case hz => (rw [List.size_toArray, sizeLine_eq]; omega))); intro yh' yF' yN'; (try dsimp only))
  have hI : IntsAre [Value.int x0 t0, .int x1 t1, .int x2 t2, .int x3 t3, .int x4 t4, .int x5 t5] [x0, x1, x2, x3, x4, x5] := .cons _ _ (.cons _ _ (.cons _ _ (.cons _ _ (.cons _ _ (.cons _ _ .nil)))))
  have hI5 : IntsAre [Value.int x1 t1, .int x2 t2, .int x3 t3, .int x4 t4, .int x5 t5] [x1, x2, x3, x4, x5] := .cons _ _ (.cons _ _ (.cons _ _ (.cons _ _ (.cons _ _ .nil))))
  revert X; k_fill; intro X
  walk_at "mine enter"
  k_with "pyIter ref" => refine stop ?_
  k_steps
  k_with_none
  k_with "mine enter" => ( refine wpAny_call ?_; k_dflt (refine' enter_c (by assumption) (Top.nolimit (by assumption)) ?hk6 ?hk7 ?hk8 ?hk9 ?hkB ?_ ?hc5 ?hc2 ?hc3 ?hc4; (case hk6 => k_is); (case hk7 => k_is); (case hk8 => ((try dsimp only [Ar]); omega)); (case hk9 => exact BindsTo.of_eq rfl); (case hc5 => decide); (case hkB => exact locs rfl); (case hc2 => exact rfl); (case hc3 => exact rfl); (case hc4 => exact rfl)); intro yL' yh' yF' yN'; (try dsimp only); (try k_fold))
  k_with "eval IfExp" => k_extra "mine IfExp"
  k_with "exec For" => (k_here; (rename Fr _ _ _ _ => zlF'); (with_unfolding_all refine' For_invVF zlF' ?hk1 ?hk2 ?_; (case hk1 => exact rfl); (case hk2 => exact rfl); k_whole))
  k_with "subscriptTail" => ((with_reducible show wpAny _ _ (subscriptTail _ _ (Value.ref _) (Value.int (Int.fmod _ 2) _)) _ _ _); (rename News _ _ _ _ => zN'); (with_unfolding_all refine menu_item zN' (List.Mem.head _) ?_); intro _; (try dsimp only))
  k_with "binaryOp Pow int int" => ((try k_fmods); (with_reducible refine pow_int_small (by omega) (by omega) (by omega) ?_))
  k_with "binaryOp Mult int int" => (with_reducible refine mul_int ?_ (IntMulOk.of_left (by assumption)))
  k_with "call builtin:list.append" => ((with_reducible show wpAny _ _ (call (Value.builtin _) [Value.ref _, _]) _ _ _); k_dflt (refine' append_K ?hk1 ?hk2 ?hk3 ?_ ?hz; (case hk1 => assumption); (case hk2 => assumption); (case hk3 => exact Upd.tail (by k_ne) (Upd.tail (by k_ne) (Upd.tail (by k_ne) (Upd.tail (by k_ne) (Upd.head (by assumption)))))); (case hz => (rw [List.size_toArray, sizeLine_eq]; omega))); intro yh' yF' yN'; (try dsimp only))
  refine go ?_
  (with_reducible rename Fr _ _ _ _ => FQ)
  (with_reducible rename News _ _ _ _ => NQ)
  simp only [num_eq] at FQ
  rename_i S _ _ _ D _ hSD
  with_unfolding_all refine' grow_loop (σ := Nat × Tok × List Value × Nat × List (Addr × Obj)) (fun c => (S, W.listOf c.2.2.1.toArray c.2.2.2.1) :: c.2.2.2.2) (fun c => [(Str.ofString "number", Value.int ((c.1 : Nat) : Int) c.2.1), (Str.ofString "steps", Value.ref S)]) (fun r c => ∃ xs ys, Made (nm x0) xs c.1 c.2.2.1 c.2.2.2.2 ∧ IntsAre r ys ∧ xs ++ ys = [x1, x2, x3, x4, x5] ∧ ∀ p ∈ c.2.2.2.2, p.1 ≠ S) (nm x0, _, [], 0, []) ?z1 FQ NQ rfl ?z2 ?z5 ⟨[], _, .nil, hI5, rfl, fun _ hp => nomatch hp⟩ ?_ ?_
  case z1 => rfl
  case z2 => rfl
  case z5 => exact List.forall_mem_cons.mpr ⟨by with_unfolding_all rfl, List.forall_mem_cons.mpr ⟨by with_unfolding_all rfl, List.forall_mem_nil _⟩⟩
  · rintro v r ⟨n, tn, items, ep, tups⟩ u I it h tk ⟨xs, ys, hM, hIr, hxy, hne⟩ hneI F9 N9
    dsimp only at hM hne hneI F9 N9 ⊢
    cases hIr with
    | cons y ty hIr =>
    have hIS := neN (a := S) (b := I) (hneI _ (.tail _ (.head _)))
    have hID := neN (a := D) (b := I) (hneI _ (.head _))
    have hneT : ∀ p ∈ tups, p.1 ≠ I := fun p hp => hneI p (.tail _ (.tail _ hp))
    have hil : items.length ≤ 5 := by
      have h1 := hM.len
      have h2 := congrArg List.length hxy
      simp at h2
      omega
    have b1 := bs_lo y
    have c1 := bs_hi y
    have f1 := fig_small y
    clear hneI hI hI5 hD
    try k_fold
    k_with "mine IfExp" => refine stop ?_
    k_steps
    k_with_none
    k_with "mine enter" => ( refine wpAny_call ?_; k_dflt (refine' enter_c (by assumption) (Top.nolimit (by assumption)) ?hk6 ?hk7 ?hk8 ?hk9 ?hkB ?_ ?hc5 ?hc2 ?hc3 ?hc4; (case hk6 => k_is); (case hk7 => k_is); (case hk8 => ((try dsimp only [Ar]); omega)); (case hk9 => exact BindsTo.of_eq rfl); (case hc5 => decide); (case hkB => exact locs rfl); (case hc2 => exact rfl); (case hc3 => exact rfl); (case hc4 => exact rfl)); intro yL' yh' yF' yN'; (try dsimp only); (try k_fold))
    k_with "eval IfExp" => k_extra "mine IfExp"
    k_with "exec For" => (k_here; (rename Fr _ _ _ _ => zlF'); (with_unfolding_all refine' For_invVF zlF' ?hk1 ?hk2 ?_; (case hk1 => exact rfl); (case hk2 => exact rfl); k_whole))
    k_with "subscriptTail" => ((with_reducible show wpAny _ _ (subscriptTail _ _ (Value.ref _) (Value.int (Int.fmod _ 2) _)) _ _ _); (rename News _ _ _ _ => zN'); (with_unfolding_all refine menu_item zN' (List.Mem.head _) ?_); intro _; (try dsimp only))
    k_with "binaryOp Pow int int" => ((try k_fmods); (with_reducible refine pow_int_small (by omega) (by omega) (by omega) ?_))
    k_with "binaryOp Mult int int" => (with_reducible refine mul_int ?_ (IntMulOk.of_left (by assumption)))
    k_with "call builtin:list.append" => ((with_reducible show wpAny _ _ (call (Value.builtin _) [Value.ref _, _]) _ _ _); k_dflt (refine' append_K ?hk1 ?hk2 ?hk3 ?_ ?hz; (case hk1 => assumption); (case hk2 => assumption); (case hk3 => exact Upd.tail (by k_ne) (Upd.tail (by k_ne) (Upd.tail (by k_ne) (Upd.tail (by k_ne) (Upd.head (by assumption)))))); (case hz => (rw [List.size_toArray, sizeLine_eq]; omega))); intro yh' yF' yN'; (try dsimp only))
    refine go ?_
    (with_reducible rename Fr _ _ _ _ => FQ)
    simp only [pl_eq, fg_eq, wo_eq] at FQ
    refine join_int ((nx n y : Nat) : Int) ?_ ?_
    · k_steps
      all_goals first
        | (rw [nx_1 (by omega) (by omega)]; exact ⟨_, _, rfl, rfl⟩)
        | (rw [nx_2 (by omega)]; exact ⟨_, _, rfl, rfl⟩)
    intro tj tkj
    k_steps
    (with_reducible rename Fr _ _ _ _ => FQ)
    (with_reducible rename News _ _ _ _ => NQ)
    (with_reducible rename (_ < _ ∧ _) => lQ)
    with_unfolding_all exact step_end (n0 := nm x0) FQ NQ rfl rfl (by k_ne) (by k_ne) (by k_ne) (by k_ne) hneT hne hM hIr hxy
  · rintro ⟨n, tn, items, ep, tups⟩ u h tk ⟨xs, ys, hM, hIr, hxy, hne⟩ F9 N9
    dsimp only at hM hne F9 N9 ⊢
    cases hIr
    rw [List.append_nil] at hxy
    subst hxy
    k_steps
    exact ret _ _ _ _ _ _ _ _ (Fr.keep (by assumption)) hM (fun p hp => N9 p (.tail _ hp))
end Mine
end
section
open PySem PySem.W PyProof.Rows PySem.Calls
set_option maxRecDepth 100000
set_option maxHeartbeats 8000000
namespace Mine
/-- how the law ends -/
def LawEnd (s₁ : Shared) (f : Flow) (s' : Shared) : Prop := f = .ret (.bool true) ∧ ∃ L h tk m, s' = { s₁ with heap := h, toks := tk } ∧ Fr s₁.heap L h m
section
variable {prog : Program} {w : World} {A : Around} {E : Value → Shared → Prop} {s : Shared} {h₀ : Heap} {L l : Addr} {m : Str → Option Value} {news : List (Addr × Obj)} {value slice : PySem.Expr} {vs : List Value} {ns : List Int} {u : Tok} {x : Int} {c : Nat} {Q : Value → Shared → Prop}
theorem menu_slice (F : Fr h₀ L s.heap m) (N : News h₀ L s.heap ((l, W.listOf vs.toArray c) :: news)) (hi : IntsAre vs ns) (h0 : 0 ≤ x) (hz : ns.length ≤ 1000)
    (h : ∀ D ws h', Fr h₀ L h' m → News h₀ L h' ((D, W.listOf (List.toArray ws) 0) :: (l, W.listOf vs.toArray c) :: news) → (∀ p ∈ (l, W.listOf vs.toArray c) :: news, p.1 < D) → IntsAre ws (ns.drop x.toNat) → Q (.ref D) { s with heap := h' })
    (hs : subscripted slice false (.ref l) (.ref s.heap.objs.size) = operate [.ref s.heap.objs.size, .ref l] (getItem (.ref l) (.ref s.heap.objs.size)) := by with_unfolding_all rfl) (ht : ∀ r, letTemporaryGo value (.ref l) r = pure () := by intro _; with_unfolding_all rfl) :
    wpAny (model prog w) A (subscriptTail value slice (.ref l) (.ref s.heap.objs.size)) Q E { s with heap := s.heap.push { cls := .type "slice", data := .fields #[.int x u, .none, .none] } } :=
  kmk_slice_ints F N ⟨_, (N _ (.head _)).1, rfl, c, rfl⟩ (.int x u) .none hi (slice_ints_fromW hi h0) rfl (fun D ws h' F' N' l1 hI' _ _ => h D ws h' F' N' l1 hI') hs ht (by rw [List.size_toArray, hi.length, sizeLine_eq]; omega)
end
theorem six {ns : List Int} : (ns.take 6 ++ ([995, 48, 251, 251, -34, -231] : List Int).drop ns.length).length = 6 := by
  simp; omega
theorem cons_of {α : Type} {l : List α} {n : Nat} (h : l.length = n + 1) : ∃ a r, l = a :: r ∧ r.length = n := by
  cases l with
  | nil => exact absurd h (Nat.succ_ne_zero n).symm
  | cons a r => exact ⟨a, r, rfl, Nat.succ.inj h⟩
theorem six_of {l : List Int} (h : l.length = 6) : ∃ x0 x1 x2 x3 x4 x5, l = [x0, x1, x2, x3, x4, x5] := by
  obtain ⟨a, l1, rfl, h1⟩ := cons_of h
  obtain ⟨b, l2, rfl, h2⟩ := cons_of h1
  obtain ⟨c, l3, rfl, h3⟩ := cons_of h2
  obtain ⟨d, l4, rfl, h4⟩ := cons_of h3
  obtain ⟨e, l5, rfl, h5⟩ := cons_of h4
  obtain ⟨f, l6, rfl, h6⟩ := cons_of h5
  obtain rfl := List.eq_nil_of_length_eq_zero h6
  exact ⟨a, b, c, d, e, f, rfl⟩
theorem ints6 {vs : List Value} {x0 x1 x2 x3 x4 x5 : Int} (h : IntsAre vs [x0, x1, x2, x3, x4, x5]) : ∃ t0 t1 t2 t3 t4 t5, vs = [.int x0 t0, .int x1 t1, .int x2 t2, .int x3 t3, .int x4 t4, .int x5 t5] := by
  obtain ⟨t0, v0, rfl, h0⟩ := h.cons_inv
  obtain ⟨t1, v1, rfl, h1⟩ := h0.cons_inv
  obtain ⟨t2, v2, rfl, h2⟩ := h1.cons_inv
  obtain ⟨t3, v3, rfl, h3⟩ := h2.cons_inv
  obtain ⟨t4, v4, rfl, h4⟩ := h3.cons_inv
  obtain ⟨t5, v5, rfl, h5⟩ := h4.cons_inv
  obtain rfl := h5.nil_inv
  exact ⟨t0, t1, t2, t3, t4, t5, rfl⟩
theorem news_join {h₀ h h' : Heap} {L L' : Addr} {m : Str → Option Value} {news news' : List (Addr × Obj)} (F : Fr h₀ L h m) (N : News h₀ L h news) (st : h.StaysIn h') (N' : News h L' h' news') : News h₀ L h' (news' ++ news) := by
  intro p hp
  rcases List.mem_append.mp hp with hp | hp
  · have a := N' p hp
    refine ⟨a.1, fun q => ?_, ?_⟩
    · obtain ⟨oL, _, _, hoL, _⟩ := F.ns
      rw [q, hoL] at a
      cases a.2.2
    · cases q : h₀.get? p.1 with
      | none => rfl
      | some o => rw [F.keep _ _ q] at a; cases a.2.2
  · exact news_stays N st p hp
end Mine
end
section
namespace Mine
/-- the W lowest figures of n in base b, the highest first -/
def dig (b : Nat) : Nat → Nat → List Nat
  | 0, _ => []
  | W + 1, n => dig b W (n / b) ++ [n % b]
theorem dig_len (b : Nat) : ∀ W n, (dig b W n).length = W
  | 0, _ => rfl
  | W + 1, n => by simp [dig, dig_len b W]
theorem dig_lt {b : Nat} (hb : 0 < b) : ∀ W n, ∀ d ∈ dig b W n, d < b
  | 0, _, _, h => nomatch h
  | W + 1, n, d, h => by
    rcases List.mem_append.mp h with h | h
    · exact dig_lt hb W _ d h
    · rw [List.mem_singleton.mp h]; exact Nat.mod_lt _ hb
theorem dig_split (b : Nat) (V : Nat) : ∀ p n, dig b (V + p) n = dig b V (n / b ^ p) ++ dig b p n
  | 0, n => by simp [dig]
  | p + 1, n => by
    show dig b (V + p) (n / b) ++ [n % b] = _
    rw [dig_split b V p (n / b), Nat.div_div_eq_div_mul, show b * b ^ p = b ^ (p + 1) by rw [Nat.pow_succ, Nat.mul_comm], List.append_assoc]
    rfl
theorem dig_low {b : Nat} (hb : 0 < b) (f : Nat) : ∀ p n, dig b p (n + f * b ^ p) = dig b p n
  | 0, n => rfl
  | p + 1, n => by
    show dig b p ((n + f * b ^ (p + 1)) / b) ++ [(n + f * b ^ (p + 1)) % b] = dig b p (n / b) ++ [n % b]
    have e : f * b ^ (p + 1) = b * (f * b ^ p) := by rw [Nat.pow_succ]; ac_rfl
    rw [e, Nat.add_mul_div_left _ _ hb, Nat.add_mul_mod_self_left, dig_low hb f p]
theorem dsum_dig {b : Nat} (hb : 2 ≤ b) : ∀ W n, n < b ^ W → dsum b n = (dig b W n).sum
  | 0, n, h => by
    have : n = 0 := by simpa using h
    subst this
    rw [dsum_0]; rfl
  | W + 1, n, h => by
    rw [dsum_rec hb, dsum_dig hb W (n / b) (by rw [Nat.div_lt_iff_lt_mul (by omega)]; rw [Nat.pow_succ] at h; exact h)]
    simp [dig]
    omega
/-- one more: the last figures that are the greatest turn to noughts -/
theorem dig_succ {b : Nat} (hb : 2 ≤ b) : ∀ V q, q + 1 < b ^ V → ∃ P d t, dig b V q = P ++ d :: List.replicate t (b - 1) ∧ dig b V (q + 1) = P ++ (d + 1) :: List.replicate t 0 ∧ d + 1 < b
  | 0, q, h => by simp at h
  | V + 1, q, h => by
    by_cases hq : q % b + 1 < b
    · refine ⟨dig b V (q / b), q % b, 0, by simp [dig], ?_, hq⟩
      have e1 : (q + 1) / b = q / b := by
        rw [Nat.div_eq_iff (by omega)]
        have := Nat.div_add_mod q b
        have h2 : b * (q / b) = q / b * b := Nat.mul_comm _ _
        omega
      have e2 : (q + 1) % b = q % b + 1 := by
        rw [Nat.add_mod, Nat.mod_eq_of_lt (show 1 < b by omega), Nat.mod_eq_of_lt hq]
      simp [dig, e1, e2]
    · have hm := Nat.mod_lt q (show 0 < b by omega)
      have hq' : q % b = b - 1 := by omega
      have hdm := Nat.div_add_mod q b
      have e0 : q + 1 = b * (q / b + 1) := by rw [Nat.mul_add, Nat.mul_one]; omega
      have e1 : (q + 1) / b = q / b + 1 := by rw [e0, Nat.mul_div_cancel_left _ (by omega)]
      have e2 : (q + 1) % b = 0 := by rw [e0, Nat.mul_mod_right]
      have hlt : q / b + 1 < b ^ V := by
        rw [Nat.pow_succ, e0, Nat.mul_comm] at h
        exact Nat.lt_of_mul_lt_mul_right h
      obtain ⟨P, d, t, a1, a2, a3⟩ := dig_succ hb V (q / b) hlt
      refine ⟨P, d, t + 1, ?_, ?_, a3⟩
      · simp [dig, a1, hq', List.replicate_succ']
      · simp [dig, e1, e2, a2, List.replicate_succ']
/-- what a step of one figure does to the figures -/
theorem dig_step {b : Nat} (hb : 2 ≤ b) {W p f n : Nat} (hf1 : 1 ≤ f) (hf : f < b) (hp : p < W) (hfit : n + f * b ^ p < b ^ W) :
    ∃ P S, S.length = p ∧ P.length < W ∧
      ((n / b ^ p % b + f < b ∧ dig b W n = P ++ ([n / b ^ p % b] ++ S) ∧ dig b W (n + f * b ^ p) = P ++ ([n / b ^ p % b + f] ++ S) ∧ dsum b n + f = dsum b (n + f * b ^ p)) ∨
       (∃ d t v, n / b ^ p % b + f = v + b ∧ d + 1 < b ∧ P.length + t + 2 ≤ W ∧ dig b W n = P ++ ((d :: (List.replicate t (b - 1) ++ [n / b ^ p % b])) ++ S) ∧ dig b W (n + f * b ^ p) = P ++ (((d + 1) :: (List.replicate t 0 ++ [v])) ++ S) ∧ dsum b n + f = dsum b (n + f * b ^ p) + (t + 1) * (b - 1))) := by
  obtain ⟨V, rfl⟩ : ∃ V, W = V + 1 + p := ⟨W - p - 1, by omega⟩
  have hbp : 0 < b ^ p := Nat.pow_pos (by omega)
  have hq2 : (n + f * b ^ p) / b ^ p = n / b ^ p + f := by rw [Nat.add_mul_div_right _ _ hbp]
  have hqfit : n / b ^ p + f < b ^ (V + 1) := by
    rw [← hq2, Nat.div_lt_iff_lt_mul hbp, ← Nat.pow_add]; exact hfit
  have s1 := dig_split b (V + 1) p n
  have s2 := dig_split b (V + 1) p (n + f * b ^ p)
  rw [hq2, dig_low (by omega)] at s2
  have u1 := dsum_dig hb _ n (Nat.lt_of_le_of_lt (Nat.le_add_right n (f * b ^ p)) hfit)
  have u2 := dsum_dig hb _ _ hfit
  have hm := Nat.mod_lt (n / b ^ p) (show 0 < b by omega)
  have hdm := Nat.div_add_mod (n / b ^ p) b
  generalize hq : n / b ^ p = q at *
  generalize hn2 : n + f * b ^ p = n2 at *
  by_cases h : q % b + f < b
  · have e1 : (q + f) / b = q / b := by
      rw [Nat.div_eq_iff (by omega)]
      have h2 : b * (q / b) = q / b * b := Nat.mul_comm _ _
      omega
    have e2 : (q + f) % b = q % b + f := by rw [Nat.add_mod, Nat.mod_eq_of_lt hf, Nat.mod_eq_of_lt h]
    have d1 : dig b (V + 1 + p) n = dig b V (q / b) ++ ([q % b] ++ dig b p n) := by rw [s1]; simp [dig]
    have d2 : dig b (V + 1 + p) n2 = dig b V (q / b) ++ ([q % b + f] ++ dig b p n) := by rw [s2]; simp [dig, e1, e2]
    refine ⟨dig b V (q / b), dig b p n, dig_len _ _ _, by rw [dig_len]; omega, .inl ⟨h, d1, d2, ?_⟩⟩
    rw [u1, u2, d1, d2]
    simp
    omega
  · obtain ⟨r, hr⟩ : ∃ r, q % b + f - b = r := ⟨_, rfl⟩
    have hh : q + f = b * (q / b + 1) + r := by rw [Nat.mul_add, Nat.mul_one]; omega
    have hrb : r < b := by omega
    have e1 : (q + f) / b = q / b + 1 := by
      rw [hh, Nat.mul_add_div (by omega), Nat.div_eq_of_lt hrb, Nat.add_zero]
    have e2 : (q + f) % b = q % b + f - b := by
      rw [hr, hh, Nat.mul_add_mod, Nat.mod_eq_of_lt hrb]
    have hlt : q / b + 1 < b ^ V := by
      rw [← e1, Nat.div_lt_iff_lt_mul (by omega), ← Nat.pow_succ]; exact hqfit
    obtain ⟨P, d, t, a1, a2, a3⟩ := dig_succ hb V (q / b) hlt
    have d1 : dig b (V + 1 + p) n = P ++ ((d :: (List.replicate t (b - 1) ++ [q % b])) ++ dig b p n) := by rw [s1]; simp [dig, a1]
    have d2 : dig b (V + 1 + p) n2 = P ++ (((d + 1) :: (List.replicate t 0 ++ [q % b + f - b])) ++ dig b p n) := by rw [s2]; simp [dig, e1, e2, a2]
    have hl := congrArg List.length a1
    rw [dig_len] at hl
    simp at hl
    refine ⟨P, dig b p n, dig_len _ _ _, by omega, .inr ⟨d, t, q % b + f - b, by omega, a3, by omega, d1, d2, ?_⟩⟩
    rw [u1, u2, d1, d2]
    simp
    have : (t + 1) * (b - 1) = t * (b - 1) + (b - 1) := by rw [Nat.add_mul, Nat.one_mul]
    omega
end Mine
end
section
open PySem PySem.W PyProof.Rows PySem.Calls
set_option maxRecDepth 100000
set_option maxHeartbeats 8000000
namespace Mine
section
variable {prog : Program} {w : World} {A : Around} {E : Value → Shared → Prop} {s : Shared} {h₀ : Heap} {L : Addr} {m : Str → Option Value} {env : Env}
/-- a block's turns by an invariant -/
theorem rest_inv {elt : PySem.Expr} {x : Str} {scope : Scope} {cl : List (Str × Addr)} {S : List (Addr × Obj) → Prop} {P : Nat → Value → Prop} {Fin : List Value → List (Addr × Obj) → Prop} {n : Nat} (Inv : Nat → List Value → List (Addr × Obj) → Prop)
    (turn : ∀ i ys news v I oI C oC D m₂ h tk (E' : Value → Shared → Prop), i < n → Inv i ys news → P i v → LCg.NsObj oC m₂ → m₂ x = some v → Fr h₀ L h m → News h₀ L h ((I, oI) :: (C, oC) :: (D, LCg.lst ys) :: news) → LCg.Off3 I C D news → ((@Ne Nat I C) ∧ (@Ne Nat I D) ∧ (@Ne Nat C D)) →
      wpAny (model prog w) A (eval elt (compEnvC scope cl C env)) (LCg.CompEnd h₀ L m { s with heap := h, toks := tk } I oI C oC D (LCg.lst ys) S (fun y news' => Inv (i + 1) (ys ++ [y]) news')) E' { s with heap := h, toks := tk })
    (fin : ∀ ys news, Inv n ys news → Fin ys news) : ∀ (k i : Nat) (ys : List Value) (news : List (Addr × Obj)), i + k = n → Inv i ys news → LCg.CompRest prog w A h₀ L m env elt x scope cl s S P Fin k i ys news
  | 0, i, ys, news, e, hI => LCg.CompRest.zero (fin ys news (by rw [← e]; exact hI))
  | k + 1, i, ys, news, e, hI => by
    refine LCg.CompRest.succ ?_
    intro v I oI C oC D m₂ h tk E' hv hC hx F N off ne
    refine wpAny_mono (turn i ys news v I oI C oC D m₂ h tk E' (by omega) hI hv hC hx F N off ne) (fun y s₂ hq => ?_) fun _ _ e => e
    obtain ⟨h', tk', nw, e', F', N', off', hS, hI'⟩ := hq
    exact ⟨h', tk', nw, e', F', N', off', hS, rest_inv Inv turn fin k (i + 1) _ _ (by omega) hI'⟩
/-- how an element's walk ends when the ledger stays -/
def CEnd (h₀ : Heap) (L : Addr) (m : Str → Option Value) (s₁ : Shared) (led : List (Addr × Obj)) (V : Value → Prop) (y : Value) (s₂ : Shared) : Prop :=
  ∃ h' tk, s₂ = { s₁ with heap := h', toks := tk } ∧ Fr h₀ L h' m ∧ News h₀ L h' led ∧ V y
theorem CEnd.mk' {s₁ : Shared} {led all : List (Addr × Obj)} {V : Value → Prop} {y : Value} {h' : Heap} {tk : Nat} (F : Fr h₀ L h' m) (N : News h₀ L h' all) (sub : ∀ p ∈ led, p ∈ all) (v : V y) : CEnd h₀ L m s₁ led V y { s₁ with heap := h', toks := tk } :=
  ⟨h', tk, rfl, F, fun p hp => N p (sub p hp), v⟩
def PureInv (base : List (Addr × Obj)) (V : Nat → Value → Prop) (i : Nat) (ys : List Value) (news : List (Addr × Obj)) : Prop := news = base ∧ ys.length = i ∧ ∀ j y, ys[j]? = some y → V j y
theorem rest_pure {elt : PySem.Expr} {x : Str} {scope : Scope} {cl : List (Str × Addr)} {S : List (Addr × Obj) → Prop} {P : Nat → Value → Prop} {Fin : List Value → List (Addr × Obj) → Prop} {n : Nat} {news : List (Addr × Obj)} (V : Nat → Value → Prop) (hS : S news)
    (turn : ∀ i ys v I oI C oC D m₂ h tk (E' : Value → Shared → Prop), i < n → P i v → LCg.NsObj oC m₂ → m₂ x = some v → Fr h₀ L h m → News h₀ L h ((I, oI) :: (C, oC) :: (D, LCg.lst ys) :: news) →
      wpAny (model prog w) A (eval elt (compEnvC scope cl C env)) (CEnd h₀ L m s ((I, oI) :: (C, oC) :: (D, LCg.lst ys) :: news) (V i)) E' { s with heap := h, toks := tk })
    (fin : ∀ ys, ys.length = n → (∀ j y, ys[j]? = some y → V j y) → Fin ys news) : LCg.CompRest prog w A h₀ L m env elt x scope cl s S P Fin n 0 [] news := by
  refine rest_inv (n := n) (PureInv news V) ?_ ?_ n 0 [] news (Nat.zero_add n) ⟨rfl, rfl, fun j y e => by simp at e⟩
  · rintro i ys nw v I oI C oC D m₂ h tk E' hi ⟨rfl, hl, hV⟩ hP hC hx F N off ne
    refine wpAny_mono (turn i ys v I oI C oC D m₂ h tk E' hi hP hC hx F N) ?_ fun _ _ e => e
    rintro y s₂ ⟨h', tk', rfl, F', N', hv⟩
    refine ⟨h', tk', nw, rfl, F', N', off, hS, rfl, by simp [hl], fun j z e => ?_⟩
    rcases Nat.lt_trichotomy j ys.length with h1 | h1 | h1
    · rw [List.getElem?_append_left h1] at e; exact hV j z e
    · subst h1
      rw [List.getElem?_append_right (Nat.le_refl _)] at e
      simp at e
      subst e; subst hl; exact hv
    · rw [List.getElem?_eq_none (by simp; omega)] at e; cases e
  · rintro ys nw ⟨rfl, hl, hV⟩
    exact fin ys hl hV
/-- a block over a list of the ledger -/
theorem src_pure {elt : PySem.Expr} {x : Str} {scope : Scope} {cl : List (Str × Addr)} {ax : Addr} {its : Array Value} {c : Nat} {news : List (Addr × Obj)} {s₁ : Shared} {Q : Value → Shared → Prop} (V : Nat → Value → Prop)
    (hh : A.handled = none) (F : Fr h₀ L s₁.heap m) (N : News h₀ L s₁.heap news) (hm : (ax, W.listOf its c) ∈ news) (hsz : its.size ≤ sizeLine)
    (turn : ∀ g i ys v I oI C oC D m₂ h tk (E' : Value → Shared → Prop), i < its.size → its[i]? = some v → LCg.NsObj oC m₂ → m₂ x = some v → Fr h₀ L h m → News h₀ L h ((I, oI) :: (C, oC) :: (D, LCg.lst ys) :: news) →
      wpAny (model prog w) A (eval elt (compEnvC scope cl C env)) (CEnd h₀ L m { s₁ with heap := g } ((I, oI) :: (C, oC) :: (D, LCg.lst ys) :: news) (V i)) E' { s₁ with heap := h, toks := tk })
    (fin : ∀ (ys : List Value) D h tk, ys.length = its.size → (∀ j y, ys[j]? = some y → V j y) → Fr h₀ L h m → News h₀ L h ((D, W.listOf ys.toArray ys.length) :: news) → LCg.Off1 D news → Q (.ref D) { s₁ with heap := h, toks := tk }) :
    LCg.CompSrc prog w A h₀ L m env elt x scope cl (fun s₂ => LCg.FinE h₀ L m s₂ Q) (.ref ax) s₁ := by
  refine LCg.CompSrc.ledger hh F N hm hsz fun g => rest_pure V (.inr ⟨_, hm, rfl, _, rfl⟩) (turn g) ?_
  intro ys hl hV D h tk F' N' o1
  exact fin ys D h tk hl hV F' N' o1
theorem src_pureA {elt : PySem.Expr} {x y : Str} {scope : Scope} {cl : List (Str × Addr)} {ax : Addr} {its : Array Value} {c : Nat} {news : List (Addr × Obj)} {s₁ : Shared} {Q : Flow → Shared → Prop} (V : Nat → Value → Prop)
    (hh : A.handled = none) (F : Fr h₀ L s₁.heap m) (N : News h₀ L s₁.heap news) (hm : (ax, W.listOf its c) ∈ news) (hsz : its.size ≤ sizeLine)
    (turn : ∀ g i ys v I oI C oC D m₂ h tk (E' : Value → Shared → Prop), i < its.size → its[i]? = some v → LCg.NsObj oC m₂ → m₂ x = some v → Fr h₀ L h m → News h₀ L h ((I, oI) :: (C, oC) :: (D, LCg.lst ys) :: news) →
      wpAny (model prog w) A (eval elt (compEnvC scope cl C env)) (CEnd h₀ L m { s₁ with heap := g } ((I, oI) :: (C, oC) :: (D, LCg.lst ys) :: news) (V i)) E' { s₁ with heap := h, toks := tk })
    (fin : ∀ (ys : List Value) D h tk, ys.length = its.size → (∀ j y, ys[j]? = some y → V j y) → Fr h₀ L h (fun z => if z = y then some (.ref D) else m z) → News h₀ L h ((D, W.listOf ys.toArray ys.length) :: news) → LCg.Off1 D news → Q .next { s₁ with heap := h, toks := tk }) :
    LCg.CompSrc prog w A h₀ L m env elt x scope cl (fun s₂ => LCg.FinA h₀ L m s₂ y Q) (.ref ax) s₁ := by
  refine LCg.CompSrc.ledger hh F N hm hsz fun g => rest_pure V (.inr ⟨_, hm, rfl, _, rfl⟩) (turn g) ?_
  intro ys hl hV D h tk F' N' o1
  exact fin ys D h tk hl hV F' N' o1
/-- where a tuple that is walked lies -/
def TupAt (h₀ : Heap) (ax : Addr) (its : Array Value) (news : List (Addr × Obj)) : Prop := h₀.IsTuple ax its ∨ ∃ o, (ax, o) ∈ news ∧ o.cls = .type "tuple" ∧ ∃ n, o.data = .seq its n
theorem TupAt.tup {h : Heap} {ax : Addr} {its : Array Value} {news : List (Addr × Obj)} (x : TupAt h₀ ax its news) (k : ∀ b o, h₀.get? b = some o → h.get? b = some o) (N : News h₀ L h news) : h.IsTuple ax its := by
  rcases x with ⟨o, e, r⟩ | ⟨o, hm, r⟩
  · exact ⟨o, k _ _ e, r⟩
  · exact ⟨o, (N _ hm).1, r⟩
/-- what the source of a block over a tuple has to bring -/
def TupSrc (prog : Program) (w : World) (A : Around) (h₀ : Heap) (L : Addr) (m : Str → Option Value) (env : Env) (elt : PySem.Expr) (x : Str) (scope : Scope) (cl : List (Str × Addr)) (Q : Value → Shared → Prop) (xv : Value) (s₁ : Shared) : Prop :=
  ∃ ax its news, xv = .ref ax ∧ A.handled = none ∧ Fr h₀ L s₁.heap m ∧ News h₀ L s₁.heap news ∧ TupAt h₀ ax its news ∧ its.size ≤ sizeLine ∧
    ∀ g, LCg.CompRest prog w A h₀ L m env elt x scope cl { s₁ with heap := g } (TupAt h₀ ax its) (fun i v => its[i]? = some v) (LCg.FinE h₀ L m { s₁ with heap := g } Q) its.size 0 [] news
theorem comp_tup {elt iter : PySem.Expr} {x : Str} {px : Pos} {scope : Scope} {cl : List (Str × Addr)} {pos : Pos} {Q : Value → Shared → Prop} (F₀ : Fr h₀ L s.heap m)
    (hclos : closureFor scope env = pure cl) (hcell : ∀ y ∈ scope.names, y.2 ≠ .cell) (hkind : scope.kind = .function)
    (hnames : ∀ y ∈ scope.names, y.2 = .local → scope.names.lookup y.1 = some .local) (hx : scope.names.lookup x = some .local)
    (h : wpAny (model prog w) A (eval iter env) (TupSrc prog w A h₀ L m env elt x scope cl Q) E s)
    (hs : ∀ x, foldedSetIterable iter env x = pure x := by intro _; rfl) :
    wpAny (model prog w) A (eval (.ListComp elt [⟨.Name x px, iter, [], 0⟩] scope pos) env) Q E s := by
  rw [eval_ListComp]
  refine wpAny_comprehension_free (use := none) rfl hs hclos hkind hnames (wpAny_mono h (fun xv s₁ h₁ => ?_) fun _ _ e => e)
  obtain ⟨ax, its, news, rfl, hh, F, N, S, hsz, R⟩ := h₁
  have hl := S.tup F.keep N
  have hlt : ax < s₁.heap.objs.size := by obtain ⟨_, e, _⟩ := hl; exact Heap.lt_size e
  refine wpAny_pyIter_tuple hl ?_
  have up : ∀ b o, s₁.heap.get? b = some o → (s₁.heap.push { cls := .type "tuple_iterator", data := .fields #[.ref ax, .int 0 0] }).get? b = some o := fun b o e => Heap.get?_push_of_some _ e
  refine LCg.block_U (Walks.tuple hh s₁.heap.objs.size ax (Nat.ne_of_lt hlt) its) hsz (fun i h st => by obtain ⟨o, e, _⟩ := st.1; exact ⟨o, e⟩)
    (fun i h h' o nw st e e' k N S => ⟨by obtain ⟨o', q, r⟩ := st.1; rw [e] at q; cases q; exact ⟨o, e', r⟩, S.tup k N⟩)
    hcell hkind hx ⟨⟨_, Heap.get?_push_size _ rfl, rfl, rfl⟩, ?_⟩ (fun b hb => ?_)
    (F.keeps up) (N.grown up) (Nat.ne_of_lt F.ns.lt) (next_is_new F) (fun p hp => Nat.ne_of_lt (Heap.lt_size (N p hp).1)) S (R _) ?_
  · obtain ⟨o, e, r⟩ := hl; exact ⟨o, up _ _ e, r⟩
  · show b < (s₁.heap.push _).objs.size
    rw [Heap.size_push]
    rcases List.mem_cons.mp hb with rfl | hb
    · exact Nat.lt_succ_self _
    · rw [List.mem_singleton.mp hb]; exact Nat.lt_succ_of_lt hlt
  · intro D C h tk m' ys news' F' N' o1 hn hC₀ hD₀ hCL hDL hCD offC fin
    refine ⟨m', hn, fun h'' hs'' => fin D h'' tk (F'.change hs'' hCL hC₀) (fun p hp => ?_) o1⟩
    refine ⟨hs''.extBut _ _ ?_ (N' p hp).1, (N' p hp).2⟩
    rcases List.mem_cons.mp hp with rfl | hp
    · exact Ne.symm hCD
    · exact offC p hp
theorem src_tup {elt : PySem.Expr} {x : Str} {scope : Scope} {cl : List (Str × Addr)} {ax : Addr} {its : Array Value} {news : List (Addr × Obj)} {s₁ : Shared} {Q : Value → Shared → Prop} (V : Nat → Value → Prop)
    (hh : A.handled = none) (F : Fr h₀ L s₁.heap m) (N : News h₀ L s₁.heap news) (hm : TupAt h₀ ax its news) (hsz : its.size ≤ sizeLine)
    (turn : ∀ g i ys v I oI C oC D m₂ h tk (E' : Value → Shared → Prop), i < its.size → its[i]? = some v → LCg.NsObj oC m₂ → m₂ x = some v → Fr h₀ L h m → News h₀ L h ((I, oI) :: (C, oC) :: (D, LCg.lst ys) :: news) →
      wpAny (model prog w) A (eval elt (compEnvC scope cl C env)) (CEnd h₀ L m { s₁ with heap := g } ((I, oI) :: (C, oC) :: (D, LCg.lst ys) :: news) (V i)) E' { s₁ with heap := h, toks := tk })
    (fin : ∀ (ys : List Value) D h tk, ys.length = its.size → (∀ j y, ys[j]? = some y → V j y) → Fr h₀ L h m → News h₀ L h ((D, W.listOf ys.toArray ys.length) :: news) → LCg.Off1 D news → Q (.ref D) { s₁ with heap := h, toks := tk }) :
    TupSrc prog w A h₀ L m env elt x scope cl Q (.ref ax) s₁ := by
  refine ⟨ax, its, news, rfl, hh, F, N, hm, hsz, fun g => rest_pure V hm (turn g) ?_⟩
  intro ys hl hV D h tk F' N' o1
  exact fin ys D h tk hl hV F' N' o1
end
end Mine
end
section
open PySem PySem.W PyProof.Rows PySem.Calls
set_option maxRecDepth 100000
set_option maxHeartbeats 8000000
namespace Mine
section
variable {M : Model} {A : Around} {E : Value → Shared → Prop} {s : Shared}
/-- a block's room when its one name is a cell -/
theorem env_cell {scope : Scope} {globals : Addr} {qual : Str} {outer : Env} {x : Str} {Q : Env → Shared → Prop}
    (hcf : ∀ n, cellsFrom n scope.names [] = [(x, n)]) (hpc : ∀ h : Heap, pushCells h scope.names = h.push { cls := .type "cell", data := .cell none })
    (h : Q (newEnv scope s.heap.objs.size globals [(x, s.heap.objs.size + 1)] qual none .none (some outer) builtinsNs) { s with heap := (s.heap.push { cls := .type "dict", data := .dict #[] }).push { cls := .type "cell", data := .cell none } }) :
    wpAny M A (newFunctionEnv scope globals [] [] qual none .none (some outer)) Q E s := by
  simp only [newFunctionEnv, Option.isSome_some, if_true]
  refine wpAny_bind (wpAny_alloc ?_)
  refine wpAny_bind (wpAny_layCells _ (fun name kind cells => by cases hkc : kind == NameKind.cell <;> simp [hkc]) _ _ _ _ ?_)
  rw [List.forIn_nil]
  refine wpAny_bind (wpAny_pure (wpAny_pure ?_))
  rw [hcf, hpc, Heap.size_push]
  exact h
end
theorem led_set {h₀ h h' : Heap} {L a : Addr} {m : Str → Option Value} {o o' : Obj} {rest all : List (Addr × Obj)} (F : Fr h₀ L h m) (N : News h₀ L h all) (ho : (a, o) ∈ all) (hr : ∀ p ∈ rest, p ∈ all ∧ p.1 ≠ a) (hs : Heap.SameBut a h h') (e : h'.get? a = some o') :
    Fr h₀ L h' m ∧ News h₀ L h' ((a, o') :: rest) := by
  have z := N _ ho
  refine ⟨F.change hs z.2.1 z.2.2, fun p hp => ?_⟩
  rcases List.mem_cons.mp hp with rfl | hp
  · exact ⟨e, z.2⟩
  · have y := N p (hr p hp).1
    exact ⟨hs.extBut _ _ (hr p hp).2 y.1, y.2⟩
theorem off1 {D : Addr} : ∀ {l : List (Addr × Obj)}, (∀ p ∈ l, p.1 ≠ D) → LCg.Off1 D l
  | [], _ => trivial
  | _ :: _, h => ⟨h _ List.mem_cons_self, off1 fun p hp => h p (List.mem_cons_of_mem _ hp)⟩
section
variable {prog : Program} {w : World} {A : Around} {E : Value → Shared → Prop} {s : Shared} {h₀ : Heap} {L : Addr} {m : Str → Option Value} {env : Env}
abbrev four (I : Addr) (oI : Obj) (C : Addr) (oC : Obj) (K : Addr) (oK : Obj) (D : Addr) (oD : Obj) (news : List (Addr × Obj)) : List (Addr × Obj) := (I, oI) :: (C, oC) :: (K, oK) :: (D, oD) :: news
def Off4 (I C K D : Addr) (news : List (Addr × Obj)) : Prop := ∀ p ∈ news, p.1 ≠ I ∧ p.1 ≠ C ∧ p.1 ≠ K ∧ p.1 ≠ D
/-- how an element's walk ends in a block with a cell -/
def KEnd (h₀ : Heap) (L : Addr) (m : Str → Option Value) (s₁ : Shared) (I : Addr) (oI : Obj) (C : Addr) (oC : Obj) (K : Addr) (oK : Obj) (D : Addr) (oD : Obj) (S : List (Addr × Obj) → Prop) (R : Value → List (Addr × Obj) → Prop) (y : Value) (s₂ : Shared) : Prop :=
  ∃ h' tk news', s₂ = { s₁ with heap := h', toks := tk } ∧ Fr h₀ L h' m ∧ News h₀ L h' (four I oI C oC K oK D oD news') ∧ Off4 I C K D news' ∧ S news' ∧ R y news'
/-- what the source of a block with a cell has to bring -/
def CellSrc (prog : Program) (w : World) (A : Around) (h₀ : Heap) (L : Addr) (m : Str → Option Value) (env : Env) (elt : PySem.Expr) (x : Str) (scope : Scope) (Fin : Shared → List Value → List (Addr × Obj) → Prop) (xv : Value) (s₁ : Shared) : Prop :=
  ∃ ax its news, xv = .ref ax ∧ A.handled = none ∧ Fr h₀ L s₁.heap m ∧ News h₀ L s₁.heap news ∧ LCg.SrcAt h₀ ax its news ∧ its.size ≤ sizeLine ∧
    ∃ Inv : Nat → List Value → List (Addr × Obj) → Prop, Inv 0 [] news ∧
      (∀ i ys nw v I oI C oC K oK D h tk (E' : Value → Shared → Prop), i < its.size → Inv i ys nw → its[i]? = some v → oK.data = .cell (some v) → Fr h₀ L h m → News h₀ L h (four I oI C oC K oK D (LCg.lst ys) nw) → Off4 I C K D nw →
        wpAny (model prog w) A (eval elt (compEnvC scope [(x, K)] C env)) (KEnd h₀ L m s₁ I oI C oC K oK D (LCg.lst ys) (LCg.SrcAt h₀ ax its) (fun y nw' => Inv (i + 1) (ys ++ [y]) nw')) E' { s₁ with heap := h, toks := tk }) ∧
      (∀ ys nw, Inv its.size ys nw → Fin s₁ ys nw)
/-- the block itself -/
theorem block_cell {elt iter : PySem.Expr} {x : Str} {px : Pos} {scope : Scope} {pos : Pos} {use : Option (Value → Sem Unit)} {Q : Value → Shared → Prop} {Fin : Shared → List Value → List (Addr × Obj) → Prop} {xv : Value} {s₁ : Shared}
    (hkind : scope.kind = .function) (hcf : ∀ n, cellsFrom n scope.names [] = [(x, n)]) (hpc : ∀ h : Heap, pushCells h scope.names = h.push { cls := .type "cell", data := .cell none })
    (hx : ∀ K C, (compEnvC scope [(x, K)] C env).kindOf x = some .cell)
    (h₁ : CellSrc prog w A h₀ L m env elt x scope Fin xv s₁)
    (hpost : ∀ ys nw C oC m' D h tk, Fin s₁ ys nw → LCg.NsObj oC m' → Fr h₀ L h m → News h₀ L h ((C, oC) :: (D, LCg.lst ys) :: nw) → C ≠ D → (∀ p ∈ nw, p.1 ≠ C ∧ p.1 ≠ D) → compPost (model prog w) A E use Q (.ref D) C (.ok .next) { s₁ with heap := h, toks := tk }) :
    wpAny (model prog w) A (pyIter xv) (fun it s₂ => wpAny (model prog w) A (newList []) (fun acc s₃ =>
      wpAny (model prog w) A (newFunctionEnv scope env.globals [] [] env.qual none .none (some env)) (fun cenv s₄ =>
        codeAny (model prog w) A (.compStart (.ListComp elt [⟨.Name x px, iter, [], 0⟩] scope pos) 0 it acc { cenv with scope := relabel scope env }) (compPost (model prog w) A E use Q acc cenv.locals) s₄) E s₃) E s₂) E s₁ := by
  obtain ⟨ax, its, news, rfl, hh, F, N, S, hsz, Inv, hI0, turn, fin⟩ := h₁
  have hl := S.list F.keep N
  have hlt : ax < s₁.heap.objs.size := by obtain ⟨_, e, _⟩ := hl; exact Heap.lt_size e
  refine wpAny_pyIter_list hl ?_
  refine wpAny_newObj_type (env_cell hcf hpc ?_)
  have W := Walks.list (prog := prog) (w := w) hh s₁.heap.objs.size ax (Nat.ne_of_lt hlt) its
  -- the ledger of the four
  have F1 := F.keeps (h' := s₁.heap.push { cls := .type "list_iterator", data := .fields #[.ref ax, .int 0 0] }) fun b o e => Heap.get?_push_of_some _ e
  have N1 := News.push F N { cls := .type "list_iterator", data := .fields #[.ref ax, .int 0 0] }
  have F2 := F1.keeps (h' := (s₁.heap.push { cls := .type "list_iterator", data := .fields #[.ref ax, .int 0 0] }).push { cls := .type "list", data := .seq #[] }) fun b o e => Heap.get?_push_of_some _ e
  have N2 := News.push F1 N1 { cls := .type "list", data := .seq #[] }
  have F3 := F2.keeps (h' := ((s₁.heap.push { cls := .type "list_iterator", data := .fields #[.ref ax, .int 0 0] }).push { cls := .type "list", data := .seq #[] }).push { cls := .type "dict", data := .dict #[] }) fun b o e => Heap.get?_push_of_some _ e
  have N3 := News.push F2 N2 { cls := .type "dict", data := .dict #[] }
  have F4 := F3.keeps (h' := (((s₁.heap.push { cls := .type "list_iterator", data := .fields #[.ref ax, .int 0 0] }).push { cls := .type "list", data := .seq #[] }).push { cls := .type "dict", data := .dict #[] }).push { cls := .type "cell", data := .cell none }) fun b o e => Heap.get?_push_of_some _ e
  have N4 := News.push F3 N3 { cls := .type "cell", data := .cell none }
  simp only [Heap.size_push] at N2 N3 N4
  dsimp only
  simp only [Heap.size_push]
  have hnlt : ∀ p ∈ news, p.1 < s₁.heap.objs.size := fun p hp => Heap.lt_size (N p hp).1
  generalize hI : s₁.heap.objs.size = I at *
  generalize hH : (((s₁.heap.push { cls := .type "list_iterator", data := .fields #[.ref ax, .int 0 0] }).push { cls := .type "list", data := .seq #[] }).push { cls := .type "dict", data := .dict #[] }).push { cls := .type "cell", data := .cell none } = H at *
  have loop : codeAny (model prog w) A (.compLoop (.ListComp elt [⟨.Name x px, iter, [], 0⟩] scope pos) 0 (.ref I) (.ref (I + 1)) (compEnvC scope [(x, I + 1 + 1 + 1)] (I + 1 + 1) env))
      (compPost (model prog w) A E use Q (.ref (I + 1)) (I + 1 + 1)) { s₁ with heap := H } := by
    refine codeAny_compLoop_tests
      (fun k s' => ∃ h' tk i ys m' nw oI oC oK vo, s' = { s₁ with heap := h', toks := tk } ∧ i ≤ its.size ∧ k = its.size + 1 - i ∧ ys.length = i ∧ (h'.IsListIter I ax i ∧ h'.IsList ax its) ∧ LCg.NsObj oC m' ∧ oK.data = .cell vo ∧ Fr h₀ L h' m ∧
        News h₀ L h' (four I oI (I + 1 + 1) oC (I + 1 + 1 + 1) oK (I + 1) (LCg.lst ys) nw) ∧ Off4 I (I + 1 + 1) (I + 1 + 1 + 1) (I + 1) nw ∧ LCg.SrcAt h₀ ax its nw ∧ Inv i ys nw) ?_ (its.size + 1) ?_
    · rintro k s' ⟨h', tk, i, ys, m', nw, oI, oC, oK, vo, rfl, hi, rfl, hyl, hst, hC, hK, F', N', off, S', hInv⟩
      have nI : ∀ p ∈ (I + 1 + 1, oC) :: (I + 1 + 1 + 1, oK) :: (I + 1, LCg.lst ys) :: nw, p.1 ≠ I := by
        intro p hp
        rcases List.mem_cons.mp hp with rfl | hp
        · show ¬ (I + 1 + 1 : Nat) = I; omega
        rcases List.mem_cons.mp hp with rfl | hp
        · show ¬ (I + 1 + 1 + 1 : Nat) = I; omega
        rcases List.mem_cons.mp hp with rfl | hp
        · show ¬ (I + 1 : Nat) = I; omega
        · exact (off p hp).1
      have zI := (N' _ (.head _)).2
      have N0 : News h₀ L h' ((I + 1 + 1, oC) :: (I + 1 + 1 + 1, oK) :: (I + 1, LCg.lst ys) :: nw) := fun p hp => N' p (.tail _ hp)
      by_cases hlt' : i < its.size
      · refine W.item i _ _ _ hlt' hst fun v h₂ tk₂ hPv hst₂ hk₂ => ?_
        have F₂ := LCg.fr_but F' hk₂ zI.1.symm zI.2
        have N₂ := LCg.news_but N0 hk₂ nI
        obtain ⟨oI₂, heI₂, hrI₂⟩ := hst₂.1
        refine wpAny_assign_Name (wpAny_storeName_cell (c := I + 1 + 1 + 1) (by simp [compEnvC, relabel, hkind]) (hx _ _) (by simp [compEnvC]) ⟨oK, (N₂ _ (.tail _ (.head _))).1, hK⟩ fun h₃ hc₃ hs₃ => ?_)
        refine wpAny_tests_nil ?_
        simp only [if_true]
        obtain ⟨oK₃, heK₃, hdK₃⟩ := hc₃
        have N₂' : News h₀ L h₂ ((I, oI₂) :: (I + 1 + 1, oC) :: (I + 1 + 1 + 1, oK) :: (I + 1, LCg.lst ys) :: nw) := fun p hp => by
          rcases List.mem_cons.mp hp with rfl | hp
          · exact ⟨heI₂, zI⟩
          · exact N₂ p hp
        obtain ⟨F₃, N₃⟩ := led_set (rest := (I, oI₂) :: (I + 1 + 1, oC) :: (I + 1, LCg.lst ys) :: nw) F₂ N₂' (.tail _ (.tail _ (.head _))) (by
          intro p hp
          rcases List.mem_cons.mp hp with rfl | hp
          · exact ⟨.head _, by show ¬ (I : Nat) = I + 1 + 1 + 1; omega⟩
          rcases List.mem_cons.mp hp with rfl | hp
          · exact ⟨.tail _ (.head _), by show ¬ (I + 1 + 1 : Nat) = I + 1 + 1 + 1; omega⟩
          rcases List.mem_cons.mp hp with rfl | hp
          · exact ⟨.tail _ (.tail _ (.tail _ (.head _))), by show ¬ (I + 1 : Nat) = I + 1 + 1 + 1; omega⟩
          · exact ⟨.tail _ (.tail _ (.tail _ (.tail _ hp))), (off p hp).2.2.1⟩) hs₃ heK₃
        have N₃' : News h₀ L h₃ (four I oI₂ (I + 1 + 1) oC (I + 1 + 1 + 1) oK₃ (I + 1) (LCg.lst ys) nw) := fun p hp => N₃ p (by
          rcases List.mem_cons.mp hp with rfl | hp
          · exact .tail _ (.head _)
          rcases List.mem_cons.mp hp with rfl | hp
          · exact .tail _ (.tail _ (.head _))
          rcases List.mem_cons.mp hp with rfl | hp
          · exact .head _
          · exact .tail _ (.tail _ (.tail _ hp)))
        refine wpAny_mono (turn i ys nw v I oI₂ (I + 1 + 1) oC (I + 1 + 1 + 1) oK₃ (I + 1) h₃ _ _ hlt' hInv hPv hdK₃ F₃ N₃' off) ?_ fun _ _ e => e
        rintro y s₄ ⟨h₄, tk₄, nw₄, rfl, F₄, N₄', off₄, S₄, hInv₄⟩
        have zD := (N₄' _ (.tail _ (.tail _ (.tail _ (.head _))))).1
        refine append_at (hsz := by show ys.toArray.size ≤ sizeLine; rw [List.size_toArray, hyl]; exact Nat.le_trans hi hsz) zD fun h₅ hs₅ hD₅ => ?_
        obtain ⟨F₅, N₅⟩ := led_set (rest := (I, oI₂) :: (I + 1 + 1, oC) :: (I + 1 + 1 + 1, oK₃) :: nw₄) F₄ N₄' (.tail _ (.tail _ (.tail _ (.head _)))) (by
          intro p hp
          rcases List.mem_cons.mp hp with rfl | hp
          · exact ⟨.head _, by show ¬ (I : Nat) = I + 1; omega⟩
          rcases List.mem_cons.mp hp with rfl | hp
          · exact ⟨.tail _ (.head _), by show ¬ (I + 1 + 1 : Nat) = I + 1; omega⟩
          rcases List.mem_cons.mp hp with rfl | hp
          · exact ⟨.tail _ (.tail _ (.head _)), by show ¬ (I + 1 + 1 + 1 : Nat) = I + 1; omega⟩
          · exact ⟨.tail _ (.tail _ (.tail _ (.tail _ hp))), (off₄ p hp).2.2.2⟩) hs₅ (hD₅.trans (congrArg some (LCg.lst_snoc ys y)))
        have N₅' : News h₀ L h₅ (four I oI₂ (I + 1 + 1) oC (I + 1 + 1 + 1) oK₃ (I + 1) (LCg.lst (ys ++ [y])) nw₄) := fun p hp => N₅ p (by
          rcases List.mem_cons.mp hp with rfl | hp
          · exact .tail _ (.head _)
          rcases List.mem_cons.mp hp with rfl | hp
          · exact .tail _ (.tail _ (.head _))
          rcases List.mem_cons.mp hp with rfl | hp
          · exact .tail _ (.tail _ (.tail _ (.head _)))
          rcases List.mem_cons.mp hp with rfl | hp
          · exact .head _
          · exact .tail _ (.tail _ (.tail _ (.tail _ hp))))
        exact ⟨its.size + 1 - (i + 1), by omega, h₅, tk₄, i + 1, ys ++ [y], m', nw₄, oI₂, oC, oK₃, _, rfl, hlt', rfl, by rw [List.length_append, List.length_singleton, hyl],
          ⟨⟨oI₂, (N₅' _ (.head _)).1, hrI₂⟩, S₄.list F₅.keep fun p hp => N₅' p (.tail _ (.tail _ (.tail _ (.tail _ hp))))⟩, hC, hdK₃, F₅, N₅', off₄, S₄, hInv₄⟩
      · obtain rfl : i = its.size := Nat.le_antisymm hi (Nat.not_lt.mp hlt')
        refine W.done _ _ _ hst fun h₂ tk₂ hk₂ => ?_
        have F₂ := LCg.fr_but F' hk₂ zI.1.symm zI.2
        have N₂ := LCg.news_but N0 hk₂ nI
        have zC := N₂ _ (.head _)
        refine hpost ys nw (I + 1 + 1) oC m' (I + 1) h₂ tk₂ (fin ys nw hInv) hC F₂ (fun p hp => N₂ p ?_) (by show ¬ (I + 1 + 1 : Nat) = I + 1; omega) fun p hp => ⟨(off p hp).2.1, (off p hp).2.2.2⟩
        rcases List.mem_cons.mp hp with rfl | hp
        · exact .head _
        · exact .tail _ (.tail _ hp)
    · refine ⟨H, s₁.toks, 0, [], fun _ => none, news, { cls := .type "list_iterator", data := .fields #[.ref ax, .int 0 0] }, { cls := .type "dict", data := .dict #[] }, { cls := .type "cell", data := .cell none }, none, rfl, Nat.zero_le _, rfl, rfl, ?_, ?_, rfl, F4, fun p hp => N4 p ?_, ?_, S, hI0⟩
      · exact ⟨⟨_, (N4 _ (.tail _ (.tail _ (.tail _ (.head _))))).1, rfl, rfl⟩, S.list F4.keep fun p hp => N4 p (.tail _ (.tail _ (.tail _ (.tail _ hp))))⟩
      · exact ⟨_, _, rfl, by intro p hp; simp at hp, fun _ => rfl⟩
      · rcases List.mem_cons.mp hp with rfl | hp
        · exact .tail _ (.tail _ (.tail _ (.head _)))
        rcases List.mem_cons.mp hp with rfl | hp
        · exact .tail _ (.head _)
        rcases List.mem_cons.mp hp with rfl | hp
        · exact .head _
        rcases List.mem_cons.mp hp with rfl | hp
        · exact .tail _ (.tail _ (.head _))
        · exact .tail _ (.tail _ (.tail _ (.tail _ hp)))
      · intro p hp
        have := hnlt p hp
        exact ⟨Nat.ne_of_lt this, Nat.ne_of_lt (Nat.lt_succ_of_lt (Nat.lt_succ_of_lt this)), Nat.ne_of_lt (Nat.lt_succ_of_lt (Nat.lt_succ_of_lt (Nat.lt_succ_of_lt this))), Nat.ne_of_lt (Nat.lt_succ_of_lt this)⟩
  refine codeAny_compStart_list loop (wpAny_pyIter_listiter (i := 0) (l := ax) ?_ loop)
  exact ⟨_, (N4 _ (.tail _ (.tail _ (.tail _ (.head _))))).1, rfl, rfl⟩
theorem comp_cell {elt iter : PySem.Expr} {x : Str} {px : Pos} {scope : Scope} {pos : Pos} {Q : Value → Shared → Prop} (F₀ : Fr h₀ L s.heap m)
    (hclos : closureFor scope env = pure []) (hkind : scope.kind = .function) (hcf : ∀ n, cellsFrom n scope.names [] = [(x, n)]) (hpc : ∀ h : Heap, pushCells h scope.names = h.push { cls := .type "cell", data := .cell none })
    (hnames : ∀ y ∈ scope.names, y.2 = .local → scope.names.lookup y.1 = some .local) (hx : ∀ K C, (compEnvC scope [(x, K)] C env).kindOf x = some .cell)
    (h : wpAny (model prog w) A (eval iter env) (CellSrc prog w A h₀ L m env elt x scope (fun s₂ => LCg.FinE h₀ L m s₂ Q)) E s)
    (hs : ∀ x, foldedSetIterable iter env x = pure x := by intro _; rfl) :
    wpAny (model prog w) A (eval (.ListComp elt [⟨.Name x px, iter, [], 0⟩] scope pos) env) Q E s := by
  rw [eval_ListComp]
  refine wpAny_comprehension_free (use := none) rfl hs hclos hkind hnames (wpAny_mono h (fun xv s₁ h₁ => ?_) fun _ _ e => e)
  refine block_cell hkind hcf hpc hx h₁ ?_
  intro ys nw C oC m' D h tk fin hC F' N' hCD off
  have zC := N' _ (.head _)
  refine ⟨m', hC.ns zC.1, fun h'' hs'' => fin D h'' tk (F'.change hs'' zC.2.1 zC.2.2) (fun p hp => ?_) ?_⟩
  · refine ⟨hs''.extBut _ _ ?_ (N' p (.tail _ hp)).1, (N' p (.tail _ hp)).2⟩
    rcases List.mem_cons.mp hp with rfl | hp
    · exact Ne.symm hCD
    · exact (off p hp).1
  · exact off1 fun p hp => (off p hp).2
theorem assign_cell {elt iter : PySem.Expr} {x y : Str} {px py : Pos} {scope : Scope} {pos spos : Pos} {Q : Flow → Shared → Prop} (F₀ : Fr h₀ L s.heap m) (hLe : env.locals = L)
    (hsw : swapsWith (.ListComp elt [⟨.Name x px, iter, [], 0⟩] scope pos) (some (.Name y py)) spos.line env = pure true)
    (hclos : closureFor scope env = pure []) (hkind : scope.kind = .function) (hcf : ∀ n, cellsFrom n scope.names [] = [(x, n)]) (hpc : ∀ h : Heap, pushCells h scope.names = h.push { cls := .type "cell", data := .cell none })
    (hnames : ∀ y ∈ scope.names, y.2 = .local → scope.names.lookup y.1 = some .local) (hx : ∀ K C, (compEnvC scope [(x, K)] C env).kindOf x = some .cell)
    (hy : env.kindOf y = some .local) (hp : (env.scope.kind == .class || (env.scope.kind == .module && env.locals != env.globals)) = false)
    (h : wpAny (model prog w) A (eval iter env) (CellSrc prog w A h₀ L m env elt x scope (fun s₂ => LCg.FinA h₀ L m s₂ y Q)) E s)
    (hs : ∀ x, foldedSetIterable iter env x = pure x := by intro _; rfl) :
    wpAny (model prog w) A (exec (.Assign [.Name y py] (.ListComp elt [⟨.Name x px, iter, [], 0⟩] scope pos) spos) env) Q E s := by
  subst hLe
  rw [exec_Assign_Name_used _ _ _ _ hsw]
  refine wpAny_bind (wpAny_standAt (wpAny_bind ?_))
  show wpAny _ A (do let _ ← comprehension (.ListComp elt [⟨.Name x px, iter, [], 0⟩] scope pos) scope env _ (newList []) false (eval iter env) (some (assign (.Name y py) env))) _ _ s
  refine wpAny_bind (wpAny_mono (wpAny_comprehension_free (use := some (assign (.Name y py) env)) (Q := fun _ s' => Q .next s') rfl hs hclos hkind hnames
    (wpAny_mono h (fun xv s₁ h₁ => ?_) fun _ _ e => e)) (fun _ s' hq => wpAny_pure (wpAny_pure hq)) fun _ _ e => e)
  refine block_cell hkind hcf hpc hx h₁ ?_
  intro ys nw C oC m' D h' tk fin hC F' N' hCD off
  show wpAny _ A (assign (.Name y py) env (.ref D)) _ _ _
  refine wpAny_assign_Name (wpAny_storeName_local hy F'.ns (fun h₂ hn₂ hs₂ => ?_) hp)
  have zC := N' _ (.head _)
  have hL₀ : h₀.get? env.locals = none := Heap.get?_none_of_le F'.above
  have F₂ : Fr h₀ env.locals h₂ (fun z => if z = y then some (.ref D) else m z) := ⟨hn₂, fun b o e => hs₂.extBut b o (fun q => by rw [q, hL₀] at e; cases e) (F'.keep b o e), F'.above⟩
  refine ⟨m', hC.ns (hs₂.extBut _ _ zC.2.1 zC.1), fun h'' hs'' => fin D h'' _ (F₂.change hs'' zC.2.1 zC.2.2) (fun p hp => ?_) ?_⟩
  · have z : h₂.get? p.1 = some p.2 := hs₂.extBut _ _ (N' p (.tail _ hp)).2.1 (N' p (.tail _ hp)).1
    refine ⟨hs''.extBut _ _ ?_ z, (N' p (.tail _ hp)).2⟩
    rcases List.mem_cons.mp hp with rfl | hp
    · exact Ne.symm hCD
    · exact (off p hp).1
  · exact off1 fun p hp => (off p hp).2
end
end Mine
end
section
open PySem PySem.W PyProof.Rows PySem.Calls
set_option maxRecDepth 100000
set_option maxHeartbeats 8000000
namespace Mine
theorem stored_new {K : Type} [DecidableEq K] {kvs : List (K × Value)} {k : K} {v : Value} (h : ∀ kv ∈ kvs, kv.1 ≠ k) : stored kvs k v = kvs ++ [(k, v)] := by
  unfold stored
  rw [if_neg]
  intro e
  obtain ⟨kv, hm, he⟩ := List.any_eq_true.mp e
  exact h kv hm (of_decide_eq_true he)
section
variable {prog : Program} {w : World} {A : Around} {E : Value → Shared → Prop} {s : Shared} {h₀ : Heap} {L : Addr} {m : Str → Option Value} {env : Env} {K : Type} [DecidableEq K] {knd : PySem.KeyKind prog w K}
abbrev three (I : Addr) (oI : Obj) (C : Addr) (oC : Obj) (D : Addr) (oD : Obj) (news : List (Addr × Obj)) : List (Addr × Obj) := (I, oI) :: (C, oC) :: (D, oD) :: news
/-- what the source of a dict's block over a range has to bring -/
def DictSrc (prog : Program) (w : World) (A : Around) (h₀ : Heap) (L : Addr) (m : Str → Option Value) (env : Env) {K : Type} [DecidableEq K] (knd : PySem.KeyKind prog w K) (kx vx : PySem.Expr) (x : Str) (scope : Scope) (cl : List (Str × Addr)) (Q : Value → Shared → Prop) (xv : Value) (s₁ : Shared) : Prop :=
  ∃ r b t u v n news, xv = .ref r ∧ A.handled = none ∧ Fr h₀ L s₁.heap m ∧ News h₀ L s₁.heap news ∧ IsRange s₁.heap r 0 b 1 t u v ∧ Builtin.Range.small 0 b 1 = true ∧ Builtin.Range.rangeSize 0 b 1 = ((n : Nat) : Int) ∧ n ≤ sizeLine ∧
    ∃ (kf : Nat → K) (V : Nat → Value → Prop), (∀ i j, kf i = kf j → i = j) ∧
      (∀ i ti I oI C oC D oD m₂ h tk (E' : Value → Shared → Prop), i < n → LCg.NsObj oC m₂ → m₂ x = some (.int ((i : Nat) : Int) ti) → Fr h₀ L h m → News h₀ L h (three I oI C oC D oD news) →
        wpAny (model prog w) A (eval kx (compEnvC scope cl C env)) (CEnd h₀ L m s₁ (three I oI C oC D oD news) (fun y => knd.is (kf i) y = true)) E' { s₁ with heap := h, toks := tk }) ∧
      (∀ i ti I oI C oC D oD m₂ h tk (E' : Value → Shared → Prop), i < n → LCg.NsObj oC m₂ → m₂ x = some (.int ((i : Nat) : Int) ti) → Fr h₀ L h m → News h₀ L h (three I oI C oC D oD news) →
        wpAny (model prog w) A (eval vx (compEnvC scope cl C env)) (CEnd h₀ L m s₁ (three I oI C oC D oD news) (V i)) E' { s₁ with heap := h, toks := tk }) ∧
      (∀ D oD (kvs : List (K × Value)) h tk, kvs.length = n → (∀ i kv, kvs[i]? = some kv → kv.1 = kf i ∧ V i kv.2) → oD.IsDictOf knd kvs → Fr h₀ L h m → News h₀ L h ((D, oD) :: news) → (∀ p ∈ news, p.1 ≠ D) → L < D → Q (.ref D) { s₁ with heap := h, toks := tk })
theorem comp_dict {kx vx iter : PySem.Expr} {x : Str} {px : Pos} {scope : Scope} {cl : List (Str × Addr)} {pos : Pos} {Q : Value → Shared → Prop} (F₀ : Fr h₀ L s.heap m)
    (hclos : closureFor scope env = pure cl) (hcell : ∀ y ∈ scope.names, y.2 ≠ .cell) (hkind : scope.kind = .function)
    (hnames : ∀ y ∈ scope.names, y.2 = .local → scope.names.lookup y.1 = some .local) (hx : scope.names.lookup x = some .local)
    (h : wpAny (model prog w) A (eval iter env) (DictSrc prog w A h₀ L m env knd kx vx x scope cl Q) E s)
    (hs : ∀ x, foldedSetIterable iter env x = pure x := by intro _; rfl) :
    wpAny (model prog w) A (eval (.DictComp kx vx [⟨.Name x px, iter, [], 0⟩] scope pos) env) Q E s := by
  rw [arm_eval_DictComp]
  refine wpAny_comprehension_free (use := none) rfl hs hclos hkind hnames (wpAny_mono h (fun xv s₁ h₁ => ?_) fun _ _ e => e)
  obtain ⟨r, b, t, u, v, n, news, rfl, hh, F, N, hr, hsm, hn, hsz, kf, V, hinj, turnK, turnV, fin⟩ := h₁
  refine wpAny_pyIter_range hr hsm ?_
  rw [hn]
  have F1 := F.keeps (h' := s₁.heap.push { cls := .type "range_iterator", data := .fields #[rawInt 0, rawInt ((n : Nat) : Int), rawInt 1] }) fun b o e => Heap.get?_push_of_some _ e
  have N1 := News.push F N { cls := .type "range_iterator", data := .fields #[rawInt 0, rawInt ((n : Nat) : Int), rawInt 1] }
  refine wpAny_newObj_type (wpAny_newFunctionEnv hcell (by intro y hy; simp at hy) (fun h₁ hns₁ hsb₁ => ?_) hkind)
  have F2 := F1.keeps (h' := (s₁.heap.push { cls := .type "range_iterator", data := .fields #[rawInt 0, rawInt ((n : Nat) : Int), rawInt 1] }).push { cls := .type "dict", data := .dict #[] }) fun b o e => Heap.get?_push_of_some _ e
  have N2 := News.push F1 N1 { cls := .type "dict", data := .dict #[] }
  have F3 := F2.keeps (h' := ((s₁.heap.push { cls := .type "range_iterator", data := .fields #[rawInt 0, rawInt ((n : Nat) : Int), rawInt 1] }).push { cls := .type "dict", data := .dict #[] }).push { cls := .type "dict", data := .dict #[] }) fun b o e => Heap.get?_push_of_some _ e
  have N3 := News.push F2 N2 { cls := .type "dict", data := .dict #[] }
  simp only [Heap.size_push] at N2 N3
  dsimp only at hns₁ hsb₁ ⊢
  simp only [Heap.size_push] at hns₁ hsb₁ ⊢
  have hnlt : ∀ p ∈ news, p.1 < s₁.heap.objs.size := fun p hp => Heap.lt_size (N p hp).1
  have hLI : L < s₁.heap.objs.size := F.ns.lt
  generalize hI : s₁.heap.objs.size = I at *
  obtain ⟨oC, hoC, hC⟩ := LCg.ns_obj hns₁
  have hs3 : Heap.SameBut (I + 1 + 1) (((s₁.heap.push { cls := .type "range_iterator", data := .fields #[rawInt 0, rawInt ((n : Nat) : Int), rawInt 1] }).push { cls := .type "dict", data := .dict #[] }).push { cls := .type "dict", data := .dict #[] }) h₁ := hsb₁
  obtain ⟨F4, N4⟩ := led_set (rest := (I, { cls := .type "range_iterator", data := .fields #[rawInt 0, rawInt ((n : Nat) : Int), rawInt 1] }) :: (I + 1, { cls := .type "dict", data := .dict #[] }) :: news) F3 N3 (.head _) (by
    intro p hp
    rcases List.mem_cons.mp hp with rfl | hp
    · exact ⟨.tail _ (.tail _ (.head _)), by show ¬ (I : Nat) = I + 1 + 1; omega⟩
    rcases List.mem_cons.mp hp with rfl | hp
    · exact ⟨.tail _ (.head _), by show ¬ (I + 1 : Nat) = I + 1 + 1; omega⟩
    · exact ⟨.tail _ (.tail _ (.tail _ hp)), Nat.ne_of_lt (Nat.lt_succ_of_lt (Nat.lt_succ_of_lt (hnlt p hp)))⟩) hs3 hoC
  have W := LCg.range_walks (prog := prog) (w := w) (I := I) hh 0 n
  have off : ∀ p ∈ news, p.1 ≠ I ∧ p.1 ≠ I + 1 + 1 ∧ p.1 ≠ I + 1 := fun p hp => ⟨Nat.ne_of_lt (hnlt p hp), Nat.ne_of_lt (Nat.lt_succ_of_lt (Nat.lt_succ_of_lt (hnlt p hp))), Nat.ne_of_lt (Nat.lt_succ_of_lt (hnlt p hp))⟩
  have loop : ∀ tk0, codeAny (model prog w) A (.compLoop (.DictComp kx vx [⟨.Name x px, iter, [], 0⟩] scope pos) 0 (.ref I) (.ref (I + 1)) (compEnvC scope cl (I + 1 + 1) env))
      (compPost (model prog w) A E none Q (.ref (I + 1)) (I + 1 + 1)) { s₁ with heap := h₁, toks := tk0 } := by
    intro tk0
    refine codeAny_compLoop_testsD
      (fun k s' => ∃ h' tk i kvs m' oI oC oD, s' = { s₁ with heap := h', toks := tk } ∧ i ≤ n ∧ k = n + 1 - i ∧ kvs.length = i ∧ (∀ j kv, kvs[j]? = some kv → kv.1 = kf j ∧ V j kv.2) ∧ IsRangeIter h' I (0 + (i : Nat) * 1) ((n : Int) - (i : Nat)) 1 ∧ LCg.NsObj oC m' ∧ oD.IsDictOf knd kvs ∧ Fr h₀ L h' m ∧
        News h₀ L h' (three I oI (I + 1 + 1) oC (I + 1) oD news)) ?_ (n + 1) ?_
    · rintro k s' ⟨h', tk, i, kvs, m', oI, oC, oD, rfl, hi, rfl, hkl, hkv, hst, hC, hD, F', N'⟩
      have zI := (N' _ (.head _)).2
      have N0 : News h₀ L h' ((I + 1 + 1, oC) :: (I + 1, oD) :: news) := fun p hp => N' p (.tail _ hp)
      have nI : ∀ p ∈ (I + 1 + 1, oC) :: (I + 1, oD) :: news, p.1 ≠ I := by
        intro p hp
        rcases List.mem_cons.mp hp with rfl | hp
        · show ¬ (I + 1 + 1 : Nat) = I; omega
        rcases List.mem_cons.mp hp with rfl | hp
        · show ¬ (I + 1 : Nat) = I; omega
        · exact (off p hp).1
      by_cases hlt' : i < n
      · refine W.item i _ _ _ hlt' hst fun v h₂ tk₂ hPv hst₂ hk₂ => ?_
        obtain ⟨ti, rfl⟩ := hPv
        have F₂ := LCg.fr_but F' hk₂ zI.1.symm zI.2
        have N₂ := LCg.news_but N0 hk₂ nI
        refine wpAny_assign_Name (wpAny_storeName_local (lookup_relabel_local hx) (hC.ns (N₂ _ (.head _)).1) (fun h₃ hn₃ hs₃ => ?_) (by simp [compEnvC, relabel, hkind]))
        refine wpAny_tests_nil ?_
        simp only [if_true]
        obtain ⟨oC₃, heC₃, hC₃⟩ := LCg.ns_obj hn₃
        have N₂' : News h₀ L h₂ ((I, _) :: (I + 1 + 1, oC) :: (I + 1, oD) :: news) := fun p hp => by
          rcases List.mem_cons.mp hp with rfl | hp
          · exact ⟨hst₂, zI⟩
          · exact N₂ p hp
        obtain ⟨F₃, N₃⟩ := led_set (rest := (I, _) :: (I + 1, oD) :: news) F₂ N₂' (.tail _ (.head _)) (by
          intro p hp
          rcases List.mem_cons.mp hp with rfl | hp
          · exact ⟨.head _, by show ¬ (I : Nat) = I + 1 + 1; omega⟩
          rcases List.mem_cons.mp hp with rfl | hp
          · exact ⟨.tail _ (.tail _ (.head _)), by show ¬ (I + 1 : Nat) = I + 1 + 1; omega⟩
          · exact ⟨.tail _ (.tail _ (.tail _ hp)), (off p hp).2.1⟩) hs₃ heC₃
        have N₃' := kst_newsOf (l' := (I, _) :: (I + 1 + 1, oC₃) :: (I + 1, oD) :: news) N₃ (List.forall_mem_cons.mpr ⟨.tail _ (.head _), List.forall_mem_cons.mpr ⟨.head _, List.forall_mem_cons.mpr ⟨.tail _ (.tail _ (.head _)), fun p hp => .tail _ (.tail _ (.tail _ hp))⟩⟩⟩)
        have hxi : (fun y => if y = x then some (Value.int (0 + (i : Int)) ti) else m' y) x = some (.int ((i : Nat) : Int) ti) := by simp
        refine wpAny_mono (turnK i ti I _ (I + 1 + 1) oC₃ (I + 1) oD _ h₃ _ _ hlt' hC₃ hxi F₃ N₃') ?_ fun _ _ e => e
        rintro key s₄ ⟨h₄, tk₄, rfl, F₄, N₄', hkey⟩
        refine wpAny_mono (turnV i ti I _ (I + 1 + 1) oC₃ (I + 1) oD _ h₄ _ _ hlt' hC₃ hxi F₄ N₄') ?_ fun _ _ e => e
        rintro y s₅ ⟨h₅, tk₅, rfl, F₅, N₅', hy⟩
        have hD₅ : h₅.DictOf knd (I + 1) kvs := Heap.dictOf_iff.mpr ⟨oD, (N₅' _ (.tail _ (.tail _ (.head _)))).1, hD⟩
        refine wpAny_dictSet_pairs hkey hD₅ (fun h₆ hD₆ hs₆ => ?_) (by rw [hkl]; exact Nat.le_trans hi hsz)
        have hfresh : ∀ kv ∈ kvs, kv.1 ≠ kf i := by
          intro kv hm e
          obtain ⟨j, hj, hj'⟩ := List.mem_iff_getElem.mp hm
          have := (hkv j kv (by rw [List.getElem?_eq_getElem hj, hj'])).1
          have e2 := hinj j i (this.symm.trans e)
          omega
        rw [stored_new hfresh] at hD₆
        obtain ⟨oD₆, heD₆, hoD₆⟩ := Heap.dictOf_iff.mp hD₆
        obtain ⟨F₆, N₆⟩ := led_set (rest := (I, _) :: (I + 1 + 1, oC₃) :: news) F₅ N₅' (.tail _ (.tail _ (.head _))) (by
          intro p hp
          rcases List.mem_cons.mp hp with rfl | hp
          · exact ⟨.head _, by show ¬ (I : Nat) = I + 1; omega⟩
          rcases List.mem_cons.mp hp with rfl | hp
          · exact ⟨.tail _ (.head _), by show ¬ (I + 1 + 1 : Nat) = I + 1; omega⟩
          · exact ⟨.tail _ (.tail _ (.tail _ hp)), (off p hp).2.2⟩) hs₆ heD₆
        have N₆' := kst_newsOf (l' := (I, _) :: (I + 1 + 1, oC₃) :: (I + 1, oD₆) :: news) N₆ (List.forall_mem_cons.mpr ⟨.tail _ (.head _), List.forall_mem_cons.mpr ⟨.tail _ (.tail _ (.head _)), List.forall_mem_cons.mpr ⟨.head _, fun p hp => .tail _ (.tail _ (.tail _ hp))⟩⟩⟩)
        refine ⟨n + 1 - (i + 1), by omega, h₆, _, i + 1, kvs ++ [(kf i, y)], _, _, oC₃, oD₆, rfl, hlt', rfl, by rw [List.length_append, List.length_singleton, hkl], ?_, (N₆' _ (.head _)).1, hC₃, hoD₆, F₆, N₆'⟩
        intro j kv e
        rcases Nat.lt_trichotomy j kvs.length with q | q | q
        · rw [List.getElem?_append_left q] at e; exact hkv j kv e
        · subst q
          rw [List.getElem?_append_right (Nat.le_refl _)] at e
          simp at e
          subst e
          rw [hkl]
          exact ⟨rfl, hy⟩
        · rw [List.getElem?_eq_none (by simp; omega)] at e; cases e
      · obtain rfl : i = n := Nat.le_antisymm hi (Nat.not_lt.mp hlt')
        refine W.done _ _ _ hst fun h₂ tk₂ hk₂ => ?_
        have F₂ := LCg.fr_but F' hk₂ zI.1.symm zI.2
        have N₂ := LCg.news_but N0 hk₂ nI
        have zC := N₂ _ (.head _)
        refine ⟨m', hC.ns zC.1, fun h'' hs'' => ?_⟩
        refine fin (I + 1) oD kvs h'' tk₂ hkl hkv hD (F₂.change hs'' zC.2.1 zC.2.2) (fun p hp => ?_) (fun p hp => (off p hp).2.2) (Nat.lt_succ_of_lt hLI)
        refine ⟨hs''.extBut _ _ ?_ (N₂ p (.tail _ hp)).1, (N₂ p (.tail _ hp)).2⟩
        rcases List.mem_cons.mp hp with rfl | hp
        · show ¬ (I + 1 : Nat) = I + 1 + 1; omega
        · exact (off p hp).2.1
    · refine ⟨h₁, tk0, 0, [], _, { cls := .type "range_iterator", data := .fields #[rawInt 0, rawInt ((n : Nat) : Int), rawInt 1] }, oC, { cls := .type "dict", data := .dict #[] }, rfl, Nat.zero_le _, rfl, rfl, fun j kv e => by simp at e, ?_, hC, ⟨#[], 0, ⟨rfl, rfl, rfl⟩, rfl, ?_, .nil, .nil⟩, F4, fun p hp => N4 p ?_⟩
      · have z := (N4 _ (.tail _ (.head _))).1
        show h₁.get? I = some _
        rw [z]; simp [rawInt]
      · intro e hm; simp at hm
      · rcases List.mem_cons.mp hp with rfl | hp
        · exact .tail _ (.head _)
        rcases List.mem_cons.mp hp with rfl | hp
        · exact .head _
        rcases List.mem_cons.mp hp with rfl | hp
        · exact .tail _ (.tail _ (.head _))
        · exact .tail _ (.tail _ (.tail _ hp))
  exact codeAny_compStart_dict (loop _) (wpAny_pyIter_rangeiter (x := 0) (left := n) (step := 1) (by show IsRangeIter h₁ I _ _ _; exact (N4 _ (.tail _ (.head _))).1) (loop _))
end
end Mine
end
section
open PySem PySem.W PyProof.Rows PySem.Calls
set_option maxRecDepth 100000
set_option maxHeartbeats 8000000
namespace Mine
/-- the numbers behind the steps, and where the tuples lie -/
structure Steps (nu : Nat → Nat) (xs : List Int) (refs : List Value) (tl : List (Addr × Obj)) : Prop where
  succ : ∀ i, i < xs.length → nu (i + 1) = nx (nu i) (xs.getD i 0)
  len : refs.length = xs.length
  at' : ∀ i v, refs[i]? = some v → ∃ T ta tb tc td te, v = .ref T ∧ (T, tupO (nu i) (xs.getD i 0) ta tb tc td te) ∈ tl
theorem Made.steps {n0 : Nat} {xs : List Int} {n' : Nat} {refs : List Value} {tups : List (Addr × Obj)} (h : Made n0 xs n' refs tups) : ∃ nu, nu 0 = n0 ∧ nu xs.length = n' ∧ Steps nu xs refs tups := by
  induction h with
  | nil => exact ⟨fun _ => n0, rfl, rfl, ⟨fun i hi => absurd hi (Nat.not_lt_zero _), rfl, fun i v e => by simp at e⟩⟩
  | @snoc xs n' refs tups T x ta tb tc td te h ih =>
    obtain ⟨nu, h0, h1, st⟩ := ih
    have e1 : ∀ i, i ≤ xs.length → (if i ≤ xs.length then nu i else nx n' x) = nu i := fun i hi => if_pos hi
    refine ⟨fun i => if i ≤ xs.length then nu i else nx n' x, by simp [h0], by simp; intro h9; omega, ⟨fun i hi => ?_, by simp [st.len], fun i v e => ?_⟩⟩
    · simp only [List.length_append, List.length_singleton] at hi
      by_cases hlt : i < xs.length
      · rw [if_pos (show i + 1 ≤ xs.length from hlt), if_pos (Nat.le_of_lt hlt), st.succ i hlt]
        simp [List.getD_eq_getElem?_getD, List.getElem?_append_left hlt]
      · obtain rfl : i = xs.length := by omega
        rw [if_neg (by omega), if_pos (Nat.le_refl _), h1]
        simp [List.getD_eq_getElem?_getD]
    · by_cases hlt : i < xs.length
      · rw [List.getElem?_append_left (by rw [st.len]; exact hlt)] at e
        obtain ⟨T', a1, a2, a3, a4, a5, e', hm⟩ := st.at' i v e
        refine ⟨T', a1, a2, a3, a4, a5, e', ?_⟩
        rw [if_pos (Nat.le_of_lt hlt)]
        have : (xs ++ [x]).getD i 0 = xs.getD i 0 := by simp [List.getD_eq_getElem?_getD, List.getElem?_append_left hlt]
        rw [this]
        exact .tail _ hm
      · rw [List.getElem?_append_right (by rw [st.len]; omega)] at e
        have : i - refs.length = 0 := by
          have := (List.getElem?_eq_some_iff.mp e).1
          simp at this; omega
        have hi : i = xs.length := by rw [st.len] at this; omega
        rw [this] at e
        simp at e
        refine ⟨T, ta, tb, tc, td, te, e.symm, ?_⟩
        rw [hi, if_pos (Nat.le_refl _), h1]
        have : (xs ++ [x]).getD xs.length 0 = x := by simp [List.getD_eq_getElem?_getD]
        rw [this]
        exact .head _
theorem Steps.bound {nu : Nat → Nat} {xs : List Int} {refs : List Value} {tl : List (Addr × Obj)} (st : Steps nu xs refs tl) (h0 : nu 0 < 1000000) (hl : xs.length ≤ 5) : ∀ i, i ≤ xs.length → nu i < 1000000 + i * 16777216
  | 0, _ => by simpa using h0
  | i + 1, hi => by
    have := st.bound h0 hl i (by omega)
    rw [st.succ i (by omega)]
    have := @nx_lt (nu i) (xs.getD i 0)
    omega
theorem five_of {α : Type} {l : List α} (h : l.length = 5) : ∃ a b c d e, l = [a, b, c, d, e] := by
  match l, h with
  | [a, b, c, d, e], _ => exact ⟨a, b, c, d, e, rfl⟩
theorem news_cons {h₀ h : Heap} {L : Addr} {p : Addr × Obj} {l : List (Addr × Obj)} (N : News h₀ L h l) (hm : p ∈ l) : News h₀ L h (p :: l) := fun q hq => by
  rcases List.mem_cons.mp hq with rfl | hq
  · exact N _ hm
  · exact N _ hq
abbrev tupN (n n' : Nat) (x : Int) (ta tb tc td te : Tok) : Obj := { cls := .type "tuple", data := .seq #[.int ((n : Nat) : Int) ta, .int ((n' : Nat) : Int) tb, .int ((bs x : Nat) : Int) tc, .int ((pl x : Nat) : Int) td, .int ((fg x : Nat) : Int) te] }
theorem Steps.tup {nu : Nat → Nat} {xs : List Int} {refs : List Value} {tl : List (Addr × Obj)} (st : Steps nu xs refs tl) (i : Nat) (v : Value) (h : refs[i]? = some v) : ∃ T ta tb tc td te, v = .ref T ∧ (T, tupN (nu i) (nu (i + 1)) (xs.getD i 0) ta tb tc td te) ∈ tl := by
  obtain ⟨T, ta, tb, tc, td, te, e, hm⟩ := st.at' i v h
  have hi : i < xs.length := by rw [← st.len]; exact (List.getElem?_eq_some_iff.mp h).1
  exact ⟨T, ta, tb, tc, td, te, e, by rw [st.succ i hi]; exact hm⟩
theorem ints_at {f : Nat → Nat} {ys : List Value} {n : Nat} (hl : ys.length = n) (h : ∀ j (y : Value), ys[j]? = some y → ∃ t, y = Value.int ((f j : Nat) : Int) t) : IntsAre ys ((List.range n).map fun j => ((f j : Nat) : Int)) := by
  induction n generalizing f ys with
  | zero =>
    obtain rfl := List.eq_nil_of_length_eq_zero hl
    exact .nil
  | succ n ih =>
    match ys, hl with
    | y :: r, hl =>
      obtain ⟨t, rfl⟩ := h 0 y rfl
      rw [List.range_succ_eq_map, List.map_cons, List.map_map]
      exact .cons _ t (ih (f := fun j => f (j + 1)) (by simpa using hl) fun j z e => h (j + 1) z (by simpa using e))
theorem ints5_of {f : Nat → Nat} {ys : List Value} (hl : ys.length = 5) (h : ∀ j (y : Value), ys[j]? = some y → ∃ t, y = Value.int ((f j : Nat) : Int) t) : ∃ t0 t1 t2 t3 t4, ys = [.int (f 0 : Nat) t0, .int (f 1 : Nat) t1, .int (f 2 : Nat) t2, .int (f 3 : Nat) t3, .int (f 4 : Nat) t4] := by
  obtain ⟨a, b, c, d, e, rfl⟩ := five_of hl
  obtain ⟨t0, rfl⟩ := h 0 _ rfl
  obtain ⟨t1, rfl⟩ := h 1 _ rfl
  obtain ⟨t2, rfl⟩ := h 2 _ rfl
  obtain ⟨t3, rfl⟩ := h 3 _ rfl
  obtain ⟨t4, rfl⟩ := h 4 _ rfl
  exact ⟨t0, t1, t2, t3, t4, rfl⟩
theorem ints4_of {f : Nat → Nat} {ys : List Value} (hl : ys.length = 4) (h : ∀ j (y : Value), ys[j]? = some y → ∃ t, y = Value.int ((f j : Nat) : Int) t) : ∃ t0 t1 t2 t3, ys = [.int (f 0 : Nat) t0, .int (f 1 : Nat) t1, .int (f 2 : Nat) t2, .int (f 3 : Nat) t3] := by
  obtain ⟨a, ys1, rfl, hl1⟩ := cons_of hl
  obtain ⟨b, ys2, rfl, hl2⟩ := cons_of hl1
  obtain ⟨c, ys3, rfl, hl3⟩ := cons_of hl2
  obtain ⟨d, ys4, rfl, hl4⟩ := cons_of hl3
  obtain rfl := List.eq_nil_of_length_eq_zero hl4
  obtain ⟨t0, rfl⟩ := h 0 _ rfl
  obtain ⟨t1, rfl⟩ := h 1 _ rfl
  obtain ⟨t2, rfl⟩ := h 2 _ rfl
  obtain ⟨t3, rfl⟩ := h 3 _ rfl
  exact ⟨t0, t1, t2, t3, rfl⟩
/-- the five octets of a number, the highest first -/
abbrev rowO (n : Nat) (t0 t1 t2 t3 t4 : Tok) (c : Nat) : Obj := W.listOf #[.int ((64 + n / 64 ^ 4 % 64 : Nat) : Int) t0, .int ((64 + n / 64 ^ 3 % 64 : Nat) : Int) t1, .int ((64 + n / 64 ^ 2 % 64 : Nat) : Int) t2, .int ((64 + n / 64 ^ 1 % 64 : Nat) : Int) t3, .int ((n % 64 : Nat) : Int) t4] c
def OctInv (nu : Nat → Nat) (base : List (Addr × Obj)) (i : Nat) (ys : List Value) (nw : List (Addr × Obj)) : Prop :=
  ys.length = i ∧ (∀ p ∈ base, p ∈ nw) ∧ ∀ j (y : Value), ys[j]? = some y → ∃ R t0 t1 t2 t3 t4 c, y = .ref R ∧ (R, rowO (nu j) t0 t1 t2 t3 t4 c) ∈ nw
theorem OctInv.zero {nu : Nat → Nat} {base : List (Addr × Obj)} : OctInv nu base 0 [] base := ⟨rfl, fun _ h => h, fun j y e => by simp at e⟩
theorem OctInv.succ {nu : Nat → Nat} {base nw nw' : List (Addr × Obj)} {i : Nat} {ys : List Value} {R : Addr} {t0 t1 t2 t3 t4 : Tok} {c : Nat} (h : OctInv nu base i ys nw) (hn : nw' = (R, rowO (nu i) t0 t1 t2 t3 t4 c) :: nw) : OctInv nu base (i + 1) (ys ++ [.ref R]) nw' := by
  subst hn
  obtain ⟨hl, hb, hr⟩ := h
  refine ⟨by simp [hl], fun p hp => .tail _ (hb p hp), fun j y e => ?_⟩
  rcases Nat.lt_trichotomy j ys.length with h1 | h1 | h1
  · rw [List.getElem?_append_left h1] at e
    obtain ⟨R', a0, a1, a2, a3, a4, c', e', hm⟩ := hr j y e
    exact ⟨R', a0, a1, a2, a3, a4, c', e', .tail _ hm⟩
  · rw [h1, List.getElem?_append_right (Nat.le_refl _)] at e
    simp at e
    exact ⟨R, t0, t1, t2, t3, t4, c, e.symm, by rw [h1, hl]; exact .head _⟩
  · rw [List.getElem?_eq_none (by simp; omega)] at e; cases e
theorem six_at {f : Nat → Nat} {t0 t1 t2 t3 t4 t5 : Tok} {i : Nat} {v : Value} (h : #[Value.int (f 0 : Nat) t0, .int (f 1 : Nat) t1, .int (f 2 : Nat) t2, .int (f 3 : Nat) t3, .int (f 4 : Nat) t4, .int (f 5 : Nat) t5][i]? = some v) : ∃ t, v = .int ((f i : Nat) : Int) t := by
  match i, h with
  | 0, h => simp at h; exact ⟨_, h.symm⟩
  | 1, h => simp at h; exact ⟨_, h.symm⟩
  | 2, h => simp at h; exact ⟨_, h.symm⟩
  | 3, h => simp at h; exact ⟨_, h.symm⟩
  | 4, h => simp at h; exact ⟨_, h.symm⟩
  | 5, h => simp at h; exact ⟨_, h.symm⟩
  | n + 6, h => simp at h
theorem octet_eq (n p : Nat) : 64 + ((n : Int).fdiv (64 ^ ((p : Nat) : Int).toNat)).fmod 64 = ((64 + n / 64 ^ p % 64 : Nat) : Int) := by
  rw [Int.toNat_natCast, show (64 : Int) ^ p = ((64 ^ p : Nat) : Int) by simp, fdiv_nat, show (64 : Int) = ((64 : Nat) : Int) from rfl, fmod_nat]
  simp
theorem place_at {t0 t1 t2 t3 : Tok} {j : Nat} {v : Value} (h : #[Value.int 4 t0, .int 3 t1, .int 2 t2, .int 1 t3][j]? = some v) : ∃ (p : Nat) (t : Tok), v = .int ((p : Nat) : Int) t ∧ p = 4 - j ∧ 1 ≤ p ∧ p ≤ 4 := by
  match j, h with
  | 0, h => simp at h; exact ⟨4, t0, h.symm, rfl, by decide, by decide⟩
  | 1, h => simp at h; exact ⟨3, t1, h.symm, rfl, by decide, by decide⟩
  | 2, h => simp at h; exact ⟨2, t2, h.symm, rfl, by decide, by decide⟩
  | 3, h => simp at h; exact ⟨1, t3, h.symm, rfl, by decide, by decide⟩
  | n + 4, h => simp at h
theorem pow_ne (p : Nat) : (64 : Int) ^ ((p : Nat) : Int).toNat ≠ 0 := by rw [Int.toNat_natCast]; exact Int.pow_ne_zero (by decide)
theorem pow_small {p : Nat} (h : p ≤ 4) : ((64 : Int) ^ ((p : Nat) : Int).toNat).natAbs < 1073741824 := by
  rw [Int.toNat_natCast]
  rcases (show p = 0 ∨ p = 1 ∨ p = 2 ∨ p = 3 ∨ p = 4 by omega) with h | h | h | h | h <;> subst h <;> decide
theorem int_is {a b : Int} {t : Tok} (e : a = b) : ∃ t', Value.int a t = Value.int b t' := ⟨t, by rw [e]⟩
theorem KEnd.row {h₀ h' : Heap} {L I C K D R : Addr} {m : Str → Option Value} {s₁ : Shared} {oI oC oK oD o : Obj} {S : List (Addr × Obj) → Prop} {Rr : Value → List (Addr × Obj) → Prop} {tk : Nat} {all nw : List (Addr × Obj)}
    (F : Fr h₀ L h' m) (N : News h₀ L h' all) (hR : (R, o) ∈ all) (sub : ∀ p ∈ four I oI C oC K oK D oD nw, p ∈ all) (off : Off4 I C K D nw) (n1 : I < R) (n2 : C < R) (n3 : K < R) (n4 : D < R) (hS : S ((R, o) :: nw)) (hr : Rr (.ref R) ((R, o) :: nw)) :
    KEnd h₀ L m s₁ I oI C oC K oK D oD S Rr (.ref R) { s₁ with heap := h', toks := tk } := by
  refine ⟨h', tk, (R, o) :: nw, rfl, F, fun p hp => N p ?_, fun p hp => ?_, hS, hr⟩
  · rcases List.mem_cons.mp hp with rfl | hp
    · exact sub _ (.head _)
    rcases List.mem_cons.mp hp with rfl | hp
    · exact sub _ (.tail _ (.head _))
    rcases List.mem_cons.mp hp with rfl | hp
    · exact sub _ (.tail _ (.tail _ (.head _)))
    rcases List.mem_cons.mp hp with rfl | hp
    · exact sub _ (.tail _ (.tail _ (.tail _ (.head _))))
    rcases List.mem_cons.mp hp with rfl | hp
    · exact hR
    · exact sub _ (.tail _ (.tail _ (.tail _ (.tail _ hp))))
  · rcases List.mem_cons.mp hp with rfl | hp
    · exact ⟨Nat.ne_of_gt n1, Nat.ne_of_gt n2, Nat.ne_of_gt n3, Nat.ne_of_gt n4⟩
    · exact off p hp
theorem oc_0 (n : Nat) : oc n 0 = 64 + n / 64 ^ 4 % 64 := rfl
theorem oc_1 (n : Nat) : oc n 1 = 64 + n / 64 ^ 3 % 64 := rfl
theorem oc_2 (n : Nat) : oc n 2 = 64 + n / 64 ^ 2 % 64 := rfl
theorem oc_3 (n : Nat) : oc n 3 = 64 + n / 64 ^ 1 % 64 := rfl
theorem oc_4 (n : Nat) : oc n 4 = n % 64 := by show 0 + n / 64 ^ 0 % 64 = _; rw [Nat.pow_zero, Nat.div_one, Nat.zero_add]
theorem bytes_oc {n : Nat} {c0 c1 c2 c3 c4 : UInt8} (h0 : ((c0.toNat : Nat) : Int) = ((64 + n / 64 ^ 4 % 64 : Nat) : Int)) (h1 : ((c1.toNat : Nat) : Int) = ((64 + n / 64 ^ 3 % 64 : Nat) : Int)) (h2 : ((c2.toNat : Nat) : Int) = ((64 + n / 64 ^ 2 % 64 : Nat) : Int)) (h3 : ((c3.toNat : Nat) : Int) = ((64 + n / 64 ^ 1 % 64 : Nat) : Int)) (h4 : ((c4.toNat : Nat) : Int) = ((n % 64 : Nat) : Int)) :
    ∀ i, i < 5 → ∃ c, #[c0, c1, c2, c3, c4][i]? = some c ∧ c.toNat = oc n i := by
  intro i hi
  rcases (show i = 0 ∨ i = 1 ∨ i = 2 ∨ i = 3 ∨ i = 4 by omega) with rfl | rfl | rfl | rfl | rfl
  · exact ⟨_, rfl, by rw [oc_0]; exact Int.ofNat.inj h0⟩
  · exact ⟨_, rfl, by rw [oc_1]; exact Int.ofNat.inj h1⟩
  · exact ⟨_, rfl, by rw [oc_2]; exact Int.ofNat.inj h2⟩
  · exact ⟨_, rfl, by rw [oc_3]; exact Int.ofNat.inj h3⟩
  · exact ⟨_, rfl, by rw [oc_4]; exact Int.ofNat.inj h4⟩
theorem ints6_of {f : Nat → Nat} {ys : List Value} (hl : ys.length = 6) (h : ∀ j (y : Value), ys[j]? = some y → ∃ t, y = Value.int ((f j : Nat) : Int) t) : ∃ t0 t1 t2 t3 t4 t5, ys = [.int (f 0 : Nat) t0, .int (f 1 : Nat) t1, .int (f 2 : Nat) t2, .int (f 3 : Nat) t3, .int (f 4 : Nat) t4, .int (f 5 : Nat) t5] := by
  obtain ⟨a, ys1, rfl, hl1⟩ := cons_of hl
  obtain ⟨b, ys2, rfl, hl2⟩ := cons_of hl1
  obtain ⟨c, ys3, rfl, hl3⟩ := cons_of hl2
  obtain ⟨d, ys4, rfl, hl4⟩ := cons_of hl3
  obtain ⟨e, ys5, rfl, hl5⟩ := cons_of hl4
  obtain ⟨g, ys6, rfl, hl6⟩ := cons_of hl5
  obtain rfl := List.eq_nil_of_length_eq_zero hl6
  obtain ⟨t0, rfl⟩ := h 0 _ rfl
  obtain ⟨t1, rfl⟩ := h 1 _ rfl
  obtain ⟨t2, rfl⟩ := h 2 _ rfl
  obtain ⟨t3, rfl⟩ := h 3 _ rfl
  obtain ⟨t4, rfl⟩ := h 4 _ rfl
  obtain ⟨t5, rfl⟩ := h 5 _ rfl
  exact ⟨t0, t1, t2, t3, t4, t5, rfl⟩
section
variable {prog : Program} {w : World} {A : Around} {E : Value → Shared → Prop} {s : Shared} {h₀ : Heap} {L l : Addr} {m : Str → Option Value} {news : List (Addr × Obj)} {v : Value} {x : Int} {u : Tok} {c z : Nat} {Q : Value → Shared → Prop}
theorem mul_one (F : Fr h₀ L s.heap m) (N : News h₀ L s.heap ((l, W.listOf #[v] c) :: news)) (hx : x = ((z : Nat) : Int)) (hz : z ≤ 1)
    (h : ∀ D h', Fr h₀ L h' m → News h₀ L h' ((D, W.listOf (List.replicate z v).toArray 0) :: (l, W.listOf #[v] c) :: news) → (∀ p ∈ (l, W.listOf #[v] c) :: news, p.1 < D) → Q (.ref D) { s with heap := h' }) :
    wpAny (model prog w) A (binaryOp .Mult (.ref l) (.int x u)) Q E s := by
  subst hx
  refine KMa.mul (vs := [v]) (ws := List.replicate z v) F N ⟨_, (N _ (.head _)).1, rfl, _, rfl⟩ (by omega) (by omega) (by simp; omega) ?_ h
  rw [Int.toNat_natCast]
  rcases (show z = 0 ∨ z = 1 by omega) with rfl | rfl <;> rfl
end
theorem len_ent {prog : Program} {w : World} {A : Around} {E : Value → Shared → Prop} {s : Shared} {h₀ : Heap} {L l : Addr} {all : List (Addr × Obj)} {its : Array Value} {k n : Nat} {Q : Value → Shared → Prop} (N : News h₀ L s.heap all) (hm : (l, W.listOf its k) ∈ all) (hn : its.size = n) (hf : n ≤ 1000)
    (h : Q (.int ((n : Nat) : Int) (s.toks + 1)) { s with toks := s.toks + 1 + 1 }) : wpAny (model prog w) A (call (.builtin "len") [.ref l]) Q E s := by
  subst hn
  exact len_list ⟨_, (N _ hm).1, rfl, _, rfl⟩ (by omega) h
theorem par_eq (n : Nat) : 1 - ((n : Nat) : Int).fmod 2 = ((1 - n % 2 : Nat) : Int) := by
  rw [show (2 : Int) = ((2 : Nat) : Int) from rfl, fmod_nat]
  omega
theorem off_cell {h₀ h : Heap} {L c : Addr} {o : Obj} {v : Option Value} {p : Addr × Obj} {all : List (Addr × Obj)} (N : News h₀ L h all) (hc : (c, o) ∈ all) (hd : o.data = .cell v) (hp : p ∈ all) (hn : ∀ v, p.2.data ≠ .cell v) : p.1 ≠ c := by
  intro e
  have a := (N p hp).1
  have b := (N _ hc).1
  rw [e] at a
  have : p.2 = o := Option.some.inj (a.symm.trans b)
  exact hn v (this ▸ hd)
theorem off_list {h₀ h : Heap} {L c a : Addr} {o : Obj} {v : Option Value} {its : Array Value} {k : Nat} {all : List (Addr × Obj)} (N : News h₀ L h all) (hc : (c, o) ∈ all) (hd : o.data = .cell v) (hp : (a, W.listOf its k) ∈ all) : (a, W.listOf its k) ∈ all ∧ a ≠ c :=
  ⟨hp, off_cell N hc hd hp (fun v h => by cases h)⟩
theorem hr7 {h₀ h : Heap} {L a1 a2 a3 a4 a5 cw ce : Addr} {i1 i2 i3 i4 i5 : Array Value} {k1 k2 k3 k4 k5 : Nat} {ow oe : Obj} {v : Option Value} {tl : List (Addr × Obj)} (N : News h₀ L h ((a1, W.listOf i1 k1) :: (a2, W.listOf i2 k2) :: (a3, W.listOf i3 k3) :: (a4, W.listOf i4 k4) :: (a5, W.listOf i5 k5) :: (cw, ow) :: (ce, oe) :: tl)) (hd : oe.data = .cell v) (hne : cw ≠ ce) (htl : ∀ p ∈ tl, p.1 ≠ cw ∧ p.1 ≠ ce) :
    ∀ p ∈ (a1, W.listOf i1 k1) :: (a2, W.listOf i2 k2) :: (a3, W.listOf i3 k3) :: (a4, W.listOf i4 k4) :: (a5, W.listOf i5 k5) :: (cw, ow) :: tl, p ∈ (a1, W.listOf i1 k1) :: (a2, W.listOf i2 k2) :: (a3, W.listOf i3 k3) :: (a4, W.listOf i4 k4) :: (a5, W.listOf i5 k5) :: (cw, ow) :: (ce, oe) :: tl ∧ p.1 ≠ ce :=
  List.forall_mem_cons.mpr ⟨off_list N (.tail _ (.tail _ (.tail _ (.tail _ (.tail _ (.tail _ (.head _))))))) hd (.head _), List.forall_mem_cons.mpr ⟨off_list N (.tail _ (.tail _ (.tail _ (.tail _ (.tail _ (.tail _ (.head _))))))) hd (.tail _ (.head _)), List.forall_mem_cons.mpr ⟨off_list N (.tail _ (.tail _ (.tail _ (.tail _ (.tail _ (.tail _ (.head _))))))) hd (.tail _ (.tail _ (.head _))), List.forall_mem_cons.mpr ⟨off_list N (.tail _ (.tail _ (.tail _ (.tail _ (.tail _ (.tail _ (.head _))))))) hd (.tail _ (.tail _ (.tail _ (.head _)))), List.forall_mem_cons.mpr ⟨off_list N (.tail _ (.tail _ (.tail _ (.tail _ (.tail _ (.tail _ (.head _))))))) hd (.tail _ (.tail _ (.tail _ (.tail _ (.head _))))), List.forall_mem_cons.mpr ⟨⟨(.tail _ (.tail _ (.tail _ (.tail _ (.tail _ (.head _)))))), hne⟩, fun p hp => ⟨.tail _ (.tail _ (.tail _ (.tail _ (.tail _ (.tail _ (.tail _ hp)))))), (htl p hp).2⟩⟩⟩⟩⟩⟩⟩
/-- a ledger without two cells -/
def less (c d : Addr) (l : List (Addr × Obj)) : List (Addr × Obj) := l.filter fun p => decide (p.1 ≠ c) && decide (p.1 ≠ d)
theorem less_mem {c d : Addr} {l : List (Addr × Obj)} {p : Addr × Obj} (h : p ∈ l) (h1 : p.1 ≠ c) (h2 : p.1 ≠ d) : p ∈ less c d l := List.mem_filter.mpr ⟨h, by simp [h1, h2]⟩
theorem less_sub {c d : Addr} {l : List (Addr × Obj)} {p : Addr × Obj} (h : p ∈ less c d l) : p ∈ l := (List.mem_filter.mp h).1
theorem less_ne {c d : Addr} {l : List (Addr × Obj)} {p : Addr × Obj} (h : p ∈ less c d l) : p.1 ≠ c ∧ p.1 ≠ d := by simpa using (List.mem_filter.mp h).2
section
variable {M : Model} {A : Around} {E : Value → Shared → Prop} {s : Shared} {h₀ : Heap} {L a : Addr} {m : Str → Option Value} {cn : Str} {cs : Scope} {ccd : Value} {cl : List (Str × Addr)}
  {x : Str} {v : Value} {Q : Unit → Shared → Prop} {all : List (Addr × Obj)} {c : Addr} {o : Obj} {v₀ : Option Value}
theorem store_cell (rest : List (Addr × Obj)) (F : Fr h₀ L s.heap m) (N : News h₀ L s.heap all) (hc : cl.lookup x = some c) (hm : (c, o) ∈ all) (hd : o.data = .cell v₀) (hr : ∀ p ∈ rest, p ∈ all ∧ p.1 ≠ c)
    (h : ∀ h' o', Fr h₀ L h' m → News h₀ L h' ((c, o') :: rest) → o'.data = .cell (some v) → Q () { s with heap := h' })
    (hk : cs.kind = .function := by rfl) (hx : (envX cn cs L a ccd cl).kindOf x = some .cell := by rfl) : wpAny M A (storeName (envX cn cs L a ccd cl) x v) Q E s := by
  refine wpAny_storeName_cell hk hx hc ⟨o, (N _ hm).1, hd⟩ fun h' hv hs => ?_
  obtain ⟨o', ho', hd'⟩ := hv
  obtain ⟨F', N'⟩ := led_set F N hm hr hs ho'
  exact h h' o' F' N' hd'
end
theorem five_fits : (5 : Nat) ≤ sizeLine := by rw [sizeLine_eq]; decide
theorem six_fits : (6 : Nat) ≤ sizeLine := by rw [sizeLine_eq]; decide
theorem four_fits : (4 : Nat) ≤ sizeLine := by rw [sizeLine_eq]; decide
end Mine
end
section
open PySem PySem.W PyProof.Rows PySem.Calls
set_option maxRecDepth 100000
set_option maxHeartbeats 8000000
namespace Mine
theorem slot_fnext : Slot "filter" "__next__" "filter.__next__" :=
  .of (owner := "filter") (n := "__next__") (by rw [typeLookup_type, builtinLookup_eq_fast]; kernel_rfl) (by decide +kernel) (by decide +kernel) (by decide +kernel)
    (by first | exact .inl (by decide +kernel) | exact .inr (by decide +kernel)) (by rw [isSubtype_type]; kernel_rfl)
theorem slot_fiter : Slot "filter" "__iter__" "filter.__iter__" :=
  .of (owner := "filter") (n := "__iter__") (by rw [typeLookup_type, builtinLookup_eq_fast]; kernel_rfl) (by decide +kernel) (by decide +kernel) (by decide +kernel)
    (by first | exact .inl (by decide +kernel) | exact .inr (by decide +kernel)) (by rw [isSubtype_type]; kernel_rfl)
theorem slot_finit : Slot "filter" "__init__" "object.__init__" :=
  .of (owner := "object") (n := "__init__") (by rw [typeLookup_type, builtinLookup_eq_fast]; kernel_rfl) (by decide +kernel) (by decide +kernel) (by decide +kernel)
    (by first | exact .inl (by decide +kernel) | exact .inr (by decide +kernel)) (by rw [isSubtype_type]; kernel_rfl)
theorem ent_fnext : entryFor table "filter.__next__" = some Builtin.«filter.__next__» := entryFor_of_tree (by kernel_rfl)
theorem ent_fnew : entryFor table "filter.__new__" = some Builtin.«filter.__new__» := entryFor_of_tree (by kernel_rfl)
theorem ent_fiter : entryFor table "filter.__iter__" = some Builtin.«dict_keyiterator.__iter__» :=
  entryFor_alias (id' := "dict_keyiterator.__iter__") (by kernel_rfl) (by first | rfl | decide +kernel | (unfold String.splitOn; simp +decide [String.splitOnAux])) (by decide +kernel) (by kernel_rfl)
theorem args_fnext (a : Value) : argsOk "filter.__next__" ⟨[a], []⟩ := by unfold argsOk; kernel_rfl
theorem args_fiter (a : Value) : argsOk "filter.__iter__" ⟨[a], []⟩ := by unfold argsOk; kernel_rfl
theorem plain_fnext : plainId "filter.__next__" = true := by decide +kernel
theorem mro_f : mroOf (.type "filter") = pure [.type "filter", .type "object"] := by rw [mroOf_type]; kernel_rfl
theorem look_fnew : typeLookup (.type "filter") "__new__" = pure (some (.builtin "filter.__new__")) := by rw [typeLookup_type, builtinLookup_eq_fast]; kernel_rfl
theorem called_f : TypeCalled "filter" "filter.__new__" "object.__init__" :=
  ⟨by decide +kernel, by decide +kernel, ⟨_, _, mro_f⟩, madeBy_type mro_f look_fnew (by decide +kernel), by decide +kernel, by rw [isSubtype_type]; kernel_rfl, slot_finit⟩
theorem tcall_f (a b : Value) : checkTypeCall "filter" ⟨[a, b], []⟩ = pure () := by kernel_rfl
theorem ncall_f (a b : Value) : checkBuiltinCall "filter.__new__" ⟨[.type "filter", a, b], []⟩ = pure () := by kernel_rfl
theorem args_finit (o a b : Value) : argsOk "object.__init__" ⟨[o, a, b], []⟩ := by unfold argsOk; kernel_rfl
end Mine
end
section
open PySem PySem.W PyProof.Rows PySem.Calls
set_option maxRecDepth 100000
set_option maxHeartbeats 8000000
namespace Mine
section
variable {prog : Program} {w : World} {K : Type} [DecidableEq K] {knd : PySem.KeyKind prog w K} {A : Around} {E : Value → Shared → Prop} {s : Shared}
/-- the next value of a dict's walk, as the iterator's own `__next__` gives it -/
theorem vnext_item {it d : Addr} {i ep : Nat} {kvs : List (K × Value)} {k : K} {v : Value} {Q : Option Value → Shared → Prop} (hit : s.heap.IsValIter it d i kvs.length ep)
    (hm : s.heap.DictAt knd d kvs ep) (hx : kvs[i]? = some (k, v))
    (hQ : ∀ h', h'.IsValIter it d (i + 1) kvs.length ep → Heap.SameBut it s.heap h' → Q (some v) { s with heap := h' }) :
    wpAny (model prog w) A (callSpecial? (.ref it) (Str.ofString "__next__")) Q E s := by
  have hlt : i < kvs.length := (List.getElem?_eq_some_iff.mp hx).1
  obtain ⟨o, ho, hc, hd⟩ := id hit
  obtain ⟨od, es, hod, hcd, hdd, hk, hp, hn⟩ := id hm
  have hsz : es.size = kvs.length := by rw [← hp.length]; simp
  have hlt' : i < es.size := by rw [hsz]; exact hlt
  have hval : es[i].val = v := (hp.get? (e := es[i]) (by simp [hlt']) hx).2
  refine wpAny_callSpecial?_slot hit.typeIs F.slot_dict_valueiterator_next (wpAny_call_entry F.slot_dict_valueiterator_next hit.typeIs F.entry_dict_valueiterator_next ?_ (F.args_dict_valueiterator_next_1 _))
  refine wpAny_bind (wpAny_pure (wpAny_bind (wpAny_bind (wpAny_bind (wpAny_typeNameOfWhole_valiter hit.typeIs (wpAny_pure (wpAny_bind (wpAny_fieldsOf ho hd ?_))))))))
  have hown : Builtin.Dict_items.ownsTuple "dict_valueiterator" = false := by decide
  simp only [hown, Bool.false_eq_true, if_false]
  show wpAny _ _ (if (Value.ref d == Value.none) = true then _ else _) _ _ s
  rw [if_neg (show ¬ ((Value.ref d == Value.none) = true) from Bool.false_ne_true)]
  refine wpAny_bind (wpAny_pure (wpAny_bind (wpAny_dictEntries hod hdd ?_)))
  rw [if_neg (by rw [hsz]; simp)]
  refine wpAny_bind (wpAny_pure (wpAny_bind (wpAny_dictEpoch hod hdd ?_)))
  rw [if_neg (by simp)]
  refine wpAny_pure ?_
  simp only [show ¬ ((i : Int) < 0) from by omega, if_false, Int.toNat_natCast, Array.getElem?_eq_getElem hlt']
  refine wpAny_bind (wpAny_bind (wpAny_typeNameOfWhole_valiter hit.typeIs (wpAny_pure (wpAny_bind (wpAny_isOneOf_valiter hit.typeIs ?_)))))
  show wpAny _ _ (setField (.ref it) 1 (rawInt ((i : Int) + 1)) >>= _) _ _ s
  refine wpAny_bind (wpAny_setField ho hd (by simp) ?_)
  have hit' : (s.heap.update it (Obj.mapFields (·.setIfInBounds 1 (rawInt ((i : Int) + 1))))).IsValIter it d (i + 1) kvs.length ep :=
    ⟨_, Heap.get?_update_self _ ho (Obj.isFreed_of_fields (Obj.data_mapFields hd _)), (Obj.cls_mapFields ..).trans hc, by rw [Obj.data_mapFields hd]; simp [rawInt]⟩
  refine wpAny_bind (wpAny_holding ?_)
  have hT' : Shared.TypeIs { s with heap := s.heap.update it (Obj.mapFields (·.setIfInBounds 1 (rawInt ((i : Int) + 1)))) } (.ref it) "dict_valueiterator" := hit'.typeIs
  refine wpAny_bind (wpAny_isOneOf_valiter hT' (wpAny_bind (wpAny_isOneOf_valiter hT' ?_)))
  show wpAny _ _ (pure es[i].val) _ _ _
  exact wpAny_pure (wpAny_pure ⟨_, rfl, hval ▸ hQ _ hit' (Heap.SameBut.update ..)⟩)
/-- behind the last value it raises -/
theorem vnext_end {it d : Addr} {i ep : Nat} {kvs : List (K × Value)} {Q : Option Value → Shared → Prop} (hh : A.handled = none) (hit : s.heap.IsValIter it d i kvs.length ep)
    (hm : s.heap.DictAt knd d kvs ep) (hx : kvs.length ≤ i)
    (hE : ∀ h' e, Heap.ExtBut it s.heap h' → (∃ o, h'.get? e = some o ∧ o.cls = .type "StopIteration") → E (.ref e) { s with heap := h' }) :
    wpAny (model prog w) A (callSpecial? (.ref it) (Str.ofString "__next__")) Q E s := by
  obtain ⟨o, ho, hc, hd⟩ := id hit
  obtain ⟨od, es, hod, hcd, hdd, hk, hp, hn⟩ := id hm
  have hsz : es.size = kvs.length := by rw [← hp.length]; simp
  have hge : es.size ≤ i := by rw [hsz]; exact hx
  refine wpAny_callSpecial?_slot hit.typeIs F.slot_dict_valueiterator_next (wpAny_call_entry F.slot_dict_valueiterator_next hit.typeIs F.entry_dict_valueiterator_next ?_ (F.args_dict_valueiterator_next_1 _))
  refine wpAny_bind (wpAny_pure (wpAny_bind (wpAny_bind (wpAny_bind (wpAny_typeNameOfWhole_valiter hit.typeIs (wpAny_pure (wpAny_bind (wpAny_fieldsOf ho hd ?_))))))))
  have hown : Builtin.Dict_items.ownsTuple "dict_valueiterator" = false := by decide
  simp only [hown, Bool.false_eq_true, if_false]
  show wpAny _ _ (if (Value.ref d == Value.none) = true then _ else _) _ _ s
  rw [if_neg (show ¬ ((Value.ref d == Value.none) = true) from Bool.false_ne_true)]
  refine wpAny_bind (wpAny_pure (wpAny_bind (wpAny_dictEntries hod hdd ?_)))
  rw [if_neg (by rw [hsz]; simp)]
  refine wpAny_bind (wpAny_pure (wpAny_bind (wpAny_dictEpoch hod hdd ?_)))
  rw [if_neg (by simp)]
  refine wpAny_pure ?_
  simp only [show ¬ ((i : Int) < 0) from by omega, if_false, Int.toNat_natCast, Array.getElem?_eq_none hge]
  refine wpAny_bind (wpAny_bind (wpAny_typeNameOfWhole_valiter hit.typeIs (wpAny_pure ?_)))
  show wpAny _ _ (setField (.ref it) 0 .none >>= _) _ _ s
  refine wpAny_bind (wpAny_setField ho hd (by simp) ?_)
  show wpAny _ _ (newExc (.type "StopIteration") [] >>= _) _ _ _
  refine wpAny_bind ?_
  simp only [newExc, newTuple]
  refine wpAny_bind (wpAny_newObj_type ?_ (by size_fits))
  refine wpAny_bind (m := firstArgMember _ _) (wpAny_of_eq (a := Value.none) (by first | rfl | (simp only [firstArgMember]; rfl)) ?_)
  refine wpAny_newObj_type ?_ (by size_fits)
  simp only [raiseNew]
  refine wpAny_bind (wpAny_handled ?_)
  rw [show A.in1.handled = none from hh]
  refine wpAny_bind (wpAny_pure (wpAny_throw ?_))
  exact hE _ _ (((Heap.SameBut.update ..).extBut.push _).push _) ⟨_, Heap.get?_push_size _ rfl, rfl⟩
end
end Mine
end
section
open PySem PySem.W PyProof.Rows PySem.Calls
set_option maxRecDepth 100000
set_option maxHeartbeats 8000000
namespace Mine
/-- is an entry kept by a filter without a function -/
def tru : Value → Bool
  | .int x _ => x != 0
  | _ => false
def OkV (v : Value) : Prop := (∃ x t, v = .int x t) ∨ v = .none
def IsFil (h : Heap) (f I : Addr) : Prop := ∃ o, h.get? f = some o ∧ o.cls = .type "filter" ∧ o.data = .fields #[.none, .ref I]
section
variable {prog : Program} {w : World} {K : Type} [DecidableEq K] {knd : PySem.KeyKind prog w K} {A : Around} {E : Value → Shared → Prop} {s : Shared}
theorem truthy_ok {v : Value} {Q : Bool → Shared → Prop} (hv : OkV v) (h : Q (tru v) s) : wpAny (model prog w) A (truthy v) Q E s := by
  rcases hv with ⟨x, t, rfl⟩ | rfl
  · exact PyProof.Rows.truthy_int h
  · exact PyProof.Rows.truthy_none h
theorem drop_filter {vs : List Value} {j : Nat} {v : Value} (h : vs[j]? = some v) : (vs.drop j).filter tru = (if tru v then [v] else []) ++ (vs.drop (j + 1)).filter tru := by
  obtain ⟨hlt, rfl⟩ := List.getElem?_eq_some_iff.mp h
  rw [List.drop_eq_getElem_cons hlt, List.filter_cons]
  split <;> rfl
theorem fnext_tree {f I d : Addr} {ep : Nat} {kvs : List (K × Value)} {R : Result → Shared → Prop} (hh : A.handled = none) (hfI : f ≠ I) (hdI : d ≠ I) (hok : ∀ kv ∈ kvs, OkV kv.2) :
    ∀ (k j : Nat) (s : Shared), kvs.length - j = k → IsFil s.heap f I → s.heap.IsValIter I d j kvs.length ep → s.heap.DictAt knd d kvs ep →
      (∀ i v h' , ((kvs.map (·.2)).drop j).filter tru = v :: ((kvs.map (·.2)).drop i).filter tru → IsFil h' f I → h'.IsValIter I d i kvs.length ep → h'.DictAt knd d kvs ep → Heap.SameBut I s.heap h' → R (.ok (.ret v)) { s with heap := h' }) →
      (((kvs.map (·.2)).drop j).filter tru = [] → ∀ h' e, Heap.ExtBut I s.heap h' → (∃ o, h'.get? e = some o ∧ o.cls = .type "StopIteration") → R (.error (.ref e)) { s with heap := h' }) →
      wpAny (model prog w) A.in1 (Builtin.«filter.__next__» ⟨[.ref f], []⟩) (fun fin s' => match fin with | .done f => R (.ok f) s' | .again c' => c'.quiet = true ∧ codeAny (model prog w) A c' R s') (fun e s' => R (.error e) s') s := by
  intro k
  induction k with
  | zero =>
    intro j s hk hf hI hd hit hend
    obtain ⟨o, ho, hc, hdat⟩ := id hf
    have hge : kvs.length ≤ j := by omega
    show wpAny _ _ (field (.ref f) 0 >>= _) _ _ s
    refine wpAny_bind (wpAny_field ho hdat (x := .none) rfl ?_)
    refine wpAny_bind (wpAny_field ho hdat (x := .ref I) rfl ?_)
    refine wpAny_bind (vnext_end (A := A.in1) hh hI hd hge fun h' e he hx => hend ?_ h' e he hx)
    rw [List.drop_eq_nil_of_le (by simpa using hge)]; rfl
  | succ k ih =>
    intro j s hk hf hI hd hit hend
    obtain ⟨o, ho, hc, hdat⟩ := id hf
    have hlt : j < kvs.length := by omega
    obtain ⟨⟨key, v⟩, hx⟩ : ∃ kv, kvs[j]? = some kv := ⟨_, List.getElem?_eq_getElem hlt⟩
    have hv : OkV v := hok _ (List.mem_of_getElem? hx)
    have hx' : (kvs.map (·.2))[j]? = some v := by rw [List.getElem?_map, hx]; rfl
    have hdf := drop_filter hx'
    show wpAny _ _ (field (.ref f) 0 >>= _) _ _ s
    refine wpAny_bind (wpAny_field ho hdat (x := .none) rfl ?_)
    refine wpAny_bind (wpAny_field ho hdat (x := .ref I) rfl ?_)
    refine wpAny_bind (vnext_item (A := A.in1) hI hd hx fun h' hI' hs' => ?_)
    have hf' : IsFil h' f I := ⟨o, hs'.extBut _ _ hfI ho, hc, hdat⟩
    have hd' : h'.DictAt knd d kvs ep := hd.extBut hs'.extBut hdI
    refine wpAny_bind (wpAny_holding ?_)
    show wpAny _ _ (rule "filter.__next__.own-truth" >>= fun _ => truthy v) _ _ _
    refine wpAny_bind (wpAny_rule (truthy_ok hv ?_))
    cases ht : tru v with
    | true =>
      simp only [if_true]
      refine wpAny_pure (hit (j + 1) v h' ?_ hf' hI' hd' hs')
      rw [hdf, ht]; rfl
    | false =>
      simp only [Bool.false_eq_true, if_false]
      rw [ht] at hdf
      simp only [Bool.false_eq_true, if_false, List.nil_append] at hdf
      refine wpAny_pure ⟨plainId_quiet plain_fnext _, codeAny_builtin ent_fnext ?_⟩
      rw [Around.under_plainId plain_fnext _]
      refine ih (j + 1) _ (by omega) hf' hI' hd' (fun i v' h'' e1 a b c sb => ?_) fun e1 h'' e he hx => ?_
      · refine hit i v' h'' (hdf.trans e1) a b c ⟨sb.1.trans hs'.1, fun q hq => (sb.2 q hq).trans (hs'.2 q hq)⟩
      · exact hend (hdf.trans e1) h'' e (fun q o' hq hg => he q o' hq (hs'.extBut q o' hq hg)) hx
theorem fnext_call {f I d : Addr} {ep j : Nat} {kvs : List (K × Value)} {Q : Option Value → Shared → Prop} (hh : A.handled = none) (hfI : f ≠ I) (hdI : d ≠ I) (hok : ∀ kv ∈ kvs, OkV kv.2)
    (hf : IsFil s.heap f I) (hI : s.heap.IsValIter I d j kvs.length ep) (hd : s.heap.DictAt knd d kvs ep)
    (hit : ∀ i v h' , ((kvs.map (·.2)).drop j).filter tru = v :: ((kvs.map (·.2)).drop i).filter tru → IsFil h' f I → h'.IsValIter I d i kvs.length ep → h'.DictAt knd d kvs ep → Heap.SameBut I s.heap h' → Q (some v) { s with heap := h' })
    (hend : ((kvs.map (·.2)).drop j).filter tru = [] → ∀ h' e, Heap.ExtBut I s.heap h' → (∃ o, h'.get? e = some o ∧ o.cls = .type "StopIteration") → E (.ref e) { s with heap := h' }) :
    wpAny (model prog w) A (callSpecial? (.ref f) (Str.ofString "__next__")) Q E s := by
  have hT : s.TypeIs (.ref f) "filter" := let ⟨o, ho, hc, _⟩ := hf; ⟨o, ho, hc⟩
  refine wpAny_callSpecial?_slot hT slot_fnext (wpAny_call (codeAny_call_builtin slot_fnext.plain ent_fnext (slot_fnext.check _ _ _ _ _ _ _ _ hT (args_fnext _) ?_)))
  exact fnext_tree (R := fun r s' => match r with | .ok (.ret v) => Q (some v) s' | .ok _ => False | .error e => E e s') hh hfI hdI hok _ j s rfl hf hI hd hit hend
theorem Walks.fil (hh : A.handled = none) (f I d : Addr) (hfI : f ≠ I) (hdI : d ≠ I) (kvs : List (K × Value)) (ep : Nat) (hok : ∀ kv ∈ kvs, OkV kv.2) :
    Walks prog w A f [f, I, d] [I] ((kvs.map (·.2)).filter tru).length (fun i v => ((kvs.map (·.2)).filter tru)[i]? = some v)
      (fun i h => ∃ j, ((kvs.map (·.2)).drop j).filter tru = ((kvs.map (·.2)).filter tru).drop i ∧ IsFil h f I ∧ h.IsValIter I d j kvs.length ep ∧ h.DictAt knd d kvs ep) where
  sub := fun b hb => by simp at hb; simp [hb]
  frame := fun _ _ _ ⟨j, e, ⟨o, ho, r⟩, hI, hd⟩ hk => ⟨j, e, ⟨o, hk f (by simp) o ho, r⟩, hI.at fun o e => hk I (by simp) o e, hd.at' fun o e => hk d (by simp) o e⟩
  item := fun i s Q E hi ⟨j, e, hf, hI, hd⟩ hQ => by
    have hne : ((kvs.map (·.2)).filter tru).drop i = ((kvs.map (·.2)).filter tru)[i] :: ((kvs.map (·.2)).filter tru).drop (i + 1) := List.drop_eq_getElem_cons hi
    unfold pyNext
    refine wpAny_bind (wpAny_attempt ?_)
    refine fnext_call hh hfI hdI hok hf hI hd (fun i' v h' e1 hf' hI' hd' sb => ?_) fun e1 => ?_
    · rw [e, hne] at e1
      obtain ⟨e2, e3⟩ := List.cons.inj e1
      refine wpAny_pure (hQ v h' s.toks ?_ ⟨i', e3.symm, hf', hI', hd'⟩ fun b o hb hg => sb.extBut b o (fun h => hb (by simp [h])) hg)
      rw [List.getElem?_eq_getElem hi, e2]
    · rw [e, hne] at e1; cases e1
  done := fun s Q E ⟨j, e, hf, hI, hd⟩ hQ => by
    unfold pyNext
    refine wpAny_bind (wpAny_attempt ?_)
    rw [List.drop_length] at e
    refine fnext_call hh hfI hdI hok hf hI hd (fun i' v h' e1 hf' hI' hd' sb => ?_) fun e1 h' x he hx => ?_
    · rw [e] at e1; cases e1
    · obtain ⟨o, ho, hc⟩ := hx
      refine wpAny_bind (wpAny_isInstance (T := "StopIteration") (b := true) ⟨o, ho, hc⟩ isSubtype_stop ?_)
      exact wpAny_pure (hQ h' s.toks fun b o hb hg => he b o (fun h => hb (by simp [h])) hg)
  self := fun i s Q E ⟨j, e, hf, hI, hd⟩ hQ => by
    have hT : s.TypeIs (.ref f) "filter" := let ⟨o, ho, hc, _⟩ := hf; ⟨o, ho, hc⟩
    refine wpAny_pyIter_slot hT slot_fiter (wpAny_call_entry slot_fiter hT ent_fiter ?_ (args_fiter _))
    show wpAny _ _ (ret (.ref f)) _ _ s
    exact wpAny_pure ⟨_, rfl, "filter", _, hT, slot_fnext.lookup, hQ⟩
end
end Mine
end
section
open PySem PySem.W PyProof.Rows PySem.Calls
set_option maxRecDepth 100000
set_option maxHeartbeats 8000000
namespace Mine
section
variable {prog : Program} {w : World} {K : Type} [DecidableEq K] {knd : PySem.KeyKind prog w K} {A : Around} {E : Value → Shared → Prop} {s : Shared}
abbrev valIt (d : Addr) (n ep : Nat) : Obj := { cls := .type "dict_valueiterator", data := .fields #[.ref d, .int 0 0, .int n 0, .int ep 0] }
abbrev filO (I : Addr) : Obj := { cls := .type "filter", data := .fields #[.none, .ref I] }
theorem fil_new (v d : Addr) (kvs : List (K × Value)) (ep : Nat) :
    MeetsIn prog w (Builtin.«filter.__new__» ⟨[.type "filter", .none, .ref v], []⟩) (fun _ R s => s.heap.IsValuesView v d ∧ s.heap.DictAt knd d kvs ep ∧
      R (.ok (.ret (.ref (s.heap.push (valIt d kvs.length ep)).objs.size))) { s with heap := (s.heap.push (valIt d kvs.length ep)).push (filO s.heap.objs.size) }) :=
  .of_wp fun A R s h => by
    obtain ⟨hp, g, dd, tk, os⟩ := s
    obtain ⟨hv, hm, h⟩ := h
    have hsub := called_f.sub
    wp_walk using wpAny_pyIter_values hv hm
    exact ⟨_, rfl, h⟩
theorem call_fil {v d : Addr} {kvs : List (K × Value)} {ep : Nat} {Q : Value → Shared → Prop} (hv : s.heap.IsValuesView v d) (hm : s.heap.DictAt knd d kvs ep)
    (h : Q (.ref (s.heap.objs.size + 1)) { s with heap := (s.heap.push (valIt d kvs.length ep)).push (filO s.heap.objs.size) }) :
    wpAny (model prog w) A (call (.type "filter") [.none, .ref v]) Q E s := by
  refine callType_newIn called_f (by decide) (tcall_f _ _) (ncall_f _ _) (fun obj => args_finit obj _ _) ent_fnew (fil_new v d kvs ep) ⟨hv, hm, ?_⟩
  have hz : (s.heap.push (valIt d kvs.length ep)).objs.size = s.heap.objs.size + 1 := Heap.size_push ..
  show _ ∧ _
  refine ⟨⟨_, Heap.get?_push_size _ rfl, rfl⟩, ?_⟩
  rw [hz]
  exact h
theorem args_maxd (a b : Value) : argsOk "max" ⟨[a], [(Str.ofString "default", b)]⟩ := by unfold argsOk; kernel_rfl
/-- the loop of max with a default, over ints -/
theorem maxd_loop {I S : Addr} {fp wr : List Addr} {R : Result → Shared → Prop} {St : Nat → Heap → Prop} {g : List Int} {kw : List (Str × Value)} {P : Nat → Value → Prop} (hP : ∀ i v, P i v → ∃ x t, g[i]? = some x ∧ v = .int x t)
    (W : Walks prog w A.in1 I fp wr g.length P St) (hSf : S ∉ fp) :
    ∀ (k j : Nat) (s : Shared) (b : Int) (t : Tok) (c : Nat), g.length - j = k → j ≤ g.length → St j s.heap → b ∈ g → (∀ x ∈ g.take j, x ≤ b) →
    s.heap.get? S = some { cls := .type "list", dict := none, data := .seq #[.int b t, .int b t] c, slots := #[] } →
    (∀ b t h' tk, b ∈ g → (∀ x ∈ g, x ≤ b) → (∀ a o, a ∉ wr → a ≠ S → s.heap.get? a = some o → h'.get? a = some o) → R (.ok (.ret (.int b t))) { s with heap := h', toks := tk }) →
    codeAny (model prog w) A (.builtin "max.loop" ⟨[.ref I, .none, .ref S], kw⟩) R s := by
  have hSw : S ∉ wr := fun h => hSf (W.sub _ h)
  have hname : (toString "max" ++ toString ".loop" : String) = "max.loop" := by decide
  intro k
  induction k with
  | zero =>
    intro j s b t c hk hj hst hb hmx hS hR
    have hin : j = g.length := by omega
    subst hin
    refine codeAny_builtin F.entry_max_loop ?_
    rw [Around.under_plainId F.plain_max_loop _]
    show wpAny _ A.in1 (seqItems? (.ref S) >>= _) _ _ s
    refine wpAny_bind (wpAny_seqItems hS rfl ?_)
    show wpAny _ A.in1 (tryCatch (pyNext (.ref I)) _ >>= _) _ _ s
    refine wpAny_bind (wpAny_tryCatch (W.done s _ _ hst fun h' tk hk' => ?_))
    have hS' := hk' S _ hSw hS
    show wpAny _ A.in1 (updateSeq S (fun _ => #[]) >>= _) _ _ _
    refine wpAny_bind (wpAny_updateSeq hS' rfl (wpAny_bind (wpAny_letGo (wpAny_pure ?_))))
    rw [List.take_length] at hmx
    exact hR b t _ tk hb hmx fun a o ha haS e => (Heap.get?_update_other _ _ (Ne.symm haS)).trans (hk' a o ha e)
  | succ k ih =>
    intro j s b t c hk hj hst hb hmx hS hR
    have hlt : j < g.length := by omega
    refine codeAny_builtin F.entry_max_loop ?_
    rw [Around.under_plainId F.plain_max_loop _]
    show wpAny _ A.in1 (seqItems? (.ref S) >>= _) _ _ s
    refine wpAny_bind (wpAny_seqItems hS rfl ?_)
    show wpAny _ A.in1 (tryCatch (pyNext (.ref I)) _ >>= _) _ _ s
    refine wpAny_bind (wpAny_tryCatch (W.item j s _ _ hlt hst fun v h' tk hPv hst' hk' => ?_))
    obtain ⟨x, u, hx, rfl⟩ := hP j v hPv
    have hxm : x ∈ g := List.mem_of_getElem? hx
    have htk : ∀ y ∈ g.take (j + 1), y ∈ g.take j ∨ y = x := by
      intro y hy
      rw [List.take_add_one, hx] at hy
      rcases List.mem_append.mp hy with h | h
      · exact .inl h
      · exact .inr (by simpa using h)
    have hS' := hk' S _ hSw hS
    show wpAny _ A.in1 (tryCatch (holding [.int x u, .int x u] (richCompare .Gt (.int x u) (.int b t) >>= _)) _ >>= _) _ _ _
    refine wpAny_bind (wpAny_tryCatch (wpAny_holding (wpAny_bind (CmpOf.ints_gt (prog := prog) (w := w) (A := A.in1) (P := fun i v => ∃ t, v = .int ((if i = 0 then x else b) : Int) t) (fun i => if i = 0 then x else b) (fun i v h => h) 0 1 _ _ _ _ _ ⟨u, rfl⟩ ⟨t, rfl⟩ ?_))))
    refine wpAny_bind (wpAny_holding (wpAny_truthy_bool ?_))
    refine wpAny_bind (wpAny_letGo (wpAny_pure ?_))
    simp only [if_true, if_neg (show ¬ (1 : Nat) = 0 by decide), gt_iff_lt]
    by_cases hb' : b < x
    · simp only [hb', decide_true, if_true]
      refine wpAny_bind (wpAny_updateSeq hS' rfl (wpAny_bind (wpAny_letGo ?_)))
      rw [hname]
      refine wpAny_pure ⟨plainId_quiet F.plain_max_loop _, ih (j + 1) _ x u _ (by omega) hlt (W.frame _ _ _ hst' fun a ha o e => ?_) hxm (fun y hy => ?_) (Heap.get?_update_self _ hS' rfl) fun b' t' h'' tk'' hb'' hm'' hk'' => ?_⟩
      · exact (Heap.get?_update_other _ _ (fun h : S = a => hSf (by rw [h]; exact ha))).trans e
      · rcases htk y hy with h | rfl
        · have := hmx y h; omega
        · exact Int.le_refl _
      · exact hR b' t' h'' tk'' hb'' hm'' fun a o ha haS e => hk'' a o ha haS ((Heap.get?_update_other _ _ (Ne.symm haS)).trans (hk' a o ha e))
    · simp only [hb', decide_false, Bool.false_eq_true, if_false]
      refine wpAny_bind (wpAny_letGo ?_)
      rw [hname]
      refine wpAny_pure ⟨plainId_quiet F.plain_max_loop _, ih (j + 1) _ b t c (by omega) hlt hst' hb (fun y hy => ?_) hS' fun b' t' h'' tk'' hb'' hm'' hk'' => ?_⟩
      · rcases htk y hy with h | rfl
        · exact hmx y h
        · omega
      · exact hR b' t' h'' tk'' hb'' hm'' fun a o ha haS e => hk'' a o ha haS (hk' a o ha e)
theorem call_maxd {x dv : Value} {Q : Value → Shared → Prop}
    (h : wpAny (model prog w) A.in1 (pyIter x) (fun it s₂ => ∃ I fp wr g P St, it = .ref I ∧ (∀ i v, P i v → ∃ x t, (g : List Int)[i]? = some x ∧ v = .int x t) ∧ Walks prog w A.in1 I fp wr g.length P St ∧ St 0 s₂.heap ∧ (∀ b ∈ fp, b < s₂.heap.objs.size) ∧ 0 < g.length ∧
      ∀ b t h' tk, b ∈ g → (∀ x ∈ g, x ≤ b) → (∀ a o, a ∉ wr → s₂.heap.get? a = some o → h'.get? a = some o) → Q (.int b t) { s₂ with heap := h', toks := tk }) E s) :
    wpAny (model prog w) A (call (.builtin "max") [x] [(Str.ofString "default", dv)]) Q E s := by
  have hname : (toString "max" ++ toString ".loop" : String) = "max.loop" := by decide
  refine kmk_tree F.kind_max F.plain_max F.entry_max (args_maxd _ _) ?_
  show wpAny _ A.in1 (Builtin.Builtins.bindParams "max" ["key", "default"] 0 ⟨[], [(Str.ofString "default", dv)]⟩ >>= _) _ _ s
  refine wpAny_bind (wpAny_of_eq (show Builtin.Builtins.bindParams "max" ["key", "default"] 0 ⟨[], [(Str.ofString "default", dv)]⟩ = pure [none, some dv] from rfl) ?_)
  refine wpAny_bind (wpAny_pure ?_)
  refine wpAny_bind (wpAny_mono h (fun it s₂ h₂ => ?_) fun _ _ e => e)
  obtain ⟨I, fp, wr, g, P, St, rfl, hP, W, hst, hfp, hn, hQ⟩ := h₂
  refine wpAny_bind (wpAny_newObj_type ?_)
  have hSf : s₂.heap.objs.size ∉ fp := fun hm => Nat.lt_irrefl _ (hfp _ hm)
  have hSw : s₂.heap.objs.size ∉ wr := fun h => hSf (W.sub _ h)
  rw [hname]
  have hst1 := W.frame 0 _ (s₂.heap.push { cls := .type "list", data := .seq #[] }) hst fun b _ o e => Heap.get?_push_of_some _ e
  refine wpAny_pure ⟨plainId_quiet F.plain_max_loop _, codeAny_builtin F.entry_max_loop ?_⟩
  rw [Around.under_plainId F.plain_max_loop _]
  have hS : (s₂.heap.push { cls := .type "list", data := .seq #[] }).get? s₂.heap.objs.size = some { cls := .type "list", data := .seq #[] } := Heap.get?_push_size _ rfl
  show wpAny _ A.in1 (seqItems? (.ref s₂.heap.objs.size) >>= _) _ _ _
  refine wpAny_bind (wpAny_seqItems hS rfl ?_)
  show wpAny _ A.in1 (tryCatch (pyNext (.ref I)) _ >>= _) _ _ _
  refine wpAny_bind (wpAny_tryCatch (W.item 0 _ _ _ hn hst1 fun v h' tk hPv hst' hk' => ?_))
  obtain ⟨y, u, hy, rfl⟩ := hP 0 v hPv
  have hS' := hk' _ _ hSw hS
  show wpAny _ A.in1 (updateSeq s₂.heap.objs.size (fun _ => #[.int y u, .int y u]) >>= _) _ _ _
  refine wpAny_bind (wpAny_updateSeq hS' rfl ?_)
  rw [hname]
  refine wpAny_pure ⟨plainId_quiet F.plain_max_loop _, maxd_loop hP W hSf _ 1 _ y u _ rfl hn (W.frame _ _ _ hst' fun a ha o e => ?_) (List.mem_of_getElem? hy) (fun z hz => ?_) (Heap.get?_update_self _ hS' rfl) fun b t h'' tk'' hb hm hk => ?_⟩
  · exact (Heap.get?_update_other _ _ (fun h : s₂.heap.objs.size = a => hSf (by rw [h]; exact ha))).trans e
  · rw [List.take_add_one, hy] at hz
    simp at hz; omega
  · exact hQ b t h'' tk'' hb hm fun a o ha e => hk a o ha (Nat.ne_of_lt (Heap.lt_size e)) ((Heap.get?_update_other _ _ (Nat.ne_of_gt (Heap.lt_size e))).trans (hk' a o ha (Heap.get?_push_of_some _ e)))
end
end Mine
end
section
open PySem PySem.W PyProof.Rows PySem.Calls
set_option maxRecDepth 100000
set_option maxHeartbeats 8000000
namespace Mine
theorem plain_ci : plainId "proto.contains_iter" = true := by decide +kernel
theorem ent_ci : entryFor table "proto.contains_iter" = some Builtin.«proto.contains_iter» := entryFor_of_tree (by kernel_rfl)
theorem no_contains : typeLookup (.type "dict_values") "__contains__" = pure none := by rw [typeLookup_type, builtinLookup_eq_fast]; kernel_rfl
def isNo : Value → Bool
  | .none => true
  | _ => false
section
variable {prog : Program} {w : World} {K : Type} [DecidableEq K] {knd : PySem.KeyKind prog w K} {A : Around} {E : Value → Shared → Prop} {s : Shared}
theorem eq_none {v : Value} {Q : Bool → Shared → Prop} (hv : OkV v) (h : Q (isNo v) s) : wpAny (model prog w) A (eqBool v .none) Q E s := by
  rcases hv with ⟨x, t, rfl⟩ | rfl
  · exact PySem.SeqAt.EqAt.int_none _ _ _ _ _ _ h
  · exact PySem.SeqAt.EqAt.same _ _ _ _ _ h
theorem ci_loop {I d : Addr} {ep : Nat} {kvs : List (K × Value)} {R : Result → Shared → Prop} (hh : A.handled = none) (hdI : d ≠ I) (hok : ∀ kv ∈ kvs, OkV kv.2) :
    ∀ (k j : Nat) (s : Shared), kvs.length - j = k → j ≤ kvs.length → s.heap.IsValIter I d j kvs.length ep → s.heap.DictAt knd d kvs ep →
      (∀ h' tk, (∀ a o, a ≠ I → s.heap.get? a = some o → h'.get? a = some o) → R (.ok (.ret (.bool ((kvs.drop j).any fun kv => isNo kv.2)))) { s with heap := h', toks := tk }) →
      codeAny (model prog w) A (.builtin "proto.contains_iter" ⟨[.ref I, .none], []⟩) R s := by
  have W := Walks.dictValues (prog := prog) (w := w) (knd := knd) (A := A.in1) hh I d hdI kvs ep
  intro k
  induction k with
  | zero =>
    intro j s hk hj hI hd hR
    have hin : j = kvs.length := by omega
    subst hin
    refine codeAny_builtin ent_ci ?_
    rw [Around.under_plainId plain_ci _]
    show wpAny _ A.in1 (pyNext (.ref I) >>= _) _ _ s
    refine wpAny_bind (W.done s _ _ ⟨hI, hd⟩ fun h' tk hk' => ?_)
    refine wpAny_bind (wpAny_rule (wpAny_pure ?_))
    have := hR h' tk fun a o ha e => hk' a o (by simp [ha]) e
    simpa using this
  | succ k ih =>
    intro j s hk hj hI hd hR
    have hlt : j < kvs.length := by omega
    refine codeAny_builtin ent_ci ?_
    rw [Around.under_plainId plain_ci _]
    show wpAny _ A.in1 (pyNext (.ref I) >>= _) _ _ s
    refine wpAny_bind (W.item j s _ _ hlt ⟨hI, hd⟩ fun v h' tk hv hst' hk' => ?_)
    obtain ⟨key, hx⟩ := hv
    have hdr : kvs.drop j = (key, v) :: kvs.drop (j + 1) := by
      rw [List.drop_eq_getElem_cons hlt]
      rw [List.getElem?_eq_getElem hlt] at hx
      rw [Option.some.inj hx]
    rw [hdr, List.any_cons] at hR
    refine wpAny_bind (eq_none (hok _ (List.mem_of_getElem? hx)) ?_)
    cases hb : isNo v with
    | true =>
      simp only [if_true]
      refine wpAny_bind (wpAny_rule (wpAny_pure ?_))
      have := hR h' tk fun a o ha e => hk' a o (by simp [ha]) e
      rw [hb] at this
      exact this
    | false =>
      simp only [Bool.false_eq_true, if_false]
      refine wpAny_pure ⟨plainId_quiet plain_ci _, ih (j + 1) _ (by omega) hlt hst'.1 hst'.2 fun h'' tk'' hk'' => ?_⟩
      have := hR h'' tk'' fun a o ha e => hk'' a o ha (hk' a o (by simp [ha]) e)
      rw [hb] at this
      exact this
theorem in_vals {v d : Addr} {ep : Nat} {kvs : List (K × Value)} {Q : Bool → Shared → Prop} (hh : A.handled = none) (hok : ∀ kv ∈ kvs, OkV kv.2) (hv : s.heap.IsValuesView v d) (hd : s.heap.DictAt knd d kvs ep)
    (h : ∀ h' tk, (∀ a o, s.heap.get? a = some o → h'.get? a = some o) → Q (kvs.any fun kv => isNo kv.2) { s with heap := h', toks := tk }) :
    wpAny (model prog w) A (contains (.ref v) .none) Q E s := by
  unfold contains
  refine wpAny_holding ?_
  show wpAny _ _ (specialOf (.ref v) (Str.ofString "__contains__") >>= _) _ _ s
  refine wpAny_bind (wpAny_specialOf hv.typeIs no_contains ?_)
  show wpAny _ _ (callSpecialUnlessNone? (.ref v) (Str.ofString "__contains__") [.none] _ >>= _) _ _ s
  refine wpAny_bind (wpAny_callSpecialUnlessNone?_none hv.typeIs no_contains ?_)
  refine wpAny_bind (wpAny_rule ?_)
  refine wpAny_bind (wpAny_tryCatch (wpAny_pyIter_values hv hd ?_))
  have hlt : d < s.heap.objs.size := let ⟨_, _, ho, _⟩ := hd; Heap.lt_size ho
  have hd' := hd.at' (h' := s.heap.push (valIt d kvs.length ep)) fun o e => Heap.get?_push_of_some _ e
  refine wpAny_bind (wpAny_runValue (ci_loop hh (Nat.ne_of_lt hlt) hok _ 0 _ rfl (Nat.zero_le _) ⟨_, Heap.get?_push_size _ rfl, rfl, rfl⟩ hd' fun h' tk hk => ?_))
  rw [List.drop_zero]
  exact wpAny_pure (h h' tk fun a o e => hk a o (Nat.ne_of_lt (Heap.lt_size e)) (Heap.get?_push_of_some _ e))
end
end Mine
end
section
open PySem PySem.W PyProof.Rows PySem.Calls
set_option maxRecDepth 100000
set_option maxHeartbeats 8000000
namespace Mine
abbrev viewO (d : Addr) : Obj := { cls := .type "dict_values", data := .fields #[.ref d] }
section
variable {prog : Program} {w : World} {K : Type} [DecidableEq K] {knd : PySem.KeyKind prog w K} {A : Around} {E : Value → Shared → Prop} {s : Shared} {h₀ : Heap} {L d : Addr} {m : Str → Option Value} {news : List (Addr × Obj)} {kvs : List (K × Value)} {ep : Nat}
theorem get_values {pl : Sem Bool} {Q : Value × List Value → Shared → Prop} (F : Fr h₀ L s.heap m) (hD : h₀.DictAt knd d kvs ep) (h : Q (.builtin "dict.values", [.ref d]) s) :
    wpAny (model prog w) A (getMethod (.ref d) (Str.ofString "values") pl) Q E s :=
  have hD' := (hD.at' fun o e => F.keep _ _ e).dictOf
  getMethod_builtin hD'.typeIs PySem.F.plainAttrs_dict PySem.F.slot_dict_values PySem.F.type_dict_values hD'.mapOf.noDict h
theorem call_values {Q : Value → Shared → Prop} (F : Fr h₀ L s.heap m) (N : News h₀ L s.heap news) (hD : h₀.DictAt knd d kvs ep) (lo : (d == sysModules) = false)
    (h : ∀ (D : Addr) h', Fr h₀ L h' m → News h₀ L h' ((D, viewO d) :: news) → (∀ q ∈ news, q.1 < D) → Q (.ref D) { s with heap := h' }) :
    wpAny (model prog w) A (call (.builtin "dict.values") [.ref d]) Q E s :=
  have hD' := (hD.at' fun o e => F.keep _ _ e).dictOf
  call_meetsIn PySem.F.slot_dict_values hD'.typeIs PySem.F.entry_dict_values (PySem.F.args_dict_values_1 _) (meets_dict_values knd d lo) ⟨⟨kvs, hD'⟩, h _ _ (F.push _) (News.push F N _) fun q hq => Heap.lt_size (N q hq).1⟩
theorem fil_led {V : Addr} {Q : Value → Shared → Prop} (F : Fr h₀ L s.heap m) (N : News h₀ L s.heap ((V, viewO d) :: news)) (hD : h₀.DictAt knd d kvs ep)
    (h : ∀ (f I : Addr) h', Fr h₀ L h' m → News h₀ L h' ((f, filO I) :: (I, valIt d kvs.length ep) :: (V, viewO d) :: news) → f ≠ I → (∀ q ∈ (V, viewO d) :: news, q.1 < I) → Q (.ref f) { s with heap := h' }) :
    wpAny (model prog w) A (call (.type "filter") [.none, .ref V]) Q E s := by
  have hD' := hD.at' fun o e => F.keep _ _ e
  refine call_fil ⟨_, (N _ (.head _)).1, rfl, rfl⟩ hD' ?_
  have F1 := F.push (valIt d kvs.length ep)
  have N1 := News.push F N (valIt d kvs.length ep)
  have F2 := F1.push (filO s.heap.objs.size)
  have N2 := News.push F1 N1 (filO s.heap.objs.size)
  rw [Heap.size_push] at N2
  exact h _ _ _ F2 N2 (Nat.ne_of_gt (Nat.lt_succ_self _)) fun q hq => Heap.lt_size (N q hq).1
/-- the ints among the values that a filter keeps -/
def kept (kvs : List (K × Value)) : List Int := ((kvs.map (·.2)).filter tru).map fun v => match v with | .int x _ => x | _ => 0
theorem kept_at {i : Nat} {v : Value} (h : ((kvs.map (·.2)).filter tru)[i]? = some v) : ∃ x t, (kept kvs)[i]? = some x ∧ v = .int x t := by
  have hm := List.mem_of_getElem? h
  have ht := (List.mem_filter.mp hm).2
  match v, ht, h with
  | .int x t, _, h => exact ⟨x, t, by unfold kept; rw [List.getElem?_map, h]; rfl, rfl⟩
theorem max_led {f I : Addr} {dv : Value} {Q : Value → Shared → Prop} (hh : A.handled = none) (F : Fr h₀ L s.heap m) (N : News h₀ L s.heap ((f, filO I) :: (I, valIt d kvs.length ep) :: news)) (hD : h₀.DictAt knd d kvs ep) (hok : ∀ kv ∈ kvs, OkV kv.2)
    (hfI : f ≠ I) (off : ∀ q ∈ news, q.1 < I) (hpos : 0 < (kept kvs).length) (hbd : ∀ x ∈ kept kvs, 0 < x ∧ x < 1000000000)
    (h : ∀ b t h' tk, b ∈ kept kvs → (∀ x ∈ kept kvs, x ≤ b) → 0 < b → b < 1000000000 → Fr h₀ L h' m → News h₀ L h' news → Q (.int b t) { s with heap := h', toks := tk }) :
    wpAny (model prog w) A (call (.builtin "max") [.ref f] [(Str.ofString "default", dv)]) Q E s := by
  have hD' := hD.at' fun o e => F.keep _ _ e
  have zI := N _ (.tail _ (.head _))
  have zf := N _ (.head _)
  have hdI : d ≠ I := by
    rintro rfl
    obtain ⟨o, _, ho, _⟩ := hD
    rw [zI.2.2] at ho; cases ho
  have W := Walks.fil (prog := prog) (w := w) (knd := knd) (A := A.in1) hh f I d hfI hdI kvs ep hok
  have hst : ∃ j, ((kvs.map (·.2)).drop j).filter tru = ((kvs.map (·.2)).filter tru).drop 0 ∧ IsFil s.heap f I ∧ s.heap.IsValIter I d j kvs.length ep ∧ s.heap.DictAt knd d kvs ep := ⟨0, rfl, ⟨_, zf.1, rfl, rfl⟩, ⟨_, zI.1, rfl, rfl⟩, hD'⟩
  have hlen : (kept kvs).length = ((kvs.map (·.2)).filter tru).length := by simp [kept]
  refine call_maxd (W.self 0 s _ _ hst ⟨f, [f, I, d], [I], kept kvs, _, _, rfl, fun i v hv => kept_at hv, hlen ▸ W, hst, ?_, hpos, fun b t h' tk hb hm hk => ?_⟩)
  · intro b hb
    simp only [List.mem_cons, List.not_mem_nil, or_false] at hb
    rcases hb with rfl | rfl | rfl
    · exact Heap.lt_size zf.1
    · exact Heap.lt_size zI.1
    · obtain ⟨o, _, ho, _⟩ := hD'
      exact Heap.lt_size ho
  · exact h b t h' tk hb hm (hbd b hb).1 (hbd b hb).2 (LCg.fr_but F hk zI.2.1.symm zI.2.2) (LCg.news_but (fun p hp => N p (.tail _ (.tail _ hp))) hk fun p hp => Nat.ne_of_lt (off p hp))
theorem in_led {V : Addr} {Q : Value → Shared → Prop} (hh : A.handled = none) (F : Fr h₀ L s.heap m) (N : News h₀ L s.heap ((V, viewO d) :: news)) (hD : h₀.DictAt knd d kvs ep) (hok : ∀ kv ∈ kvs, OkV kv.2)
    (h : ∀ h' tk, Fr h₀ L h' m → News h₀ L h' ((V, viewO d) :: news) → Q (.bool (kvs.any fun kv => isNo kv.2)) { s with heap := h', toks := tk }) :
    wpAny (model prog w) A (compareOp .In .none (.ref V)) Q E s := by
  have hD' := hD.at' fun o e => F.keep _ _ e
  show wpAny _ _ (contains (.ref V) .none >>= _) _ _ s
  refine wpAny_bind (in_vals hh hok ⟨_, (N _ (.head _)).1, rfl, rfl⟩ hD' fun h' tk hk => wpAny_pure (h h' tk (F.keeps hk) fun p hp => ⟨hk _ _ (N p hp).1, (N p hp).2⟩))
end
end Mine
end
section
open PySem PySem.W PyProof.Rows PySem.Calls
set_option maxRecDepth 100000
set_option maxHeartbeats 8000000
namespace Mine
theorem reset_Wid : True := by
  w_top off
  k_with_none
  trivial
/-- how many figures an int's text has, from three up -/
def len3 (b : Int) : Int := if ((Str.ofString (toString b)).length : Int) > 3 then ((Str.ofString (toString b)).length : Int) else 3
def widv (b : Int) (no : Bool) : Int := if len3 b < 4 ∧ no = true then 4 else len3 b
theorem widv_4 {b : Int} {no : Bool} (h : len3 b < 4) (h2 : no = true) : widv b no = 4 := by unfold widv; rw [if_pos ⟨h, h2⟩]
theorem widv_l {b : Int} {no : Bool} (h : ¬ len3 b < 4) : widv b no = len3 b := by unfold widv; rw [if_neg fun x => h x.1]
theorem widv_n {b : Int} {no : Bool} (h : no = false) : widv b no = len3 b := by unfold widv; rw [if_neg fun x => by rw [h] at x; exact Bool.noConfusion x.2]
theorem q_eq {Q : Value → Shared → Prop} {a b : Int} {t : Tok} {s : Shared} (h : Q (.int a t) s) (e : a = b) : Q (.int b t) s := e ▸ h
theorem width_c {w : World} {dp un : Nat} {fr : Option (List Env)} {gd : Option (List Code)} {s : Shared} {Q E : Value → Shared → Prop} {mean : ExcName → Option Value} {mg mb : Str → Option Value} {d : Addr} {kvs : List (Int × Value)} {ep : Nat}
    (X : (hd.heap_39 w.params).In s.heap) (T : Top hd.view_39 (looseW hd.view_39 []) mean mg mb s.heap) (hr : dp + 2 < recursionLimit) 
    (hD : s.heap.DictAt (intKind PySem.Challenge.rw_ny0086_01.row.prog w) d kvs ep) (hsys : (d == sysModules) = false)
    (hok : ∀ kv ∈ kvs, OkV kv.2) (hpos : 0 < (kept kvs).length) (hbd : ∀ x ∈ kept kvs, 0 < x ∧ x < 1000000000)
    (ret : ∀ b t h' tk', b ∈ kept kvs → (∀ x ∈ kept kvs, x ≤ b) → s.heap.StaysIn h' → Q (.int (widv b (kvs.any fun kv => isNo kv.2)) t) { s with heap := h', toks := tk' }) :
    wpAny (model PySem.Challenge.rw_ny0086_01.row.prog w) (Ar dp fr gd un) (call (.ref 28) [.ref d]) Q E s := by
  k_with "mine enter" => ( refine wpAny_call ?_; k_dflt (refine' enter_c (by assumption) (Top.nolimit (by assumption)) ?hk6 ?hk7 ?hk8 ?hk9 ?hkB ?_ ?hc5 ?hc2 ?hc3 ?hc4; (case hk6 => k_is); (case hk7 => k_is); (case hk8 => ((try dsimp only [Ar]); omega)); (case hk9 => exact BindsTo.of_eq rfl); (case hc5 => decide); (case hkB => exact locs rfl); (case hc2 => exact rfl); (case hc3 => exact rfl); (case hc4 => exact rfl)); intro yL' yh' yF' yN'; (try dsimp only); (try k_fold))
  k_with "getMethod ref" => ((with_reducible rename Fr _ _ _ _ => zF'); (with_reducible rename Heap.DictAt _ _ _ _ _ => zD'); (refine get_values (s := ⟨_, _, _, _, _⟩) zF' zD' ?_); (try dsimp only))
  k_with "call builtin:dict.values" => ((with_reducible rename Fr _ _ _ _ => zF'); (with_reducible rename News _ _ _ _ => zN'); (with_reducible rename Heap.DictAt _ _ _ _ _ => zD'); (refine call_values (s := ⟨_, _, _, _, _⟩) zF' zN' zD' (by assumption) ?_); intro yD' yh' yF' yN' yl1; (try dsimp only))
  k_with "call type:filter" => ((with_reducible rename Fr _ _ _ _ => zF'); (with_reducible rename News _ _ _ _ => zN'); (with_reducible rename Heap.DictAt _ _ _ _ _ => zD'); (refine fil_led (s := ⟨_, _, _, _, _⟩) zF' zN' zD' ?_); intro yf' yI' yh' yF' yN' yl1 yl2; (try dsimp only))
  k_with "call builtin:max" => ((with_reducible rename Fr _ _ _ _ => zF'); (with_reducible rename News _ _ _ _ => zN'); (with_reducible rename Heap.DictAt _ _ _ _ _ => zD'); (refine max_led (s := ⟨_, _, _, _, _⟩) rfl zF' zN' zD' (by assumption) (by assumption) (by assumption) (by assumption) (by assumption) ?_); intro yb' yt' yh' ytk' yhb' yhm' yhp1 yhp2 yF' yN'; (try dsimp only))
  k_with "compareOp In none ref" => ((with_reducible rename Fr _ _ _ _ => zF'); (with_reducible rename News _ _ _ _ => zN'); (with_reducible rename Heap.DictAt _ _ _ _ _ => zD'); (refine in_led (s := ⟨_, _, _, _, _⟩) rfl zF' zN' zD' (by assumption) ?_); intro yh' ytk' yF' yN'; (try dsimp only))
  revert X; k_fill; intro X
  walk_at "mine enter"
  k_steps
  · rename_i h; exfalso; omega
  · exact q_eq (Q := Q) (ret _ _ _ _ (by assumption) (by assumption) (Fr.keep (by assumption))) (widv_4 (by assumption) (by assumption))
  · exact q_eq (Q := Q) (ret _ _ _ _ (by assumption) (by assumption) (Fr.keep (by assumption))) (widv_n (by assumption))
  · exact q_eq (Q := Q) (ret _ _ _ _ (by assumption) (by assumption) (Fr.keep (by assumption))) (widv_l (by assumption))
end Mine
end
section
open PySem PySem.W PyProof.Rows PySem.Calls
set_option maxRecDepth 100000
set_option maxHeartbeats 8000000
namespace Mine
/-- the signs of a number's text -/
def numc (n : Nat) : List Nat := (Nat.toDigits 10 n).map Char.toNat
theorem digc : ∀ d : Nat, d < 10 → (Nat.digitChar d).toNat = 48 + d := by decide
theorem numc_lt {n : Nat} (h : n < 10) : numc n = [48 + n] := by
  unfold numc
  rw [Nat.toDigits_of_lt_base h, ← digc n h]
  rfl
theorem numc_ge {n : Nat} (h : ¬ n < 10) : numc n = numc (n / 10) ++ [48 + n % 10] := by
  have hm : n % 10 < 10 := Nat.mod_lt n (by decide)
  have t : Nat.toDigits 10 (n / 10) ++ Nat.toDigits 10 (n % 10) = Nat.toDigits 10 (10 * (n / 10) + n % 10) := Nat.toDigits_append_toDigits (by decide) (by omega) hm
  rw [Nat.div_add_mod] at t
  unfold numc
  rw [← t, List.map_append, Nat.toDigits_of_lt_base hm, ← digc _ hm]
  rfl
theorem dig_zero (b : Nat) : ∀ W, dig b W 0 = List.replicate W 0
  | 0 => rfl
  | W + 1 => by
    show dig b W (0 / b) ++ [0 % b] = _
    rw [Nat.zero_div, Nat.zero_mod, dig_zero b W, List.replicate_succ']
theorem numc_pad : ∀ W n, n < 10 ^ W → 1 ≤ W → (numc n).length ≤ W ∧ List.replicate (W - (numc n).length) 48 ++ numc n = (dig 10 W n).map (48 + ·)
  | 0, _, _, h => absurd h (by decide)
  | W + 1, n, h, _ => by
    by_cases h10 : n < 10
    · rw [numc_lt h10]
      refine ⟨by simp, ?_⟩
      show _ = (dig 10 W (n / 10) ++ [n % 10]).map _
      rw [Nat.div_eq_of_lt h10, Nat.mod_eq_of_lt h10, dig_zero]
      simp
    · have hW : 1 ≤ W := by
        rcases Nat.eq_zero_or_pos W with e | e
        · subst e; simp at h; omega
        · exact e
      have hq : n / 10 < 10 ^ W := by rw [Nat.div_lt_iff_lt_mul (by decide)]; rw [Nat.pow_succ] at h; exact h
      obtain ⟨i1, i2⟩ := numc_pad W (n / 10) hq hW
      rw [numc_ge h10]
      refine ⟨by simp; exact i1, ?_⟩
      show _ = (dig 10 W (n / 10) ++ [n % 10]).map _
      rw [List.map_append, ← i2, List.length_append, List.length_singleton, Nat.add_sub_add_right, List.append_assoc]
      rfl
theorem numc_fits (n : Nat) : n < 10 ^ (numc n).length ∧ 1 ≤ (numc n).length := by
  induction n using Nat.strongRecOn with
  | _ n ih =>
    by_cases h10 : n < 10
    · rw [numc_lt h10]; simp; omega
    · have := ih (n / 10) (by omega)
      rw [numc_ge h10, List.length_append, List.length_singleton, Nat.pow_succ]
      omega
theorem numc_mono {n m : Nat} (h : n ≤ m) : (numc n).length ≤ (numc m).length := by
  have := numc_fits m
  exact (numc_pad _ n (Nat.lt_of_le_of_lt h this.1) this.2).1
theorem numc_pow {n W : Nat} (h : (numc n).length ≤ W) : n < 10 ^ W := Nat.lt_of_lt_of_le (numc_fits n).1 (Nat.pow_le_pow_right (by decide) h)
theorem text_cps (n : Nat) : (Str.ofString (toString ((n : Nat) : Int))).cps.toList = numc n := PySem.W.KIN.signs_num n
theorem text_len (n : Nat) : (Str.ofString (toString ((n : Nat) : Int))).length = (numc n).length := by
  rw [← text_cps]; simp [Str.length]
theorem text_eq (n : Nat) : Str.ofString (toString ((n : Nat) : Int)) = ⟨(numc n).toArray⟩ := by
  rw [← text_cps]
end Mine
end
section
open PySem PySem.W PyProof.Rows PySem.Calls
set_option maxRecDepth 100000
set_option maxHeartbeats 8000000
namespace Mine
section
variable {prog : Program} {w : World} {A : Around} {E : Value → Shared → Prop} {s : Shared} {h₀ : Heap} {L l : Addr} {m : Str → Option Value} {all news : List (Addr × Obj)} {Q : Value → Shared → Prop}
/-- an item of a list of the ledger -/
theorem item_led {value slice : PySem.Expr} {its : Array Value} {c i : Nat} {k : Int} {u : Tok} {v : Value} (N : News h₀ L s.heap all) (hm : (l, W.listOf its c) ∈ all) (hk : k = ((i : Nat) : Int)) (hi : i ≤ 1000) (hx : its[i]? = some v) (h : Q v s)
    (hs : subscripted slice false (.ref l) (.int k u) = operate [.ref l, .int k u] (getItem (.ref l) (.int k u)) := by with_unfolding_all rfl) :
    wpAny (model prog w) A (subscriptTail value slice (.ref l) (.int k u)) Q E s := by
  subst hk
  have hl : s.heap.IsList l its := ⟨_, (N _ hm).1, rfl, _, rfl⟩
  exact tail_any hl.typeIs slot_list_getitem.lookup (wpAny_getItem_list hl (by omega) (by omega) (by rw [Int.toNat_natCast]; exact hx) h) hs
theorem two_bits : Builtin.Int.intBits 2 ≤ 64 := intBits_le_64 (by omega) (by omega)
theorem args_max0 (a : Value) : argsOk "max" ⟨[a], []⟩ := F.args_max1 a
theorem max_start {I S : Addr} {fp wr : List Addr} {R : Result → Shared → Prop} {St : Nat → Heap → Prop} {g : List Int} {kw : List (Str × Value)} {P : Nat → Value → Prop} {c : Nat} (hP : ∀ i v, P i v → ∃ x t, g[i]? = some x ∧ v = .int x t)
    (W : Walks prog w A.in1 I fp wr g.length P St) (hSf : S ∉ fp) (hst : St 0 s.heap) (hn : 0 < g.length) (hS : s.heap.get? S = some { cls := .type "list", dict := none, data := .seq #[] c, slots := #[] })
    (hR : ∀ b t h' tk, b ∈ g → (∀ x ∈ g, x ≤ b) → (∀ a o, a ∉ wr → a ≠ S → s.heap.get? a = some o → h'.get? a = some o) → R (.ok (.ret (.int b t))) { s with heap := h', toks := tk }) :
    codeAny (model prog w) A (.builtin "max.loop" ⟨[.ref I, .none, .ref S], kw⟩) R s := by
  have hSw : S ∉ wr := fun h => hSf (W.sub _ h)
  have hname : (toString "max" ++ toString ".loop" : String) = "max.loop" := by decide
  refine codeAny_builtin F.entry_max_loop ?_
  rw [Around.under_plainId F.plain_max_loop _]
  show wpAny _ A.in1 (seqItems? (.ref S) >>= _) _ _ s
  refine wpAny_bind (wpAny_seqItems hS rfl ?_)
  show wpAny _ A.in1 (tryCatch (pyNext (.ref I)) _ >>= _) _ _ s
  refine wpAny_bind (wpAny_tryCatch (W.item 0 _ _ _ hn hst fun v h' tk hPv hst' hk' => ?_))
  obtain ⟨y, u, hy, rfl⟩ := hP 0 v hPv
  have hS' := hk' _ _ hSw hS
  show wpAny _ A.in1 (updateSeq S (fun _ => #[.int y u, .int y u]) >>= _) _ _ _
  refine wpAny_bind (wpAny_updateSeq hS' rfl ?_)
  rw [hname]
  refine wpAny_pure ⟨plainId_quiet F.plain_max_loop _, maxd_loop hP W hSf _ 1 _ y u _ rfl hn (W.frame _ _ _ hst' fun a ha o e => ?_) (List.mem_of_getElem? hy) (fun z hz => ?_) (Heap.get?_update_self _ hS' rfl) fun b t h'' tk'' hb hm hk => ?_⟩
  · exact (Heap.get?_update_other _ _ (fun h : S = a => hSf (by rw [h]; exact ha))).trans e
  · rw [List.take_add_one, hy] at hz
    simp at hz; omega
  · exact hR b t h'' tk'' hb hm fun a o ha haS e => hk a o ha haS ((Heap.get?_update_other _ _ (Ne.symm haS)).trans (hk' a o ha e))
/-- max of a list of ints of the ledger -/
theorem max_list {its : Array Value} {c : Nat} {g : List Int} (hh : A.handled = none) (FF : Fr h₀ L s.heap m) (N : News h₀ L s.heap all) (hm : (l, W.listOf its c) ∈ all) (hg : IntsAre its.toList g) (hn : 0 < g.length)
    (h : ∀ b t h' tk, b ∈ g → (∀ x ∈ g, x ≤ b) → Fr h₀ L h' m → News h₀ L h' all → Q (.int b t) { s with heap := h', toks := tk }) :
    wpAny (model prog w) A (call (.builtin "max") [.ref l]) Q E s := by
  have hname : (toString "max" ++ toString ".loop" : String) = "max.loop" := by decide
  have hl : s.heap.IsList l its := ⟨_, (N _ hm).1, rfl, _, rfl⟩
  have hlt : l < s.heap.objs.size := Heap.lt_size (N _ hm).1
  have hlen : its.size = g.length := by have := hg.sizeZ; simp at this; omega
  refine call_function_tree F.kind_max F.plain_max F.entry_max (args_max0 _) ?_
  show wpAny _ A.in1 (Builtin.Builtins.bindParams "max" ["key", "default"] 0 ⟨[], []⟩ >>= _) _ _ s
  refine wpAny_bind (wpAny_of_eq (show Builtin.Builtins.bindParams "max" ["key", "default"] 0 ⟨[], []⟩ = pure [none, none] from rfl) ?_)
  refine wpAny_bind (wpAny_pure ?_)
  refine wpAny_bind (wpAny_pyIter_list hl ?_)
  refine wpAny_bind (wpAny_newObj_type ?_)
  rw [hname]
  have W := Walks.list (prog := prog) (w := w) (A := A.in1) hh s.heap.objs.size l (Nat.ne_of_lt hlt) its
  rw [hlen] at W
  have hz : (s.heap.push { cls := .type "list_iterator", data := .fields #[.ref l, .int 0 0] }).objs.size = s.heap.objs.size + 1 := Heap.size_push ..
  refine wpAny_pure ⟨plainId_quiet F.plain_max_loop _, max_start (S := (s.heap.push { cls := .type "list_iterator", data := .fields #[.ref l, .int 0 0] }).objs.size) (fun i v hv => ?_) W ?_ ⟨⟨_, Heap.get?_push_of_some _ (Heap.get?_push_size _ rfl), rfl, rfl⟩, hl.at fun o e => Heap.get?_push_of_some _ (Heap.get?_push_of_some _ e)⟩ hn (Heap.get?_push_size _ rfl) fun b t h' tk hb hmx hk => ?_⟩
  · obtain ⟨n, t, e1, e2⟩ := hg.at i v (by simpa using hv)
    exact ⟨n, t, e2, e1⟩
  · rw [hz]
    intro hm
    rcases List.mem_cons.mp hm with e | e
    · exact absurd e (Nat.ne_of_gt (Nat.lt_succ_self _))
    · exact absurd (List.mem_singleton.mp e) (Nat.ne_of_gt (Nat.lt_succ_of_lt hlt))
  · have hk' : ∀ a o, s.heap.get? a = some o → h'.get? a = some o := fun a o e => hk a o (fun hm => absurd (List.mem_singleton.mp hm) (Nat.ne_of_lt (Heap.lt_size e))) (by rw [hz]; exact Nat.ne_of_lt (Nat.lt_succ_of_lt (Heap.lt_size e))) (Heap.get?_push_of_some _ (Heap.get?_push_of_some _ e))
    exact h b t h' tk hb hmx (FF.keeps hk') fun p hp => ⟨hk' _ _ (N p hp).1, (N p hp).2⟩
end
theorem range_size (n : Nat) : Builtin.Range.rangeSize 0 ((n : Nat) : Int) 1 = ((n : Nat) : Int) := by
  unfold Builtin.Range.rangeSize
  rw [if_pos (by decide)]
  split <;> omega
theorem get_some {α : Type} {l : List α} {i : Nat} (h : i < l.length) : ∃ v, l[i]? = some v := ⟨_, List.getElem?_eq_getElem h⟩
end Mine
end
section
open PySem PySem.W PyProof.Rows PySem.Calls
set_option maxRecDepth 100000
set_option maxHeartbeats 8000000
namespace Mine
theorem ents_vals {kvs : List (Int × Value)} {es : List Value} (hl : kvs.length = es.length) (h : ∀ (i : Nat) (kv : Int × Value), kvs[i]? = some kv → es[i]? = some kv.2) : kvs.map (·.2) = es := by
  refine List.ext_getElem? fun i => ?_
  rw [List.getElem?_map]
  cases e : kvs[i]? with
  | some kv => rw [h i kv e]; rfl
  | none => rw [List.getElem?_eq_none (by rw [← hl]; exact List.getElem?_eq_none_iff.mp e)]; rfl
theorem kept_mem {kvs : List (Int × Value)} {es : List Value} (h : kvs.map (·.2) = es) {x : Int} : x ∈ kept kvs ↔ x ≠ 0 ∧ ∃ t, Value.int x t ∈ es := by
  unfold kept
  rw [h, List.mem_map]
  constructor
  · rintro ⟨v, hv, rfl⟩
    obtain ⟨h1, h2⟩ := List.mem_filter.mp hv
    match v, h1, h2 with
    | .int x t, h1, h2 => exact ⟨by simpa [tru] using h2, t, h1⟩
  · rintro ⟨h0, t, ht⟩
    exact ⟨.int x t, List.mem_filter.mpr ⟨ht, by simpa [tru] using h0⟩, rfl⟩
/-- the six numbers and the None, if there is one -/
abbrev ents (nu : Nat → Nat) (z : Nat) (c0 c1 c2 c3 c4 c5 : Tok) : List Value := [Value.int (nu 0 : Nat) c0, .int (nu 1 : Nat) c1, .int (nu 2 : Nat) c2, .int (nu 3 : Nat) c3, .int (nu 4 : Nat) c4, .int (nu 5 : Nat) c5] ++ List.replicate z .none
section
variable {nu : Nat → Nat} {z : Nat} {c0 c1 c2 c3 c4 c5 : Tok}
theorem ents_mem {v : Value} (h : v ∈ ents nu z c0 c1 c2 c3 c4 c5) : (∃ i t, i ≤ 5 ∧ v = .int (nu i : Nat) t) ∨ (v = .none ∧ 0 < z) := by
  rcases List.mem_append.mp h with h | h
  · simp only [List.mem_cons, List.not_mem_nil, or_false] at h
    rcases h with h | h | h | h | h | h
    · exact .inl ⟨0, _, by decide, h⟩
    · exact .inl ⟨1, _, by decide, h⟩
    · exact .inl ⟨2, _, by decide, h⟩
    · exact .inl ⟨3, _, by decide, h⟩
    · exact .inl ⟨4, _, by decide, h⟩
    · exact .inl ⟨5, _, by decide, h⟩
  · obtain ⟨h1, h2⟩ := List.mem_replicate.mp h
    exact .inr ⟨h2, by omega⟩
theorem ents_at {i : Nat} (h : i ≤ 5) : ∃ t, Value.int (nu i : Nat) t ∈ ents nu z c0 c1 c2 c3 c4 c5 := by
  rcases (show i = 0 ∨ i = 1 ∨ i = 2 ∨ i = 3 ∨ i = 4 ∨ i = 5 by omega) with rfl | rfl | rfl | rfl | rfl | rfl
  · exact ⟨c0, by simp⟩
  · exact ⟨c1, by simp⟩
  · exact ⟨c2, by simp⟩
  · exact ⟨c3, by simp⟩
  · exact ⟨c4, by simp⟩
  · exact ⟨c5, by simp⟩
theorem ents_ok {kvs : List (Int × Value)} (h : kvs.map (·.2) = ents nu z c0 c1 c2 c3 c4 c5) : ∀ kv ∈ kvs, OkV kv.2 := by
  intro kv hm
  have : kv.2 ∈ ents nu z c0 c1 c2 c3 c4 c5 := h ▸ List.mem_map_of_mem hm
  rcases ents_mem this with ⟨i, t, _, e⟩ | ⟨e, _⟩
  · exact .inl ⟨_, t, e⟩
  · exact .inr e
theorem ents_any {kvs : List (Int × Value)} (h : kvs.map (·.2) = ents nu z c0 c1 c2 c3 c4 c5) : (kvs.any fun kv => isNo kv.2) = decide (0 < z) := by
  have : (kvs.any fun kv => isNo kv.2) = (kvs.map (·.2)).any isNo := by rw [List.any_map]; rfl
  rw [this, h]
  cases z with
  | zero => rfl
  | succ z => simp [ents, isNo, List.replicate_succ]
theorem ents_pos {kvs : List (Int × Value)} (h : kvs.map (·.2) = ents nu z c0 c1 c2 c3 c4 c5) (h01 : nu 0 ≠ 0 ∨ nu 1 ≠ 0) : 0 < (kept kvs).length := by
  have key : ∀ i, i ≤ 5 → nu i ≠ 0 → 0 < (kept kvs).length := by
    intro i hi h0
    exact List.length_pos_of_mem ((kept_mem h).mpr ⟨by omega, ents_at hi⟩)
  rcases h01 with e | e
  · exact key 0 (by decide) e
  · exact key 1 (by decide) e
theorem ents_bd {kvs : List (Int × Value)} (h : kvs.map (·.2) = ents nu z c0 c1 c2 c3 c4 c5) (hb : ∀ i, i ≤ 5 → nu i < 1000000000) : ∀ x ∈ kept kvs, 0 < x ∧ x < 1000000000 := by
  intro x hx
  obtain ⟨h0, t, ht⟩ := (kept_mem h).mp hx
  rcases ents_mem ht with ⟨i, t', hi, e⟩ | ⟨e, _⟩
  · injection e with e1 e2
    have := hb i hi
    omega
  · cases e
/-- the greatest of the numbers -/
def IsMax (nu : Nat → Nat) (M : Nat) : Prop := (∃ i, i ≤ 5 ∧ nu i = M) ∧ ∀ i, i ≤ 5 → nu i ≤ M
theorem ents_max {kvs : List (Int × Value)} (h : kvs.map (·.2) = ents nu z c0 c1 c2 c3 c4 c5) {b : Int} (hb : b ∈ kept kvs) (hm : ∀ x ∈ kept kvs, x ≤ b) : ∃ M : Nat, b = ((M : Nat) : Int) ∧ IsMax nu M := by
  obtain ⟨h0, t, ht⟩ := (kept_mem h).mp hb
  rcases ents_mem ht with ⟨i, t', hi, e⟩ | ⟨e, _⟩
  · injection e with e1 e2
    refine ⟨nu i, e1, ⟨i, hi, rfl⟩, fun j hj => ?_⟩
    by_cases hz : nu j = 0
    · omega
    · have := hm _ ((kept_mem h).mpr ⟨by omega, ents_at hj⟩)
      omega
  · cases e
theorem IsMax.uniq {M M' : Nat} (h : IsMax nu M) (h' : IsMax nu M') : M = M' := by
  obtain ⟨⟨i, hi, e⟩, hm⟩ := h
  obtain ⟨⟨j, hj, e'⟩, hm'⟩ := h'
  have := hm j hj
  have := hm' i hi
  omega
theorem nums_max {b : Int} (hb : b ∈ [((nu 0 : Nat) : Int), ((nu 1 : Nat) : Int), ((nu 2 : Nat) : Int), ((nu 3 : Nat) : Int), ((nu 4 : Nat) : Int), ((nu 5 : Nat) : Int)])
    (hm : ∀ x ∈ [((nu 0 : Nat) : Int), ((nu 1 : Nat) : Int), ((nu 2 : Nat) : Int), ((nu 3 : Nat) : Int), ((nu 4 : Nat) : Int), ((nu 5 : Nat) : Int)], x ≤ b) : ∃ M : Nat, b = ((M : Nat) : Int) ∧ IsMax nu M := by
  simp only [List.mem_cons, List.not_mem_nil, or_false, forall_eq_or_imp, forall_eq] at hb hm
  obtain ⟨a0, a1, a2, a3, a4, a5⟩ := hm
  have key : ∀ i, i ≤ 5 → ((nu i : Nat) : Int) ≤ b := by
    intro i hi
    rcases (show i = 0 ∨ i = 1 ∨ i = 2 ∨ i = 3 ∨ i = 4 ∨ i = 5 by omega) with rfl | rfl | rfl | rfl | rfl | rfl <;> assumption
  have fin : ∀ i, i ≤ 5 → b = ((nu i : Nat) : Int) → ∃ M : Nat, b = ((M : Nat) : Int) ∧ IsMax nu M := fun i hi e => ⟨nu i, e, ⟨i, hi, rfl⟩, fun j hj => by have := key j hj; omega⟩
  rcases hb with e | e | e | e | e | e
  · exact fin 0 (by decide) e
  · exact fin 1 (by decide) e
  · exact fin 2 (by decide) e
  · exact fin 3 (by decide) e
  · exact fin 4 (by decide) e
  · exact fin 5 (by decide) e
end
/-- the width that the law asks for is the function's -/
theorem wid_eq {M z : Nat} {b : Int} (hz : z ≤ 1) (hb : b ∈ [3, ((Str.ofString (toString ((M : Nat) : Int))).length : Int)] ++ List.replicate z 4) (hm : ∀ x ∈ [3, ((Str.ofString (toString ((M : Nat) : Int))).length : Int)] ++ List.replicate z 4, x ≤ b) :
    widv ((M : Nat) : Int) (decide (0 < z)) = b := by
  unfold widv len3
  generalize ((Str.ofString (toString ((M : Nat) : Int))).length : Int) = l at *
  rcases (show z = 0 ∨ z = 1 by omega) with rfl | rfl
  · simp at hb hm ⊢
    split <;> omega
  · simp at hb hm ⊢
    split <;> split <;> omega
theorem wid_lo {M : Nat} {no : Bool} : (((numc M).length : Nat) : Int) ≤ widv ((M : Nat) : Int) no ∧ 3 ≤ widv ((M : Nat) : Int) no := by
  unfold widv len3
  rw [text_len]
  split <;> split <;> omega
theorem wid_hi {M : Nat} {no : Bool} (h : (numc M).length ≤ 10) : widv ((M : Nat) : Int) no ≤ 10 := by
  unfold widv len3
  rw [text_len]
  split <;> split <;> omega
theorem sys_ne {h : Heap} {a d : Addr} {o : Obj} (e : h.get? a = some o) (hd : h.objs.size < d) : (d == sysModules) = false := by
  have h1 := Heap.lt_size e
  have h2 : (1 : Nat) < d := Nat.lt_of_le_of_lt (Nat.succ_le_of_lt (Nat.lt_of_le_of_lt (Nat.zero_le a) h1)) hd
  exact beq_eq_false_iff_ne.mpr (Nat.ne_of_gt h2)
theorem sys_list {h : Heap} {a d : Addr} {its : Array Value} (e : h.IsList a its) (hd : h.objs.size < d) : (d == sysModules) = false := let ⟨_, ho, _⟩ := e; sys_ne ho hd
theorem rest4 {h₀ h : Heap} {L a1 a2 a3 a4 c : Addr} {i1 i2 i3 i4 : Array Value} {k1 k2 k3 k4 : Nat} {oc : Obj} {v : Option Value} {all tl : List (Addr × Obj)} (N : News h₀ L h all) (hc : (c, oc) ∈ all) (hd : oc.data = .cell v)
    (m1 : (a1, W.listOf i1 k1) ∈ all) (m2 : (a2, W.listOf i2 k2) ∈ all) (m3 : (a3, W.listOf i3 k3) ∈ all) (m4 : (a4, W.listOf i4 k4) ∈ all) (htl : ∀ p ∈ tl, p ∈ all ∧ p.1 ≠ c) :
    ∀ p ∈ (a1, W.listOf i1 k1) :: (a2, W.listOf i2 k2) :: (a3, W.listOf i3 k3) :: (a4, W.listOf i4 k4) :: tl, p ∈ all ∧ p.1 ≠ c :=
  List.forall_mem_cons.mpr ⟨off_list N hc hd m1, List.forall_mem_cons.mpr ⟨off_list N hc hd m2, List.forall_mem_cons.mpr ⟨off_list N hc hd m3, List.forall_mem_cons.mpr ⟨off_list N hc hd m4, htl⟩⟩⟩⟩
theorem four_eq (n : Nat) : (List.replicate (1 - ((n : Nat) : Int).fmod 2).toNat [(4 : Int)]).flatten = List.replicate (1 - n % 2) 4 := by
  rw [par_eq, Int.toNat_natCast, List.flatten_replicate_singleton]
theorem ints_four {vs : List Value} {l : Int} {n : Nat} (h : IntsAre vs ([3, l] ++ (List.replicate (1 - ((n : Nat) : Int).fmod 2).toNat [(4 : Int)]).flatten)) : IntsAre vs ([3, l] ++ List.replicate (1 - n % 2) 4) := by
  rw [four_eq] at h; exact h
theorem nx_ne {n : Nat} {x : Int} (h : n = 0) : nx n x ≠ 0 := by
  have := wo_pos x
  unfold nx
  split <;> omega
end Mine
end
section
set_option maxRecDepth 100000
set_option maxHeartbeats 8000000
namespace Mine
theorem sc_lo (x y : Nat) : 0 ≤ sc x y := by unfold sc; split; decide; split <;> decide
theorem sc_hi (x y : Nat) : sc x y ≤ 2 := by unfold sc; split; decide; split <;> decide
theorem sc_comm (x y : Nat) : sc x y = sc y x := by
  unfold sc
  by_cases h : x = y
  · rw [if_pos h, if_pos h.symm]
  · have h' : ¬ y = x := fun e => h e.symm
    by_cases g : lowc x = lowc y
    · rw [if_neg h, if_neg h', if_pos g, if_pos g.symm]
    · have g' : ¬ lowc y = lowc x := fun e => g e.symm
      rw [if_neg h, if_neg h', if_neg g, if_neg g']
theorem sc_two {x y : Nat} (h : lowc x ≠ lowc y) : sc x y = 2 := by
  unfold sc
  rw [if_neg (fun e => h (by rw [e])), if_neg h]
theorem Costs.turn {c : Nat → Nat → Int} {n : Nat} {lc : Int} (h : Costs c n lc) : Costs (fun i j => c j i) n lc where
  lo := fun i j => h.lo j i
  hi := fun i j => h.hi j i
  off := fun i j a b c d e => h.off j i c d a b (fun x => e x.symm)
  diag := h.diag
  last := h.last
  lc1 := h.lc1
  npos := h.npos
theorem costs_one {ca cv : Nat} (h : 1 ≤ sc cv ca) : Costs (fun i j => sc ([cv].getD i 0) ([ca].getD j 0)) 1 (sc cv ca) where
  lo := fun i j => sc_lo _ _
  hi := fun i j => sc_hi _ _
  off := fun i j a b _ _ _ => absurd b (by omega)
  diag := fun k hk => absurd hk (by omega)
  last := rfl
  lc1 := h
  npos := by decide
theorem mid_get {d c a t i : Nat} (h : 1 ≤ i) (h2 : i < t + 1) : (d :: (List.replicate t c ++ [a])).getD i 0 = c := by
  obtain ⟨i, rfl⟩ : ∃ j, i = j + 1 := ⟨i - 1, by omega⟩
  have hi : i < t := by omega
  simp [List.getD, List.getElem?_append_left, hi]
theorem mid_last {d c a t : Nat} : (d :: (List.replicate t c ++ [a])).getD (t + 1) 0 = a := by
  simp [List.getD]
theorem costs_many {cd c9 ca cd' c0 cv t : Nat} (h0 : sc cd' cd = 2) (h1 : sc c0 c9 = 2) (h2 : sc c0 ca = 2) (h3 : sc cv c9 = 2) (h : 1 ≤ sc cv ca) :
    Costs (fun i j => sc ((cd' :: (List.replicate t c0 ++ [cv])).getD i 0) ((cd :: (List.replicate t c9 ++ [ca])).getD j 0)) (t + 2) (sc cv ca) where
  lo := fun i j => sc_lo _ _
  hi := fun i j => sc_hi _ _
  off := fun i j a b c d e => by
    by_cases hi : i < t + 1
    · rw [mid_get a hi]
      by_cases hj : j < t + 1
      · rw [mid_get c hj]; exact h1
      · obtain rfl : j = t + 1 := by omega
        rw [mid_last]; exact h2
    · obtain rfl : i = t + 1 := by omega
      rw [mid_last, mid_get c (by omega)]
      exact h3
  diag := fun k hk => by
    rcases Nat.eq_zero_or_pos k with rfl | hp
    · exact h0
    · show sc _ _ = 2
      rw [mid_get hp (by omega), mid_get hp (by omega)]
      exact h1
  last := by
    show sc ((cd' :: (List.replicate t c0 ++ [cv])).getD (t + 1) 0) ((cd :: (List.replicate t c9 ++ [ca])).getD (t + 1) 0) = _
    rw [mid_last, mid_last]
  lc1 := h
  npos := by omega
/-- the signs of a number, written as a step of base b goes -/
def ctext (b W n : Nat) : List Nat := if b = 10 then (dig 10 W n).map (48 + ·) else (dig 64 4 (n / 64)).map (64 + ·) ++ [n % 64]
/-- two texts that differ as a step lets them, and what is due -/
structure Apart (x y : List Nat) (due : Int) : Prop where
  ex : ∃ P M M' S n lc, x = P ++ (M ++ S) ∧ y = P ++ (M' ++ S) ∧ M.length = n ∧ M'.length = n ∧ n ≤ 40 ∧ P.length ≤ 100 ∧ S.length ≤ 100 ∧ Costs (fun i j => sc (M'.getD i 0) (M.getD j 0)) n lc ∧ (∀ z ∈ M, z < 128) ∧ (∀ z ∈ M', z < 128) ∧ due = 2 * n - 2 + lc
theorem Apart.swap {x y : List Nat} {due : Int} (h : Apart x y due) : Apart y x due := by
  obtain ⟨P, M, M', S, n, lc, a, b, c, d, e, f, g, i, j, k, l⟩ := h
  refine ⟨P, M', M, S, n, lc, b, a, d, c, e, f, g, ?_, k, j, l⟩
  have := i.turn
  have e : (fun i j => sc (M.getD i 0) (M'.getD j 0)) = fun i j => sc (M'.getD j 0) (M.getD i 0) := by
    funext i j; exact sc_comm _ _
  rw [e]; exact this
theorem fdiv_zero {a b : Nat} (h : a = b) (k : Int) : Int.fdiv ((a : Int) - b) k = 0 := by
  subst h; simp
theorem due_none {b p f lo hi : Nat} (h : dsum b lo + f = dsum b hi) : duev b p f lo hi = if Letter b p f lo then 1 else 2 := by
  unfold duev
  have e : ((dsum b lo : Int) + f - dsum b hi) = 0 := by omega
  rw [e, Int.zero_fdiv]
  simp
theorem due_some {b p f lo hi t : Nat} (hb : 2 ≤ b) (h : dsum b lo + f = dsum b hi + (t + 1) * (b - 1)) : duev b p f lo hi = 2 * ((t : Int) + 1) + if Letter b p f lo then 1 else 2 := by
  unfold duev
  have e : ((dsum b lo : Int) + f - dsum b hi) = ((t : Int) + 1) * ((b : Int) - 1) := by
    have e1 : ((b - 1 : Nat) : Int) = (b : Int) - 1 := by omega
    have e2 : (((t + 1) * (b - 1) : Nat) : Int) = ((t : Int) + 1) * ((b : Int) - 1) := by rw [Int.natCast_mul, e1]; rfl
    rw [← e2]; omega
  rw [e, Int.mul_fdiv_cancel _ (by omega)]
theorem low_of {c : Nat} (h : c < 65) : lowc c = c := by unfold lowc; rw [if_neg (by omega)]
theorem mod_32 (q : Nat) : q % 64 % 32 = q % 32 := Nat.mod_mod_of_dvd q ⟨2, rfl⟩
theorem sc_tab : (List.range 64).all (fun a => (List.range 64).all fun v => sc (64 + v) (64 + a) == if v == a then 0 else if (v == a + 32 || a == v + 32) && (0 < a % 32 && a % 32 < 27) then 1 else 2) = true := by decide +kernel
theorem sc_at {a v : Nat} (ha : a < 64) (hv : v < 64) : sc (64 + v) (64 + a) = if v == a then 0 else if (v == a + 32 || a == v + 32) && (0 < a % 32 && a % 32 < 27) then 1 else 2 := by
  have := List.all_eq_true.mp (List.all_eq_true.mp sc_tab a (List.mem_range.mpr ha)) v (List.mem_range.mpr hv)
  exact eq_of_beq this
theorem step_ne {a v f : Nat} (hf1 : 1 ≤ f) (hf : f < 64) (h : a + f = v ∨ a + f = v + 64) : v ≠ a := by omega
theorem step_32 {a v f : Nat} (ha : a < 64) (hv : v < 64) (hf : f < 64) (h : a + f = v ∨ a + f = v + 64) : (v = a + 32 ∨ a = v + 32) ↔ f = 32 := by omega
theorem sc_64 {a v f : Nat} (ha : a < 64) (hv : v < 64) (hf1 : 1 ≤ f) (hf : f < 64) (h : a + f = v ∨ a + f = v + 64) : sc (64 + v) (64 + a) = if f = 32 ∧ 0 < a % 32 ∧ a % 32 < 27 then 1 else 2 := by
  have h1 := step_32 ha hv hf h
  rw [sc_at ha hv, if_neg (by simpa using step_ne hf1 hf h)]
  by_cases hl : f = 32 ∧ 0 < a % 32 ∧ a % 32 < 27
  · rw [if_pos hl, if_pos]
    simp only [Bool.and_eq_true, Bool.or_eq_true, beq_iff_eq, decide_eq_true_eq]
    exact ⟨h1.mpr hl.1, hl.2⟩
  · rw [if_neg hl, if_neg]
    simp only [Bool.and_eq_true, Bool.or_eq_true, beq_iff_eq, decide_eq_true_eq]
    exact fun x => hl ⟨h1.mp x.1, x.2⟩
theorem sc_raw {a v f : Nat} (hf1 : 1 ≤ f) (hv : v < 64) (ha : a < 64) (hf : f < 64) (h : a + f = v ∨ a + f = v + 64) : sc v a = 2 := by
  refine sc_two ?_
  rw [low_of (by omega), low_of (by omega)]
  omega
theorem lowc_at {c : Nat} (h : c = 64 ∨ c = 127) : lowc c = c := by unfold lowc; rw [if_neg (by omega)]
theorem lowc_ne {c d : Nat} (h : d = 64 ∨ d = 127) (hc : c ≠ d) : lowc c ≠ d := by unfold lowc; split <;> omega
end Mine
end
section
set_option maxRecDepth 100000
set_option maxHeartbeats 8000000
namespace Mine
theorem if_le (c : Prop) [Decidable c] : (1 : Int) ≤ if c then 1 else 2 := by split <;> decide
theorem apart_one {P S : List Nat} {ca cv : Nat} {x y : List Nat} {due : Int} (hx : x = P ++ ([ca] ++ S)) (hy : y = P ++ ([cv] ++ S)) (hP : P.length ≤ 100) (hS : S.length ≤ 100) (ha : ca < 128) (hv : cv < 128) (h1 : 1 ≤ sc cv ca) (hd : due = sc cv ca) : Apart x y due :=
  ⟨P, [ca], [cv], S, 1, sc cv ca, hx, hy, rfl, rfl, by decide, hP, hS, costs_one h1, by simpa using ha, by simpa using hv, by rw [hd]; omega⟩
theorem mem_mid {d c a t z : Nat} (h : z ∈ d :: (List.replicate t c ++ [a])) : z = d ∨ z = c ∨ z = a := by
  rcases List.mem_cons.mp h with h | h
  · exact .inl h
  rcases List.mem_append.mp h with h | h
  · exact .inr (.inl (List.mem_replicate.mp h).2)
  · exact .inr (.inr (List.mem_singleton.mp h))
theorem apart_many {P S : List Nat} {cd c9 ca cd' c0 cv t : Nat} {x y : List Nat} {due : Int} (hx : x = P ++ ((cd :: (List.replicate t c9 ++ [ca])) ++ S)) (hy : y = P ++ ((cd' :: (List.replicate t c0 ++ [cv])) ++ S)) (ht : t ≤ 38) (hP : P.length ≤ 100) (hS : S.length ≤ 100)
    (b1 : cd < 128) (b2 : c9 < 128) (b3 : ca < 128) (b4 : cd' < 128) (b5 : c0 < 128) (b6 : cv < 128) (h0 : sc cd' cd = 2) (h1 : sc c0 c9 = 2) (h2 : sc c0 ca = 2) (h3 : sc cv c9 = 2) (h : 1 ≤ sc cv ca) (hd : due = 2 * ((t : Int) + 1) + sc cv ca) : Apart x y due := by
  refine ⟨P, _, _, S, t + 2, sc cv ca, hx, hy, by simp, by simp, by omega, hP, hS, costs_many h0 h1 h2 h3 h, fun z hz => ?_, fun z hz => ?_, by rw [hd]; omega⟩
  · rcases mem_mid hz with rfl | rfl | rfl <;> assumption
  · rcases mem_mid hz with rfl | rfl | rfl <;> assumption
theorem sc_low {x y : Nat} (hx : x < 65) (hy : y < 65) (h : x ≠ y) : sc x y = 2 := sc_two (by rw [low_of hx, low_of hy]; exact h)
theorem lt_at {c k m b : Nat} (h : k < m) (hm : c + m ≤ b) : c + k < b := Nat.lt_of_lt_of_le (Nat.add_lt_add_left h c) hm
theorem ne_at {c k m : Nat} (h : k ≠ m) : c + k ≠ c + m := fun e => h (Nat.add_left_cancel e)
theorem sc_48 {a b : Nat} (ha : a < 10) (hb : b < 10) (h : a ≠ b) : sc (48 + a) (48 + b) = 2 := sc_low (lt_at ha (by decide)) (lt_at hb (by decide)) (ne_at h)
theorem add_ne {a f : Nat} (h : 1 ≤ f) : a + f ≠ a := by omega
theorem carry_ne {a f v b : Nat} (h : a + f = v + b) (hf : f < b) : v ≠ a ∧ 0 ≠ a ∧ v + 1 < a + 2 := by omega
theorem carry_hi {a f v b : Nat} (h : a + f = v + b) (hf : f < b) (ha : a < b) : v < b ∧ v ≠ b - 1 := by omega
theorem le100 {p W : Nat} (h : p < W) (hW : W ≤ 40) : p ≤ 100 := by omega
theorem le38 {P t W : Nat} (h : P + t + 2 ≤ W) (hW : W ≤ 40) : t ≤ 38 := by omega
theorem map_le {P : List Nat} {g : Nat → Nat} (h : P.length ≤ 100) : (P.map g).length ≤ 100 := by rw [List.length_map]; exact h
theorem apart_10 {W p f n : Nat} (hf1 : 1 ≤ f) (hf : f < 10) (hp : p < W) (hW : W ≤ 40) (hfit : n + f * 10 ^ p < 10 ^ W) : Apart (ctext 10 W n) (ctext 10 W (n + f * 10 ^ p)) (duev 10 p f n (n + f * 10 ^ p)) := by
  obtain ⟨P, S, hS, hP, h⟩ := dig_step (b := 10) (by decide) hf1 hf hp hfit
  have ha := Nat.mod_lt (n / 10 ^ p) (show 0 < 10 by decide)
  have nl : ¬ Letter 10 p f n := fun h => absurd h.1 (by decide)
  have hP' := map_le (g := (48 + ·)) (le100 hP hW)
  have hS' := map_le (g := (48 + ·)) (P := S) (hS ▸ le100 hp hW)
  generalize n / 10 ^ p % 10 = a at *
  rcases h with ⟨hlt, d1, d2, hd⟩ | ⟨d, t, v, hv, hd1, hlen, d1, d2, hd⟩
  · have e2 : sc (48 + (a + f)) (48 + a) = 2 := sc_48 hlt ha (add_ne hf1)
    refine apart_one (P := P.map (48 + ·)) (S := S.map (48 + ·)) (ca := 48 + a) (cv := 48 + (a + f)) ?_ ?_ hP' hS' (lt_at ha (by decide)) (lt_at hlt (by decide)) (by rw [e2]; decide) ?_
    · simp [ctext, d1]
    · simp [ctext, d2]
    · rw [due_none hd, if_neg nl, e2]
  · obtain ⟨n1, n2, -⟩ := carry_ne hv hf
    obtain ⟨n3, n4⟩ := carry_hi hv hf ha
    have hd0 := Nat.lt_of_succ_lt hd1
    have e2 : sc (48 + v) (48 + a) = 2 := sc_48 n3 ha n1
    refine apart_many (P := P.map (48 + ·)) (S := S.map (48 + ·)) (t := t) (cd := 48 + d) (c9 := 48 + 9) (ca := 48 + a) (cd' := 48 + (d + 1)) (c0 := 48 + 0) (cv := 48 + v) ?_ ?_ (le38 hlen hW) hP' hS' (lt_at hd0 (by decide)) (by decide) (lt_at ha (by decide)) (lt_at hd1 (by decide)) (by decide) (lt_at n3 (by decide)) (sc_48 hd1 hd0 (Nat.succ_ne_self d)) (by decide) (sc_48 (by decide) ha n2) (sc_48 n3 (by decide) n4) (by rw [e2]; decide) ?_
    · simp [ctext, d1]
    · simp [ctext, d2]
    · rw [due_some (by decide) hd, if_neg nl, e2]
/-- six bits a sign, 64 added to all but the last -/
def e64 : List Nat → List Nat
  | [] => []
  | [x] => [x]
  | x :: y :: r => (64 + x) :: e64 (y :: r)
theorem e64_app (A : List Nat) {B : List Nat} (h : B ≠ []) : e64 (A ++ B) = A.map (64 + ·) ++ e64 B := by
  induction A with
  | nil => rfl
  | cons a A ih =>
    cases hAB : A ++ B with
    | nil => exact absurd (List.append_eq_nil_iff.mp hAB).2 h
    | cons y r =>
      show e64 (a :: (A ++ B)) = _
      rw [hAB]
      show (64 + a) :: e64 (y :: r) = _
      rw [← hAB, ih]
      rfl
theorem ctext_64 (W n : Nat) : ctext 64 W n = e64 (dig 64 5 n) := by
  show (if (64 : Nat) = 10 then _ else _) = e64 (dig 64 4 (n / 64) ++ [n % 64])
  rw [if_neg (by decide), e64_app _ (by simp)]
  rfl
theorem e64_len (l : List Nat) : (e64 l).length = l.length := by
  match l with
  | [] => rfl
  | [x] => rfl
  | x :: y :: r => show (e64 (y :: r)).length + 1 = _; rw [e64_len (y :: r)]; rfl
theorem e64_mid {d c a t : Nat} : e64 (d :: (List.replicate t c ++ [a])) = (64 + d) :: (List.replicate t (64 + c) ++ [a]) := by
  have := e64_app (d :: List.replicate t c) (B := [a]) (by simp)
  simpa [e64] using this
theorem sc_next {d : Nat} (h : d + 1 < 64) : sc (64 + (d + 1)) (64 + d) = 2 := by
  rw [sc_64 (f := 1) (Nat.lt_of_succ_lt h) h (by decide) (by decide) (.inl rfl), if_neg (fun x => absurd x.1 (by decide))]
theorem low_ne {x c : Nat} (hx : x < 64) (hc : 64 ≤ c) : c ≠ x := by omega
theorem apart_64 {W p f n : Nat} (hf1 : 1 ≤ f) (hf : f < 64) (hp : p < 4) (hfit : n + f * 64 ^ p < 64 ^ 5) : Apart (ctext 64 W n) (ctext 64 W (n + f * 64 ^ p)) (duev 64 p f n (n + f * 64 ^ p)) := by
  obtain ⟨P, S, hS, hP, h⟩ := dig_step (b := 64) (W := 5) (by decide) hf1 hf (Nat.lt_succ_of_lt hp) hfit
  have ha := Nat.mod_lt (n / 64 ^ p) (show 0 < 64 by decide)
  have h32 := mod_32 (n / 64 ^ p)
  have hL : Letter 64 p f n ↔ (0 < p ∧ f = 32 ∧ 0 < n / 64 ^ p % 64 % 32 ∧ n / 64 ^ p % 64 % 32 < 27) := by
    rw [h32]; exact ⟨fun x => x.2, fun x => ⟨rfl, x⟩⟩
  have hP' := map_le (g := (64 + ·)) (le100 hP (by decide))
  have hS' : (e64 S).length ≤ 100 := by rw [e64_len, hS]; exact le100 hp (by decide)
  rw [ctext_64, ctext_64]
  clear hfit hP h32
  generalize n / 64 ^ p % 64 = a at *
  rcases Nat.eq_zero_or_pos p with hp0 | hp0
  · have nl : ¬ Letter 64 p f n := fun h => absurd hp0 (Nat.ne_of_gt (hL.mp h).1)
    obtain rfl : S = [] := List.eq_nil_of_length_eq_zero (hS.trans hp0)
    clear hL hS hS'
    rcases h with ⟨hlt, d1, d2, hd⟩ | ⟨d, t, v, hv, hd1, hlen, d1, d2, hd⟩
    · have e2 : sc (a + f) a = 2 := sc_raw hf1 hlt ha hf (.inl rfl)
      refine apart_one (P := P.map (64 + ·)) (S := []) (ca := a) (cv := a + f) ?_ ?_ hP' (Nat.zero_le _) (Nat.lt_trans ha (by decide)) (Nat.lt_trans hlt (by decide)) (by rw [e2]; decide) ?_
      · rw [d1, e64_app _ (by simp)]; rfl
      · rw [d2, e64_app _ (by simp)]; rfl
      · rw [due_none hd, if_neg nl, e2]
    · obtain ⟨n3, n4⟩ := carry_hi hv hf ha
      have e2 : sc v a = 2 := sc_raw hf1 n3 ha hf (.inr hv)
      refine apart_many (P := P.map (64 + ·)) (S := []) (t := t) (cd := 64 + d) (c9 := 127) (ca := a) (cd' := 64 + (d + 1)) (c0 := 64) (cv := v) ?_ ?_ (le38 hlen (by decide)) hP' (Nat.zero_le _) (lt_at (Nat.lt_of_succ_lt hd1) (by decide)) (by decide) (Nat.lt_trans ha (by decide)) (lt_at hd1 (by decide)) (by decide) (Nat.lt_trans n3 (by decide)) (sc_next hd1) (by decide) (sc_two ?_) (sc_two ?_) (by rw [e2]; decide) ?_
      · rw [d1, e64_app _ (by simp), List.append_nil, List.append_nil, e64_mid]
      · rw [d2, e64_app _ (by simp), List.append_nil, List.append_nil, e64_mid]
      · rw [lowc_at (.inl rfl), low_of (Nat.lt_succ_of_lt ha)]; exact low_ne ha (Nat.le_refl _)
      · rw [lowc_at (.inr rfl), low_of (Nat.lt_succ_of_lt n3)]; exact (low_ne n3 (by decide)).symm
      · rw [due_some (by decide) hd, if_neg nl, e2]
  · have hSn : S ≠ [] := fun e => by rw [e] at hS; exact absurd hS (Nat.ne_of_lt hp0)
    have hMS : ∀ M : List Nat, M ++ S ≠ [] := fun M e => hSn (List.append_eq_nil_iff.mp e).2
    clear hS
    rcases h with ⟨hlt, d1, d2, hd⟩ | ⟨d, t, v, hv, hd1, hlen, d1, d2, hd⟩
    · have e2 := sc_64 ha hlt hf1 hf (.inl rfl)
      refine apart_one (P := P.map (64 + ·)) (S := e64 S) (ca := 64 + a) (cv := 64 + (a + f)) ?_ ?_ hP' hS' (lt_at ha (by decide)) (lt_at hlt (by decide)) (by rw [e2]; exact if_le _) ?_
      · rw [d1, e64_app _ (hMS _), e64_app _ hSn]; rfl
      · rw [d2, e64_app _ (hMS _), e64_app _ hSn]; rfl
      · rw [due_none hd, e2]
        by_cases hl : Letter 64 p f n
        · rw [if_pos hl, if_pos (hL.mp hl).2]
        · rw [if_neg hl, if_neg fun x => hl (hL.mpr ⟨hp0, x⟩)]
    · obtain ⟨-, n2, -⟩ := carry_ne hv hf
      obtain ⟨n3, n4⟩ := carry_hi hv hf ha
      have e2 := sc_64 ha n3 hf1 hf (.inr hv)
      refine apart_many (P := P.map (64 + ·)) (S := e64 S) (t := t) (cd := 64 + d) (c9 := 64 + 63) (ca := 64 + a) (cd' := 64 + (d + 1)) (c0 := 64 + 0) (cv := 64 + v) ?_ ?_ (le38 hlen (by decide)) hP' hS' (lt_at (Nat.lt_of_succ_lt hd1) (by decide)) (by decide) (lt_at ha (by decide)) (lt_at hd1 (by decide)) (by decide) (lt_at n3 (by decide)) (sc_next hd1) (by decide) (sc_two ?_) (sc_two ?_) (by rw [e2]; exact if_le _) ?_
      · rw [d1, e64_app _ (hMS _), e64_app _ hSn]; simp
      · rw [d2, e64_app _ (hMS _), e64_app _ hSn]; simp
      · rw [lowc_at (.inl rfl)]
        exact fun e => lowc_ne (.inl rfl) (ne_at (c := 64) n2).symm e.symm
      · rw [lowc_at (.inr rfl)]
        exact lowc_ne (.inr rfl) (ne_at (c := 64) n4)
      · rw [due_some (by decide) hd, e2]
        by_cases hl : Letter 64 p f n
        · rw [if_pos hl, if_pos (hL.mp hl).2]
        · rw [if_neg hl, if_neg fun x => hl (hL.mpr ⟨hp0, x⟩)]
end Mine
end
section
open PySem PySem.W PyProof.Rows PySem.Calls
set_option maxRecDepth 100000
set_option maxHeartbeats 8000000
namespace Mine
theorem apart_up {x : Int} {n W : Nat} (hW : W ≤ 40) (h10 : n + wo x < 10 ^ W) (h64 : n + wo x < 64 ^ 5) : Apart (ctext (bs x) W n) (ctext (bs x) W (n + wo x)) (duev (bs x) (pl x) (fg x) n (n + wo x)) := by
  have h1 := fg_lo x
  have h2 := fg_hi x
  have h3 := pl_lt x
  unfold wo at *
  rcases bs_or x with e | e
  · rw [e] at h2 h10 h64 ⊢
    have hp : pl x < W := by
      have : 10 ^ pl x ≤ fg x * 10 ^ pl x := Nat.le_mul_of_pos_left _ h1
      exact (Nat.pow_lt_pow_iff_right (a := 10) (by decide)).mp (by omega)
    exact apart_10 h1 h2 hp hW h10
  · rw [e] at h2 h10 h64 ⊢
    exact apart_64 h1 h2 h3 h64
/-- the texts of a number and the next are apart as the step says -/
theorem apart_step {x : Int} {n n' W : Nat} (hn : n' = nx n x) (hW : W ≤ 40) (h10 : n < 10 ^ W) (h10' : n' < 10 ^ W) (h64 : n < 64 ^ 5) (h64' : n' < 64 ^ 5) :
    Apart (ctext (bs x) W n) (ctext (bs x) W n') (duev (bs x) (pl x) (fg x) (min n n') (max n n')) := by
  unfold nx at hn
  split at hn
  · rename_i hc
    have e : n = n' + wo x := by omega
    have e1 : min n n' = n' := by omega
    have e2 : max n n' = n := by omega
    rw [e1, e2]
    rw [e] at h10 h64 ⊢
    exact (apart_up hW h10 h64).swap
  · have e1 : min n n' = n := by omega
    have e2 : max n n' = n' := by omega
    rw [e1, e2]
    rw [hn] at h10' h64' ⊢
    exact apart_up hW h10' h64'
theorem lev_due {w : World} {dp un : Nat} {fr : Option (List Env)} {gd : Option (List Code)} {s : Shared} {Q E : Value → Shared → Prop} {mean : ExcName → Option Value} {mg mb : Str → Option Value} {x y : List Nat} {tx ty tz : Tok} {mc due : Int}
    (hA : Apart x y due) (X : (hd.heap_39 w.params).In s.heap) (T : Top hd.view_39 (looseW hd.view_39 []) mean mg mb s.heap) (hr : dp + 2 < recursionLimit) (hmc : due - 1 ≤ mc)
    (ret : ∀ t h' tk', s.heap.StaysIn h' → Q (.int due t) { s with heap := h', toks := tk' }) :
    wpAny (model PySem.Challenge.rw_ny0086_01.row.prog w) (Ar dp fr gd un) (call (.ref 42) [.str ⟨x.toArray⟩ tx, .str ⟨y.toArray⟩ ty, .int mc tz]) Q E s := by
  obtain ⟨P, M, M', S, n, lc, hx, hy, hM, hM', hn, hP, hS, hC, b1, b2, hd⟩ := hA
  subst hd
  exact lev_c X T hr (by rw [hx]) (by rw [hy]) hM hM' hn hP hS hC b1 b2 hmc ret
end Mine
end
section
open PySem PySem.W PyProof.Rows PySem.Calls
set_option maxRecDepth 100000
set_option maxHeartbeats 8000000
namespace Mine
theorem run_two {its : Array Value} {i : Nat} {a b : Value} (ha : its[i]? = some a) (hb : its[i + 1]? = some b) : (slicePick its (some ((i : Nat) : Int)) (some ((i + 2 : Nat) : Int)) none).toList = [a, b] := by
  have ha' : its.toList[i]? = some a := by rw [Array.getElem?_toList]; exact ha
  have hb' : its.toList[i + 1]? = some b := by rw [Array.getElem?_toList]; exact hb
  obtain ⟨h1, e1⟩ := List.getElem?_eq_some_iff.mp ha'
  obtain ⟨h2, e2⟩ := List.getElem?_eq_some_iff.mp hb'
  have hsz : i + 2 ≤ its.size := by rw [Array.length_toList] at h2; omega
  rw [slicePick_run _ _ _ hsz (by omega), List.toList_toArray, List.drop_eq_getElem_cons h1, List.drop_eq_getElem_cons h2, e1, e2, Nat.add_sub_cancel_left]
  rfl
section
variable {prog : Program} {w : World} {A : Around} {E : Value → Shared → Prop} {s : Shared} {h₀ : Heap} {L l : Addr} {m : Str → Option Value} {news : List (Addr × Obj)} {Q : Value → Shared → Prop}
theorem run_led {value slice : PySem.Expr} {its : Array Value} {c i : Nat} {a b : Value} {x y : Int} {u v : Tok} (F : Fr h₀ L s.heap m) (N : News h₀ L s.heap news) (hm : (l, W.listOf its c) ∈ news) (hx : x = ((i : Nat) : Int)) (hy : y = ((i + 2 : Nat) : Int)) (ha : its[i]? = some a) (hb : its[i + 1]? = some b) (hz : its.size ≤ 1000)
    (h : ∀ D h', Fr h₀ L h' m → News h₀ L h' ((D, W.listOf #[a, b] 0) :: news) → (∀ p ∈ news, p.1 < D) → Q (.ref D) { s with heap := h' })
    (hs : subscripted slice false (.ref l) (.ref s.heap.objs.size) = operate [.ref s.heap.objs.size, .ref l] (getItem (.ref l) (.ref s.heap.objs.size)) := by with_unfolding_all rfl) (ht : ∀ r, letTemporaryGo value (.ref l) r = pure () := by intro _; with_unfolding_all rfl) :
    wpAny (model prog w) A (subscriptTail value slice (.ref l) (.ref s.heap.objs.size)) Q E { s with heap := s.heap.push { cls := .type "slice", data := .fields #[.int x u, .int y v, .none] } } := by
  subst hx hy
  exact kmk_slice_lit F N ⟨_, (N _ hm).1, rfl, c, rfl⟩ (.int _ u) (.int _ v) (run_two ha hb) h hs ht (by rw [sizeLine_eq]; omega)
end
/-- how the choice of the two texts ends -/
def PairEnd (h₀ : Heap) (L : Addr) (m : Str → Option Value) (s : Shared) (all : List (Addr × Obj)) (x y : List Nat) (f : Flow) (s' : Shared) : Prop :=
  f = .next ∧ ∃ D c ta tb h tk, s' = { s with heap := h, toks := tk } ∧ Fr h₀ L h (fun z => if z = Str.ofString "pair" then some (.ref D) else m z) ∧ News h₀ L h ((D, W.listOf #[.str ⟨x.toArray⟩ ta, .str ⟨y.toArray⟩ tb] c) :: all)
theorem if_pair {M : Model} {A : Around} {E : Value → Shared → Prop} {s : Shared} {h₀ : Heap} {L : Addr} {m : Str → Option Value} {all : List (Addr × Obj)} {tree : Sem Flow} {Q : Flow → Shared → Prop} (x y : List Nat) (F : Fr h₀ L s.heap m) (N : News h₀ L s.heap all)
    (walk : wpAny M A tree (PairEnd h₀ L m s all x y) E s)
    (cont : ∀ D c ta tb h tk, Fr h₀ L h (fun z => if z = Str.ofString "pair" then some (.ref D) else m z) → News h₀ L h ((D, W.listOf #[.str ⟨x.toArray⟩ ta, .str ⟨y.toArray⟩ tb] c) :: all) → Q .next { s with heap := h, toks := tk }) :
    wpAny M A tree Q E s :=
  wpAny_mono walk (fun f s' h => by
    obtain ⟨rfl, D, c, ta, tb, h, tk, rfl, F', N'⟩ := h
    exact cont D c ta tb h tk F' N') fun _ _ x => x
theorem wid_nat (M : Nat) (no : Bool) : ∃ W : Nat, widv ((M : Nat) : Int) no = ((W : Nat) : Int) := by
  have := (wid_lo (M := M) (no := no)).2
  exact ⟨(widv ((M : Nat) : Int) no).toNat, by omega⟩
theorem numc_ten {n : Nat} (h : n < 1000000000) : (numc n).length ≤ 10 := (numc_pad 10 n (by omega) (by decide)).1
theorem six_get {nu : Nat → Nat} {c0 c1 c2 c3 c4 c5 : Tok} {i : Nat} (h : i ≤ 5) : ∃ t, #[Value.int (nu 0 : Nat) c0, .int (nu 1 : Nat) c1, .int (nu 2 : Nat) c2, .int (nu 3 : Nat) c3, .int (nu 4 : Nat) c4, .int (nu 5 : Nat) c5][i]? = some (.int ((nu i : Nat) : Int) t) := by
  rcases (show i = 0 ∨ i = 1 ∨ i = 2 ∨ i = 3 ∨ i = 4 ∨ i = 5 by omega) with rfl | rfl | rfl | rfl | rfl | rfl
  · exact ⟨_, rfl⟩
  · exact ⟨_, rfl⟩
  · exact ⟨_, rfl⟩
  · exact ⟨_, rfl⟩
  · exact ⟨_, rfl⟩
  · exact ⟨_, rfl⟩
theorem two_at {P : Nat → Value → Prop} {a b v : Value} {j : Nat} (h : #[a, b][j]? = some v) (ha : P 0 a) (hb : P 1 b) : P j v := by
  match j, h with
  | 0, h => simp at h; exact h ▸ ha
  | 1, h => simp at h; exact h ▸ hb
  | n + 2, h => simp at h
theorem two_of {P : Nat → Value → Prop} {ys : List Value} (hl : ys.length = 2) (h : ∀ j (y : Value), ys[j]? = some y → P j y) : ∃ a b, ys = [a, b] ∧ P 0 a ∧ P 1 b := by
  match ys, hl with
  | [a, b], _ => exact ⟨a, b, rfl, h 0 a rfl, h 1 b rfl⟩
theorem two_fits : (2 : Nat) ≤ sizeLine := by rw [sizeLine_eq]; decide
theorem zero_text : Str.ofString "0" = ⟨#[48]⟩ := by decide
theorem fold_zeros : ∀ (k : Nat) (l : List Nat), (List.replicate k (#[48] : Array Nat)).foldl (· ++ ·) l.toArray = (l ++ List.replicate k 48).toArray
  | 0, l => by simp
  | k + 1, l => by
    rw [List.replicate_succ, List.foldl_cons, show l.toArray ++ #[48] = (l ++ [48]).toArray by simp, fold_zeros k, List.append_assoc]
    rfl
theorem mul_zeros (k : Nat) : Txt.mul (Str.ofString "0") ((k : Nat) : Int) = ⟨(List.replicate k 48).toArray⟩ := by
  rw [zero_text]
  unfold Txt.mul
  by_cases h0 : ((k : Nat) : Int) < 1
  · obtain rfl : k = 0 := by omega
    rw [if_pos h0]; rfl
  · rw [if_neg h0]
    by_cases h1 : k = 1
    · subst h1; rfl
    · rw [if_neg (by simp [Str.length]; omega), Int.toNat_natCast]
      have := fold_zeros k []
      simp only [List.nil_append] at this
      exact congrArg _ this
theorem pad_eq {n W : Nat} (h : (numc n).length ≤ W) (hW : 1 ≤ W) : Txt.mul (Str.ofString "0") (((W : Nat) : Int) - ((Str.ofString (toString ((n : Nat) : Int))).length : Int)) ++ Str.ofString (toString ((n : Nat) : Int)) = ⟨(ctext 10 W n).toArray⟩ := by
  have e : ((W : Nat) : Int) - ((Str.ofString (toString ((n : Nat) : Int))).length : Int) = ((W - (numc n).length : Nat) : Int) := by rw [text_len]; omega
  rw [e, mul_zeros, text_eq]
  have := (numc_pad W n (numc_pow h) hW).2
  show (⟨(List.replicate (W - (numc n).length) 48).toArray ++ (numc n).toArray⟩ : Str) = _
  rw [List.append_toArray, this]
  rfl
theorem pair_end {h₀ h : Heap} {L D D2 : Addr} {m : Str → Option Value} {s : Shared} {o2 : Obj} {all : List (Addr × Obj)} {x y : List Nat} {ta tb : Tok} {c tk : Nat}
    (F : Fr h₀ L h (fun z => if z = Str.ofString "pair" then some (.ref D) else m z)) (N : News h₀ L h ((D, W.listOf #[.str ⟨x.toArray⟩ ta, .str ⟨y.toArray⟩ tb] c) :: (D2, o2) :: all)) : PairEnd h₀ L m s all x y .next { s with heap := h, toks := tk } := by
  refine ⟨rfl, D, c, ta, tb, h, tk, rfl, F, fun p hp => N p ?_⟩
  rcases List.mem_cons.mp hp with rfl | hp
  · exact .head _
  · exact .tail _ (.tail _ hp)
theorem ctext_oc (W n : Nat) : ctext 64 W n = [oc n 0, oc n 1, oc n 2, oc n 3, oc n 4] := by
  rw [oc_0, oc_1, oc_2, oc_3, oc_4]
  show (if (64 : Nat) = 10 then _ else _) = _
  rw [if_neg (by decide)]
  simp only [dig, List.nil_append, List.map_append, List.map_cons, List.map_nil, List.append_assoc, List.cons_append, Nat.div_div_eq_div_mul]
theorem five_row {n : Nat} {t0 t1 t2 t3 t4 : Tok} {j : Nat} {v : Value} (h : #[Value.int ((64 + n / 64 ^ 4 % 64 : Nat) : Int) t0, .int ((64 + n / 64 ^ 3 % 64 : Nat) : Int) t1, .int ((64 + n / 64 ^ 2 % 64 : Nat) : Int) t2, .int ((64 + n / 64 ^ 1 % 64 : Nat) : Int) t3, .int ((n % 64 : Nat) : Int) t4][j]? = some v) : ∃ t, v = .int ((oc n j : Nat) : Int) t := by
  match j, h with
  | 0, h => rw [oc_0]; exact ⟨t0, (Option.some.inj h).symm⟩
  | 1, h => rw [oc_1]; exact ⟨t1, (Option.some.inj h).symm⟩
  | 2, h => rw [oc_2]; exact ⟨t2, (Option.some.inj h).symm⟩
  | 3, h => rw [oc_3]; exact ⟨t3, (Option.some.inj h).symm⟩
  | 4, h => rw [oc_4]; exact ⟨t4, (Option.some.inj h).symm⟩
  | n + 5, h => simp at h
theorem five_strs {P : Nat → Value → Prop} {ys : List Value} (hl : ys.length = 5) (h : ∀ j (y : Value), ys[j]? = some y → P j y) : ∃ a b c d e, ys = [a, b, c, d, e] ∧ P 0 a ∧ P 1 b ∧ P 2 c ∧ P 3 d ∧ P 4 e := by
  obtain ⟨a, b, c, d, e, rfl⟩ := five_of hl
  exact ⟨a, b, c, d, e, rfl, h 0 a rfl, h 1 b rfl, h 2 c rfl, h 3 d rfl, h 4 e rfl⟩
theorem join5 (a b c d e : Nat) : Txt.join (Str.ofString "") [⟨#[a]⟩, ⟨#[b]⟩, ⟨#[c]⟩, ⟨#[d]⟩, ⟨#[e]⟩] = ⟨([a, b, c, d, e] : List Nat).toArray⟩ := by
  first | rfl | (with_unfolding_all rfl)
theorem join_led {prog : Program} {w : World} {A : Around} {E : Value → Shared → Prop} {s : Shared} {h₀ : Heap} {L D : Addr} {all : List (Addr × Obj)} {a b c d e k : Nat} {t ta tb tc td te : Tok} {Q : Value → Shared → Prop} (N : News h₀ L s.heap all)
    (hm : (D, W.listOf #[.str ⟨#[a]⟩ ta, .str ⟨#[b]⟩ tb, .str ⟨#[c]⟩ tc, .str ⟨#[d]⟩ td, .str ⟨#[e]⟩ te] k) ∈ all) (h : ∀ t' k', Q (.str ⟨([a, b, c, d, e] : List Nat).toArray⟩ t') { s with toks := k' }) :
    wpAny (model prog w) A (call (.builtin "str.join") [.str (Str.ofString "") t, .ref D]) Q E s := by
  refine join_listW (ys := [⟨#[a]⟩, ⟨#[b]⟩, ⟨#[c]⟩, ⟨#[d]⟩, ⟨#[e]⟩]) ⟨_, (N _ hm).1, rfl, _, rfl⟩ (.cons _ _ (.cons _ _ (.cons _ _ (.cons _ _ (.cons _ _ .nil))))) (by decide) (by simp [Str.length]) fun t' k' => ?_
  rw [join5]
  exact h t' k'
theorem menu3 (due : Int) (n : Nat) : due - 1 ≤ due + ([0, 1, -1] : List Int).getD n 0 := by
  match n with
  | 0 => show due - 1 ≤ due + 0; omega
  | 1 => show due - 1 ≤ due + 1; omega
  | 2 => show due - 1 ≤ due + -1; omega
  | n + 3 => show due - 1 ≤ due + 0; omega
end Mine
end
section
open PySem PySem.W PyProof.Rows PySem.Calls
set_option maxRecDepth 100000
set_option maxHeartbeats 8000000
namespace Mine
theorem reset_Law : True := by
  w_top off
  k_with_none
  trivial
theorem lawT : PySem.Challenge.rw_ny0086_01.Holds := hd (by
  k_with "call ref" => (refine stop ?_)
  k_with "subscriptTail" => ((with_reducible show wpAny _ _ (subscriptTail (Expr.List _ _) _ (Value.ref _) (Value.ref _)) _ _ _); (refine kba_turn (value' := PySem.Expr.Name (PySem.Str.ofString "_") ⟨0, 0, 0, 0⟩) (fun _ => rfl) ?_); (rename Fr _ _ _ _ => zF'); (rename News _ _ _ _ => zN'); (with_unfolding_all refine menu_slice (s := ⟨_, _, _, _, _⟩) zF' zN' (.cons _ _ (.cons _ _ (.cons _ _ (.cons _ _ (.cons _ _ (.cons _ _ .nil)))))) (by omega) (by decide) ?_); intro yD' yws' yh' yF' yN' yl1 yhI'; (try k_lt yl1); (try dsimp only))
  k_with "binaryOp FloorDiv int int" => (with_reducible refine floordiv_int (by assumption) ?_ (Or.inl (PyProof.noPylong_small (by first | assumption | omega))))
  k_with "eval ListComp" => (refine stop ?_)
  k_with "exec Assign cons ListComp" => (refine stop ?_)
  k_with "eval DictComp" => (refine stop ?_)
  k_with "call builtin:len" => k_extra "mine len"
  k_with "binaryOp Mult int int" => (with_reducible refine mul_int ?_ (IntMulOk.of_left two_bits))
  k_with "subscriptTail" => k_extra "mine sub"
  k_with "call builtin:max" => k_extra "mine max"
  k_with "binaryOp Mult ref int" => k_extra "mine mul"
  k_with "subscriptTail Name Slice ref ref" => k_extra "mine slice"
  k_with "call builtin:str.join" => k_extra "mine join"
  k_with "exec If" => k_extra "mine If"
  k_with "CompSrc" => (refine stop ?_)
  k_go0
  all_goals try k_fold
  rename_i w s0 s1 mg mb G Y fa o pm doc ho hg KX X V GL T B TE TW w11 w10 M w9 w8 hcd ns hs hlay0 hL1 hr1 hl2 w6 w5 sc vs w2 hL ra w1 r0 hI hr hc1 hc0 K0 hD h1 tk1 F ow oe left right N0 X0
  refine wpAny_mono (Q := LawEnd s1) ?walk ?fin (fun _ _ x => x)
  case fin =>
    rintro f s' ⟨rfl, L, h, tk, m, rfl, F9⟩
    clear X0 N0 F
    dsimp only [qk]
    k_end; wrow_close
  case walk =>
    clear qk G Y ho hg X V GL B TE TW M hcd hs hlay0 hr1 hl2 ra w1 r0 hr hD hc0
    k_steps
    refine go ?_
    (with_reducible rename Fr _ _ _ _ => FQ)
    (with_reducible rename News _ _ _ _ => NQ)
    (with_reducible rename IntsAre _ (_ ++ _) => hJ)
    have h6 := six (ns := ns)
    rw [Int.toNat_natCast] at hJ
    obtain ⟨x0, x1, x2, x3, x4, x5, hx⟩ := six_of h6
    rw [hx] at hJ
    obtain ⟨t0, t1, t2, t3, t4, t5, hws⟩ := ints6 hJ
    subst hws
    have NR := kst_newsOf (l' := [_, _, _]) NQ (List.forall_mem_cons.mpr ⟨.head _, List.forall_mem_cons.mpr ⟨.tail _ (.tail _ (.tail _ (.tail _ (.head _)))), List.forall_mem_cons.mpr ⟨.tail _ (.tail _ (.tail _ (.tail _ (.tail _ (.head _))))), List.forall_mem_nil _⟩⟩⟩)
    clear NQ h6 hx hJ
    k_dflt (refine' steps_c (d := _) (Frag.In.keeps KX FQ.keep) (Top.keeps T FQ.keep) ?k1 ⟨_, (NR _ (.head _)).1, rfl, 0, rfl⟩ ?_; (case k1 => decide))
    intro S L9 refs tups n' c h9 tk9 st9 hM N9
    obtain ⟨nu, hn0, hn5, st⟩ := hM.steps
    have F10 := FQ.keeps st9
    have N10 := news_join FQ NR st9 N9
    clear N9 NR FQ st9 hM
    obtain ⟨r1, r2, r3, r4, r5, rfl⟩ := five_of st.len
    obtain ⟨T5, ta, tb, tc, td, te, rfl, hT5⟩ := st.tup 4 _ rfl
    have N11 := kst_newsOf (l' := _ :: _ :: _ :: _ :: tups) N10 (List.forall_mem_cons.mpr ⟨.head _, List.forall_mem_cons.mpr ⟨.tail _ (List.mem_append_left _ hT5), List.forall_mem_cons.mpr ⟨List.mem_append_right _ (.tail _ (.head _)), List.forall_mem_cons.mpr ⟨List.mem_append_right _ (.tail _ (.tail _ (.head _))), fun p hp => .tail _ (List.mem_append_left _ hp)⟩⟩⟩⟩)
    clear N10 hT5
    dsimp only
    try k_fold
    k_steps
    refine go ?_
    (with_reducible rename Fr _ _ _ _ => FA)
    (with_reducible rename News _ _ _ _ => NA)
    refine LCg.ListComp_U (F₀ := FA) (by with_unfolding_all rfl) (by decide) (by rfl) (by decide) (by rfl) ?_
    k_steps
    refine go ?_
    refine src_pure (fun i v => ∃ t, v = .int ((nu i : Nat) : Int) t) rfl FA NA (.head _) five_fits ?turn ?fin
    case turn =>
      clear left right X0 ek
      intro g i ys v I oI C oC D m₂ h tk E' hi hv hC hx F' N'
      obtain ⟨T, ua, ub, uc, ud, ue, rfl, hT⟩ := st.at' i v (by simpa using hv)
      have N2 := news_cons N' (.tail _ (.tail _ (.tail _ (.tail _ (.tail _ (.tail _ (.tail _ hT)))))))
      clear FA NA N' hT
      k_steps
      exact CEnd.mk' F' N2 (fun p hp => .tail _ hp) ⟨_, rfl⟩
    case fin =>
      intro ys D h tk hl hV F' N' o1
      clear FA NA
      obtain ⟨a0, a1, a2, a3, a4, rfl⟩ := ints5_of hl hV
      clear hl hV
      k_steps
      refine go ?_
      (with_reducible rename Fr _ _ _ _ => FB)
      (with_reducible rename News _ _ _ _ => NB)
      k_dflt (refine assign_cell FB rfl (by with_unfolding_all rfl) (by with_unfolding_all rfl) (by rfl) (by intro n; rfl) (by intro h; rfl) (by decide) (by intro K C; rfl) (by rfl) (by rfl) ?_)
      k_steps
      refine ⟨_, _, _, rfl, rfl, FB, NB, .inr ⟨_, .head _, rfl, _, rfl⟩, six_fits, OctInv nu _, OctInv.zero, ?turn, ?fin⟩
      case turn =>
        clear left right X0 ek
        intro i ys nw v I oI C oC K oK D h tk E' hi hInv hv hK F' N' off
        obtain ⟨tv, rfl⟩ : ∃ t, v = .int ((nu i : Nat) : Int) t := six_at (f := nu) hv
        clear FB NB
        k_steps
        refine go ?_
        (with_reducible rename Fr _ _ _ _ => FC)
        (with_reducible rename News _ _ _ _ => NC)
        k_dflt (refine comp_tup FC (by with_unfolding_all rfl) (by decide) (by rfl) (by decide) (by rfl) ?_)
        k_steps
        (with_reducible rename Fr _ _ _ _ => FD)
        (with_reducible rename News _ _ _ _ => ND)
        refine src_tup (fun j y => ∃ t, y = .int ((64 + nu i / 64 ^ (4 - j) % 64 : Nat) : Int) t) rfl FD ND (.inr ⟨_, .head _, rfl, _, rfl⟩) four_fits ?turn2 ?fin2
        case turn2 =>
          clear FD ND
          intro g j zs u I' oI' C' oC' D' m' h' tk' E'' hj hu hC' hx' F' N'
          obtain ⟨p, tp, rfl, hp, hp1, hp4⟩ := place_at hu
          have hpw := pow_ne p
          have hpw2 := pow_small hp4
          k_steps
          refine CEnd.mk' (by assumption) (by assumption) (fun p hp => hp) ?_
          dsimp only
          rw [← hp]
          exact int_is (octet_eq _ _)
        case fin2 =>
          clear FD ND
          intro zs D2 h2 tk2 hl hV F2 N2 o12
          obtain ⟨b0, b1, b2, b3, rfl⟩ := ints4_of (f := fun j => 64 + nu i / 64 ^ (4 - j) % 64) hl hV
          clear hl hV
          dsimp only
          k_steps
          rename_i lR
          obtain ⟨-, -, -, lI, lC, lK, lD, -⟩ := lR
          (with_reducible rename Fr _ _ _ _ => FE)
          (with_reducible rename News _ _ _ _ => NE)
          rw [show ((nu i : Nat) : Int).fmod 64 = ((nu i % 64 : Nat) : Int) from fmod_nat _ 64] at NE
          exact KEnd.row FE NE (.head _) (fun p hp => .tail _ (.tail _ (.tail _ (.tail _ hp)))) off lI lC lK lD (.inr ⟨_, .tail _ (hInv.2.1 _ (.head _)), rfl, _, rfl⟩) (hInv.succ rfl)
      case fin =>
        intro ys nw hInv D h tk F' N' o1
        obtain ⟨hl6, hb, hrow⟩ := hInv
        have mw := hb _ (.tail _ (.tail _ (.tail _ (.tail _ (.tail _ (.head _))))))
        have me := hb _ (.tail _ (.tail _ (.tail _ (.tail _ (.tail _ (.tail _ (.head _)))))))
        have key : ∀ p ∈ nw, (∀ v, p.2.data ≠ .cell v) → p ∈ less (s1.heap.objs.size + 1 + 1) (s1.heap.objs.size + 1) nw := fun p hp hn => less_mem hp (off_cell N' (.tail _ mw) left (.tail _ hp) hn) (off_cell N' (.tail _ me) right (.tail _ hp) hn)
        have hT : ∀ i v, [r1, r2, r3, r4, Value.ref T5][i]? = some v → ∃ T ta tb tc td te, v = .ref T ∧ (T, tupN (nu i) (nu (i + 1)) ([x1, x2, x3, x4, x5].getD i 0) ta tb tc td te) ∈ less (s1.heap.objs.size + 1 + 1) (s1.heap.objs.size + 1) nw := by
          intro i v e
          obtain ⟨T, ta, tb, tc, td, te, e', hm⟩ := st.tup i v e
          exact ⟨T, ta, tb, tc, td, te, e', key _ (hb _ (.tail _ (.tail _ (.tail _ (.tail _ (.tail _ (.tail _ (.tail _ hm)))))))) (fun v => by intro h; cases h)⟩
        have hrow : ∀ j (y : Value), ys[j]? = some y → ∃ R t0 t1 t2 t3 t4 c, y = .ref R ∧ (R, rowO (nu j) t0 t1 t2 t3 t4 c) ∈ less (s1.heap.objs.size + 1 + 1) (s1.heap.objs.size + 1) nw := by
          intro j y e
          obtain ⟨R, t0, t1, t2, t3, t4, c, e', hm⟩ := hrow j y e
          exact ⟨R, t0, t1, t2, t3, t4, c, e', key _ hm (fun v => by intro h; cases h)⟩
        have NZ := kst_newsOf (l' := _ :: _ :: _ :: _ :: _ :: less (s1.heap.objs.size + 1 + 1) (s1.heap.objs.size + 1) nw) N' (List.forall_mem_cons.mpr ⟨.head _, List.forall_mem_cons.mpr ⟨.tail _ (hb _ (.head _)), List.forall_mem_cons.mpr ⟨.tail _ (hb _ (.tail _ (.tail _ (.tail _ (.head _))))), List.forall_mem_cons.mpr ⟨.tail _ mw, List.forall_mem_cons.mpr ⟨.tail _ me, fun p hp => .tail _ (less_sub hp)⟩⟩⟩⟩⟩)
        have hless : ∀ p ∈ less (s1.heap.objs.size + 1 + 1) (s1.heap.objs.size + 1) nw, p.1 ≠ s1.heap.objs.size + 1 + 1 ∧ p.1 ≠ s1.heap.objs.size + 1 := fun p hp => less_ne hp
        clear key mw me
        generalize less (s1.heap.objs.size + 1 + 1) (s1.heap.objs.size + 1) nw = tl at NZ hT hrow hless
        clear N' FB NB hb o1
        dsimp only
        k_steps
        refine go ?_
        (with_reducible rename Fr _ _ _ _ => FB)
        (with_reducible rename News _ _ _ _ => NB)
        k_dflt (refine LCg.Assign_ListComp_U (F₀ := FB) rfl (by with_unfolding_all rfl) (by with_unfolding_all rfl) (by decide) (by rfl) (by decide) (by rfl) (by rfl) (by rfl) ?_)
        k_steps
        refine go ?_
        refine src_pureA (fun i v => ∃ t, v = .int ((nu i : Nat) : Int) t) rfl FB NB (.head _) (by rw [List.size_toArray, hl6]; exact six_fits) ?turn ?fin
        case turn =>
          clear left right X0 ek
          intro g i zs v I oI C oC D' m₂ h tk E' hi hv hC hx F' N'
          obtain ⟨R, u0, u1, u2, u3, u4, uc, rfl, hR⟩ := hrow i v (by simpa using hv)
          have N2 := news_cons N' (.tail _ (.tail _ (.tail _ (.tail _ (.tail _ (.tail _ (.tail _ (.tail _ hR))))))))
          clear FB NB N' hR
          k_steps
          (with_reducible rename Fr _ _ _ _ => FE)
          (with_reducible rename News _ _ _ _ => NE)
          have hbs := bytes_oc (n := nu i) (by assumption) (by assumption) (by assumption) (by assumption) (by assumption)
          refine iter_bytes FE NE ?_
          intro It h2 F2 N2 lIt
          dsimp only
          k_steps
          refine go ?_
          k_dflt (refine' varint_c (n := nu i) KX T F2 N2 (fun p hp => Nat.ne_of_lt (lIt p hp)) ?k1 ?k2 hbs ?_)
          case k1 => decide
          case k2 =>
            have h9 : i < 6 := by rw [List.size_toArray, hl6] at hi; exact hi
            have h10 : i ≤ [x1, x2, x3, x4, x5].length := Nat.le_of_lt_succ h9
            have := st.bound (hn0 ▸ nm_lt _) (Nat.le_refl 5) i h10
            omega
          intro t9 h9 tk9 F9 N9
          exact CEnd.mk' F9 N9 (fun p hp => .tail _ hp) ⟨_, rfl⟩
        case fin =>
          intro zs D' h tk hl hV F' N' o1
          obtain ⟨c0, c1, c2, c3, c4, c5, rfl⟩ := ints6_of (by rw [hl, List.size_toArray, hl6]; rfl) hV
          clear hl hV FB NB o1
          dsimp only
          k_steps
          (with_reducible rename Fr _ _ _ _ => FE)
          (with_reducible rename News _ _ _ _ => NE)
          refine mul_one (z := 1 - nu 0 % 2) FE NE (par_eq _) (by omega) ?_
          intro D9 h9 F9 N9 l9
          dsimp only
          refine kmk_add_lit (zs := [.int (nu 0 : Nat) c0, .int (nu 1 : Nat) c1, .int (nu 2 : Nat) c2, .int (nu 3 : Nat) c3, .int (nu 4 : Nat) c4, .int (nu 5 : Nat) c5] ++ List.replicate (1 - nu 0 % 2) .none) F9 N9 ⟨_, (N9 _ (.tail _ (.tail _ (.head _)))).1, rfl, _, rfl⟩ ⟨_, (N9 _ (.head _)).1, rfl, _, rfl⟩ rfl ?_ ?sz
          case sz => rw [sizeLine_eq]; simp; omega
          clear FE NE l9
          intro D8 h8 F8 N8 l8
          clear F9 N9
          dsimp only
          have N7 := kst_newsOf (l' := _ :: _ :: _ :: _ :: _ :: _ :: _ :: tl) N8 (List.forall_mem_cons.mpr ⟨.head _, List.forall_mem_cons.mpr ⟨.tail _ (.tail _ (.tail _ (.head _))), List.forall_mem_cons.mpr ⟨.tail _ (.tail _ (.tail _ (.tail _ (.head _)))), List.forall_mem_cons.mpr ⟨.tail _ (.tail _ (.tail _ (.tail _ (.tail _ (.head _))))), List.forall_mem_cons.mpr ⟨.tail _ (.tail _ (.tail _ (.tail _ (.tail _ (.tail _ (.head _)))))), List.forall_mem_cons.mpr ⟨.tail _ (.tail _ (.tail _ (.tail _ (.tail _ (.tail _ (.tail _ (.head _))))))), List.forall_mem_cons.mpr ⟨.tail _ (.tail _ (.tail _ (.tail _ (.tail _ (.tail _ (.tail _ (.tail _ (.head _)))))))), fun p hp => .tail _ (.tail _ (.tail _ (.tail _ (.tail _ (.tail _ (.tail _ (.tail _ (.tail _ hp))))))))⟩⟩⟩⟩⟩⟩⟩)
          clear N8 l8
          k_dflt (refine store_cell _ F8 N7 (c := s1.heap.objs.size + 1) (by with_unfolding_all rfl) (.tail _ (.tail _ (.tail _ (.tail _ (.tail _ (.tail _ (.head _))))))) right (hr7 N7 right (Nat.ne_of_gt (Nat.lt_succ_self _)) hless) ?_ (by rfl) (by rfl))
          intro h6 oe' F6 N6 right'
          clear F8 N7 right X0
          dsimp only
          k_steps
          refine go ?_
          (with_reducible rename Fr _ _ _ _ => FG)
          (with_reducible rename News _ _ _ _ => NG)
          k_dflt (refine comp_dict (knd := intKind _ _) FG (by with_unfolding_all rfl) (by decide) (by rfl) (by decide) (by rfl) ?_)
          k_with "mine len" => refine stop ?_
          k_steps
          k_with_none
          k_with "call ref" => (refine stop ?_)
          k_with "subscriptTail" => ((with_reducible show wpAny _ _ (subscriptTail (Expr.List _ _) _ (Value.ref _) (Value.ref _)) _ _ _); (refine kba_turn (value' := PySem.Expr.Name (PySem.Str.ofString "_") ⟨0, 0, 0, 0⟩) (fun _ => rfl) ?_); (rename Fr _ _ _ _ => zF'); (rename News _ _ _ _ => zN'); (with_unfolding_all refine menu_slice (s := ⟨_, _, _, _, _⟩) zF' zN' (.cons _ _ (.cons _ _ (.cons _ _ (.cons _ _ (.cons _ _ (.cons _ _ .nil)))))) (by omega) (by decide) ?_); intro yD' yws' yh' yF' yN' yl1 yhI'; (try k_lt yl1); (try dsimp only))
          k_with "binaryOp FloorDiv int int" => (with_reducible refine floordiv_int (by assumption) ?_ (Or.inl (PyProof.noPylong_small (by first | assumption | omega))))
          k_with "eval ListComp" => (refine stop ?_)
          k_with "exec Assign cons ListComp" => (refine stop ?_)
          k_with "eval DictComp" => (refine stop ?_)
          k_with "call builtin:len" => k_extra "mine len"
          k_with "binaryOp Mult int int" => (with_reducible refine mul_int ?_ (IntMulOk.of_left two_bits))
          k_with "subscriptTail" => k_extra "mine sub"
          k_with "call builtin:max" => k_extra "mine max"
          k_with "binaryOp Mult ref int" => k_extra "mine mul"
          k_with "subscriptTail Name Slice ref ref" => k_extra "mine slice"
          k_with "call builtin:str.join" => k_extra "mine join"
          k_with "exec If" => k_extra "mine If"
          k_with "CompSrc" => (refine stop ?_)
          refine go ?_
          refine len_ent (n := 6 + (1 - nu 0 % 2)) NG (.tail _ (.head _)) (by simp; omega) (by omega) ?_
          dsimp only
          k_steps
          (with_reducible rename Fr _ _ _ _ => FH)
          (with_reducible rename News _ _ _ _ => NH)
          refine ⟨_, _, _, _, _, 6 + (1 - nu 0 % 2), _, rfl, rfl, FH, NH, (by assumption), ?sm, ?rs, ?sz, fun i => 2 * ((i : Nat) : Int), fun i y => ([Value.int (nu 0 : Nat) c0, .int (nu 1 : Nat) c1, .int (nu 2 : Nat) c2, .int (nu 3 : Nat) c3, .int (nu 4 : Nat) c4, .int (nu 5 : Nat) c5] ++ List.replicate (1 - nu 0 % 2) .none)[i]? = some y, ?inj, ?K, ?V, ?fin⟩
          case sm => exact small_one (by omega) (by omega) (by omega) (by omega)
          case rs => exact range_size _
          case sz => rw [sizeLine_eq]; omega
          case inj => intro i j e; have e' : 2 * ((i : Nat) : Int) = 2 * ((j : Nat) : Int) := e; omega
          case K =>
            intro i ti I oI C oC D oD m₂ h tk E' hi hC hx F' N'
            (with_reducible rename Fr _ _ h6 _ => FG)
            (with_reducible rename News _ _ h6 _ => NG)
            clear FH NH FG NG hT hrow hless left st hn5 hn0
            dsimp only [three] at N'
            k_steps
            exact CEnd.mk' (by assumption) (by assumption) (fun p hp => hp) (by simp [intKind, Value.isInt])
          case V =>
            intro i ti I oI C oC D oD m₂ h tk E' hi hC hx F' N'
            (with_reducible rename Fr _ _ h6 _ => FG)
            (with_reducible rename News _ _ h6 _ => NG)
            clear FH NH FG NG hT hrow hless left st hn5 hn0
            dsimp only [three] at N'
            k_with "mine sub" => refine stop ?_
            k_steps
            k_with_none
            k_with "call ref" => (refine stop ?_)
            k_with "subscriptTail" => ((with_reducible show wpAny _ _ (subscriptTail (Expr.List _ _) _ (Value.ref _) (Value.ref _)) _ _ _); (refine kba_turn (value' := PySem.Expr.Name (PySem.Str.ofString "_") ⟨0, 0, 0, 0⟩) (fun _ => rfl) ?_); (rename Fr _ _ _ _ => zF'); (rename News _ _ _ _ => zN'); (with_unfolding_all refine menu_slice (s := ⟨_, _, _, _, _⟩) zF' zN' (.cons _ _ (.cons _ _ (.cons _ _ (.cons _ _ (.cons _ _ (.cons _ _ .nil)))))) (by omega) (by decide) ?_); intro yD' yws' yh' yF' yN' yl1 yhI'; (try k_lt yl1); (try dsimp only))
            k_with "binaryOp FloorDiv int int" => (with_reducible refine floordiv_int (by assumption) ?_ (Or.inl (PyProof.noPylong_small (by first | assumption | omega))))
            k_with "eval ListComp" => (refine stop ?_)
            k_with "exec Assign cons ListComp" => (refine stop ?_)
            k_with "eval DictComp" => (refine stop ?_)
            k_with "call builtin:len" => k_extra "mine len"
            k_with "binaryOp Mult int int" => (with_reducible refine mul_int ?_ (IntMulOk.of_left two_bits))
            k_with "subscriptTail" => k_extra "mine sub"
            k_with "call builtin:max" => k_extra "mine max"
            k_with "binaryOp Mult ref int" => k_extra "mine mul"
            k_with "subscriptTail Name Slice ref ref" => k_extra "mine slice"
            k_with "call builtin:str.join" => k_extra "mine join"
            k_with "exec If" => k_extra "mine If"
            k_with "CompSrc" => (refine stop ?_)
            refine go ?_
            (with_reducible rename Fr _ _ _ _ => FI)
            (with_reducible rename News _ _ _ _ => NI)
            obtain ⟨v, hv⟩ := get_some (l := [Value.int (nu 0 : Nat) c0, .int (nu 1 : Nat) c1, .int (nu 2 : Nat) c2, .int (nu 3 : Nat) c3, .int (nu 4 : Nat) c4, .int (nu 5 : Nat) c5] ++ List.replicate (1 - nu 0 % 2) .none) (i := i) (by simp; omega)
            refine item_led (i := i) NI (.tail _ (.tail _ (.tail _ (.tail _ (.head _))))) rfl (by omega) (by rw [List.getElem?_toArray]; exact hv) ?_
            exact CEnd.mk' FI NI (fun p hp => hp) hv
          case fin =>
            intro D oD kvs h tk hkl hkv hD F' N' off lD
            clear FH NH
            (with_reducible rename Fr _ _ h6 _ => FG)
            (with_reducible rename News _ _ h6 _ => NG)
            clear FG NG
            have hvals := ents_vals (es := ents nu (1 - nu 0 % 2) c0 c1 c2 c3 c4 c5) (by rw [hkl]; simp; omega) fun i kv e => (hkv i kv e).2
            obtain ⟨ep, hDA⟩ := (Heap.dictOf_iff.mpr ⟨oD, (N' _ (.head _)).1, hD⟩).dictAt
            clear hkl hkv hD
            have hb9 : ∀ i, i ≤ 5 → nu i < 1000000000 := fun i hi => by have := st.bound (hn0 ▸ nm_lt _) (Nat.le_refl 5) i hi; omega
            have h01 : nu 0 ≠ 0 ∨ nu 1 ≠ 0 := by
              by_cases e : nu 0 = 0
              · exact .inr (by rw [st.succ 0 (Nat.zero_lt_succ _)]; exact nx_ne e)
              · exact .inl e
            dsimp only
            k_steps
            refine go ?_
            k_dflt (refine' width_c (Frag.In.keeps KX (Fr.keep (by assumption))) (Top.keeps T (Fr.keep (by assumption))) ?k1 hDA (sys_list hL lD) (ents_ok hvals) (ents_pos hvals h01) (ents_bd hvals hb9) ?_; (case k1 => decide))
            intro b tb h5 tk5 hbk hbm st5
            obtain ⟨M, rfl, hM⟩ := ents_max hvals hbk hbm
            rw [ents_any hvals]
            clear hbk hbm
            (with_reducible rename Fr _ _ _ _ => FJ)
            (with_reducible rename News _ _ _ _ => NJ)
            have F5 := FJ.keeps st5
            have N5 := news_stays NJ st5
            clear FJ NJ st5 hDA hvals off lD
            dsimp only
            k_dflt (refine store_cell (_ :: _ :: _ :: _ :: tl) F5 N5 (c := s1.heap.objs.size + 1 + 1) (by with_unfolding_all rfl) (.tail _ (.tail _ (.tail _ (.tail _ (.tail _ (.tail _ (.tail _ (.head _)))))))) left (rest4 N5 (.tail _ (.tail _ (.tail _ (.tail _ (.tail _ (.tail _ (.tail _ (.head _)))))))) left (.tail _ (.tail _ (.tail _ (.head _)))) (.tail _ (.tail _ (.tail _ (.tail _ (.head _))))) (.tail _ (.tail _ (.tail _ (.tail _ (.tail _ (.head _)))))) (.tail _ (.tail _ (.tail _ (.tail _ (.tail _ (.tail _ (.head _))))))) fun p hp => ⟨.tail _ (.tail _ (.tail _ (.tail _ (.tail _ (.tail _ (.tail _ (.tail _ hp))))))), (hless p hp).1⟩) ?_ (by rfl) (by rfl))
            intro h4 ow' F4 N4 left'
            clear F5 N5 left right'
            dsimp only
            k_with "mine max" => refine stop ?_
            k_steps
            refine go ?_
            (with_reducible rename Fr _ _ _ _ => FK)
            (with_reducible rename News _ _ _ _ => NK)
            refine max_list rfl FK NK (.tail _ (.tail _ (.tail _ (.head _)))) (.cons _ _ (.cons _ _ (.cons _ _ (.cons _ _ (.cons _ _ (.cons _ _ .nil)))))) (Nat.zero_lt_succ _) ?_
            intro b2 t2 h2 tk2 hb2 hm2 F2 N2
            obtain ⟨M2, rfl, hM2⟩ := nums_max hb2 hm2
            obtain rfl := hM.uniq hM2
            clear hb2 hm2 hM2 FK NK
            have hM9 : M < 1000000000 := by obtain ⟨⟨i, hi, e⟩, -⟩ := hM; rw [← e]; exact hb9 i hi
            dsimp only
            k_steps
            refine go ?_
            (with_reducible rename Fr _ _ _ _ => FK)
            (with_reducible rename News _ _ _ _ => NK)
            (with_reducible rename IntsAre _ (_ ++ List.flatten _) => hJ)
            have hJ2 := ints_four (n := nu 0) hJ
            refine max_list rfl FK NK (.head _) (by rw [List.toList_toArray]; exact hJ2) (by simp) ?_
            intro b3 t3 h3 tk3 hb3 hm3 F3 N3
            obtain rfl := wid_eq (by omega) hb3 hm3
            clear hb3 hm3 hJ hJ2 FK NK
            have N3' := kst_newsOf (l' := _ :: _ :: _ :: _ :: _ :: tl) N3 (List.forall_mem_cons.mpr ⟨.tail _ (.tail _ (.tail _ (.tail _ (.head _)))), List.forall_mem_cons.mpr ⟨.tail _ (.tail _ (.tail _ (.tail _ (.tail _ (.head _))))), List.forall_mem_cons.mpr ⟨.tail _ (.tail _ (.tail _ (.tail _ (.tail _ (.tail _ (.head _)))))), List.forall_mem_cons.mpr ⟨.tail _ (.tail _ (.tail _ (.tail _ (.tail _ (.tail _ (.tail _ (.head _))))))), List.forall_mem_cons.mpr ⟨.tail _ (.tail _ (.tail _ (.tail _ (.tail _ (.tail _ (.tail _ (.tail _ (.head _)))))))), fun p hp => .tail _ (.tail _ (.tail _ (.tail _ (.tail _ (.tail _ (.tail _ (.tail _ (.tail _ hp))))))))⟩⟩⟩⟩⟩)
            clear N3
            dsimp only
            k_with_none
            k_with "call ref" => (refine stop ?_)
            k_with "subscriptTail" => ((with_reducible show wpAny _ _ (subscriptTail (Expr.List _ _) _ (Value.ref _) (Value.ref _)) _ _ _); (refine kba_turn (value' := PySem.Expr.Name (PySem.Str.ofString "_") ⟨0, 0, 0, 0⟩) (fun _ => rfl) ?_); (rename Fr _ _ _ _ => zF'); (rename News _ _ _ _ => zN'); (with_unfolding_all refine menu_slice (s := ⟨_, _, _, _, _⟩) zF' zN' (.cons _ _ (.cons _ _ (.cons _ _ (.cons _ _ (.cons _ _ (.cons _ _ .nil)))))) (by omega) (by decide) ?_); intro yD' yws' yh' yF' yN' yl1 yhI'; (try k_lt yl1); (try dsimp only))
            k_with "binaryOp FloorDiv int int" => (with_reducible refine floordiv_int (by assumption) ?_ (Or.inl (PyProof.noPylong_small (by first | assumption | omega))))
            k_with "eval ListComp" => (refine stop ?_)
            k_with "exec Assign cons ListComp" => (refine stop ?_)
            k_with "eval DictComp" => (refine stop ?_)
            k_with "call builtin:len" => k_extra "mine len"
            k_with "binaryOp Mult int int" => (with_reducible refine mul_int ?_ (IntMulOk.of_left two_bits))
            k_with "subscriptTail" => k_extra "mine sub"
            k_with "call builtin:max" => k_extra "mine max"
            k_with "binaryOp Mult ref int" => k_extra "mine mul"
            k_with "subscriptTail Name Slice ref ref" => k_extra "mine slice"
            k_with "call builtin:str.join" => k_extra "mine join"
            k_with "exec If" => k_extra "mine If"
            k_with "CompSrc" => (refine stop ?_)
            k_with "pyIter ref" => refine stop ?_
            k_steps
            k_with_none
            k_with "call ref" => (refine stop ?_)
            k_with "subscriptTail" => ((with_reducible show wpAny _ _ (subscriptTail (Expr.List _ _) _ (Value.ref _) (Value.ref _)) _ _ _); (refine kba_turn (value' := PySem.Expr.Name (PySem.Str.ofString "_") ⟨0, 0, 0, 0⟩) (fun _ => rfl) ?_); (rename Fr _ _ _ _ => zF'); (rename News _ _ _ _ => zN'); (with_unfolding_all refine menu_slice (s := ⟨_, _, _, _, _⟩) zF' zN' (.cons _ _ (.cons _ _ (.cons _ _ (.cons _ _ (.cons _ _ (.cons _ _ .nil)))))) (by omega) (by decide) ?_); intro yD' yws' yh' yF' yN' yl1 yhI'; (try k_lt yl1); (try dsimp only))
            k_with "binaryOp FloorDiv int int" => (with_reducible refine floordiv_int (by assumption) ?_ (Or.inl (PyProof.noPylong_small (by first | assumption | omega))))
            k_with "eval ListComp" => (refine stop ?_)
            k_with "exec Assign cons ListComp" => (refine stop ?_)
            k_with "eval DictComp" => (refine stop ?_)
            k_with "call builtin:len" => k_extra "mine len"
            k_with "binaryOp Mult int int" => (with_reducible refine mul_int ?_ (IntMulOk.of_left two_bits))
            k_with "subscriptTail" => k_extra "mine sub"
            k_with "call builtin:max" => k_extra "mine max"
            k_with "binaryOp Mult ref int" => k_extra "mine mul"
            k_with "subscriptTail Name Slice ref ref" => k_extra "mine slice"
            k_with "call builtin:str.join" => k_extra "mine join"
            k_with "exec If" => k_extra "mine If"
            k_with "CompSrc" => (refine stop ?_)
            · exact absurd rfl (by assumption)
            refine go ?_
            obtain ⟨W, hW⟩ := wid_nat M (decide (0 < 1 - nu 0 % 2))
            have hW1 := wid_lo (M := M) (no := decide (0 < 1 - nu 0 % 2))
            have hW2 := wid_hi (M := M) (no := decide (0 < 1 - nu 0 % 2)) (numc_ten hM9)
            rw [hW] at left' hW1 hW2
            have hnl : ∀ j, j ≤ 5 → (numc (nu j)).length ≤ W := fun j hj => by have := numc_mono (hM.2 j hj); omega
            with_unfolding_all refine' kst_range (n := 5) (σ := Unit) (fun _ => (_, _) :: (_, _) :: (_, _) :: (_, _) :: (_, _) :: tl) (fun _ => []) (fun _ => True) [Str.ofString "pair", Str.ofString "due", Str.ofString "bound", Str.ofString "told"] (fun _ _ => True) () ?z1 ?z2 ?z6 ?z7 ?z3 ?z4 trivial ?z5 trivial ?_ ?_
            case z1 => rfl
            case z2 => (with_reducible rename IsRange _ _ _ _ _ _ _ _ => rgX); exact rgX
            case z3 => (with_reducible rename Fr _ _ _ _ => rgX); exact rgX
            case z4 => (with_reducible rename News _ _ _ _ => rgX); exact rgX
            case z6 => decide
            case z7 => rfl
            case z5 => intro p hp; cases hp
            · rintro ⟨⟩ pre k t u h9 tk9 own hk hlt hoff _ _ F9 N9
              replace F9 : Fr s1.heap s1.heap.objs.size h9 _ := F9
              obtain ⟨i, hi⟩ : ∃ i, i = pre.length := ⟨_, rfl⟩
              rw [← hi] at hk hlt
              obtain rfl : k = ((i : Nat) : Int) := by omega
              obtain ⟨v, hv⟩ := get_some (l := [r1, r2, r3, r4, Value.ref T5]) (i := i) hlt
              obtain ⟨TT, ua, ub, uc, ud, ue, rfl, hTm⟩ := hT i v hv
              obtain ⟨x, hx⟩ : ∃ x, x = [x1, x2, x3, x4, x5].getD i 0 := ⟨_, rfl⟩
              have hnx : nu (i + 1) = nx (nu i) x := by rw [hx]; exact st.succ i hlt
              rw [← hx] at hTm
              have N8 := news_cons (show News s1.heap s1.heap.objs.size h9 (_ :: _ :: _ :: _ :: _ :: (tl ++ own)) from N9) (.tail _ (.tail _ (.tail _ (.tail _ (.tail _ (List.mem_append_left _ hTm))))))
              have hap := apart_step hnx (W := W) (by omega) (numc_pow (hnl i (by omega))) (numc_pow (hnl (i + 1) (by omega))) (by have := hb9 i (by omega); omega) (by have := hb9 (i + 1) (by omega); omega)
              have hrow2 : ∀ j (y : Value), ys[j]? = some y → ∃ R t0 t1 t2 t3 t4 c, y = .ref R ∧ (R, rowO (nu j) t0 t1 t2 t3 t4 c) ∈ tl ++ own := fun j y e => by
                obtain ⟨R, t0, t1, t2, t3, t4, c, e', hm⟩ := hrow j y e
                exact ⟨R, t0, t1, t2, t3, t4, c, e', List.mem_append_left _ hm⟩
              clear N9 hT hrow st
              obtain ⟨tl2, e2⟩ : ∃ l, l = tl ++ own := ⟨_, rfl⟩
              rw [← e2] at N8 hrow2
              dsimp only at F9 ⊢
              try k_fold
              k_with "mine If" => refine stop ?_
              k_steps
              k_with_none
              k_with "call ref" => (refine stop ?_)
              k_with "subscriptTail" => ((with_reducible show wpAny _ _ (subscriptTail (Expr.List _ _) _ (Value.ref _) (Value.ref _)) _ _ _); (refine kba_turn (value' := PySem.Expr.Name (PySem.Str.ofString "_") ⟨0, 0, 0, 0⟩) (fun _ => rfl) ?_); (rename Fr _ _ _ _ => zF'); (rename News _ _ _ _ => zN'); (with_unfolding_all refine menu_slice (s := ⟨_, _, _, _, _⟩) zF' zN' (.cons _ _ (.cons _ _ (.cons _ _ (.cons _ _ (.cons _ _ (.cons _ _ .nil)))))) (by omega) (by decide) ?_); intro yD' yws' yh' yF' yN' yl1 yhI'; (try k_lt yl1); (try dsimp only))
              k_with "binaryOp FloorDiv int int" => (with_reducible refine floordiv_int (by assumption) ?_ (Or.inl (PyProof.noPylong_small (by first | assumption | omega))))
              k_with "eval ListComp" => (refine stop ?_)
              k_with "exec Assign cons ListComp" => (refine stop ?_)
              k_with "eval DictComp" => (refine stop ?_)
              k_with "call builtin:len" => k_extra "mine len"
              k_with "binaryOp Mult int int" => (with_reducible refine mul_int ?_ (IntMulOk.of_left two_bits))
              k_with "subscriptTail" => k_extra "mine sub"
              k_with "call builtin:max" => k_extra "mine max"
              k_with "binaryOp Mult ref int" => k_extra "mine mul"
              k_with "subscriptTail Name Slice ref ref" => k_extra "mine slice"
              k_with "call builtin:str.join" => k_extra "mine join"
              k_with "exec If" => k_extra "mine If"
              k_with "CompSrc" => (refine stop ?_)
              refine go ?_
              (with_reducible rename Fr _ _ h9 _ => FL)
              (with_reducible rename News _ _ h9 _ => NL)
              refine if_pair (ctext (bs x) W (nu i)) (ctext (bs x) W (nu (i + 1))) FL NL ?walk ?cont
              case walk =>
                rcases bs_or x with eb | eb
                · have hb10 : ((bs x : Nat) : Int) = 10 := by rw [eb]; rfl
                  k_with "mine sub" => refine stop ?_
                  k_steps
                  k_with_none
                  k_with "call ref" => (refine stop ?_)
                  k_with "subscriptTail" => ((with_reducible show wpAny _ _ (subscriptTail (Expr.List _ _) _ (Value.ref _) (Value.ref _)) _ _ _); (refine kba_turn (value' := PySem.Expr.Name (PySem.Str.ofString "_") ⟨0, 0, 0, 0⟩) (fun _ => rfl) ?_); (rename Fr _ _ _ _ => zF'); (rename News _ _ _ _ => zN'); (with_unfolding_all refine menu_slice (s := ⟨_, _, _, _, _⟩) zF' zN' (.cons _ _ (.cons _ _ (.cons _ _ (.cons _ _ (.cons _ _ (.cons _ _ .nil)))))) (by omega) (by decide) ?_); intro yD' yws' yh' yF' yN' yl1 yhI'; (try k_lt yl1); (try dsimp only))
                  k_with "binaryOp FloorDiv int int" => (with_reducible refine floordiv_int (by assumption) ?_ (Or.inl (PyProof.noPylong_small (by first | assumption | omega))))
                  k_with "eval ListComp" => (refine stop ?_)
                  k_with "exec Assign cons ListComp" => (refine stop ?_)
                  k_with "eval DictComp" => (refine stop ?_)
                  k_with "call builtin:len" => k_extra "mine len"
                  k_with "binaryOp Mult int int" => (with_reducible refine mul_int ?_ (IntMulOk.of_left two_bits))
                  k_with "subscriptTail" => k_extra "mine sub"
                  k_with "call builtin:max" => k_extra "mine max"
                  k_with "binaryOp Mult ref int" => k_extra "mine mul"
                  k_with "subscriptTail Name Slice ref ref" => k_extra "mine slice"
                  k_with "call builtin:str.join" => k_extra "mine join"
                  k_with "exec If" => k_extra "mine If"
                  k_with "CompSrc" => (refine stop ?_)
                  refine go ?_
                  refine item_led (i := i) NL (.tail _ (.tail _ (.tail _ (.tail _ (.tail _ (.head _)))))) rfl (by omega) (by rw [List.getElem?_toArray]; exact hv) ?_
                  k_steps
                  · refine go ?_
                    (with_reducible rename Fr _ _ _ _ => FP)
                    (with_reducible rename News _ _ _ _ => NP)
                    k_dflt (refine LCg.Assign_ListComp_U (F₀ := FP) rfl (by with_unfolding_all rfl) (by with_unfolding_all rfl) (by decide) (by rfl) (by decide) (by rfl) (by rfl) (by rfl) ?_)
                    k_with "mine slice" => refine stop ?_
                    k_steps
                    k_with_none
                    k_with "call ref" => (refine stop ?_)
                    k_with "subscriptTail" => ((with_reducible show wpAny _ _ (subscriptTail (Expr.List _ _) _ (Value.ref _) (Value.ref _)) _ _ _); (refine kba_turn (value' := PySem.Expr.Name (PySem.Str.ofString "_") ⟨0, 0, 0, 0⟩) (fun _ => rfl) ?_); (rename Fr _ _ _ _ => zF'); (rename News _ _ _ _ => zN'); (with_unfolding_all refine menu_slice (s := ⟨_, _, _, _, _⟩) zF' zN' (.cons _ _ (.cons _ _ (.cons _ _ (.cons _ _ (.cons _ _ (.cons _ _ .nil)))))) (by omega) (by decide) ?_); intro yD' yws' yh' yF' yN' yl1 yhI'; (try k_lt yl1); (try dsimp only))
                    k_with "binaryOp FloorDiv int int" => (with_reducible refine floordiv_int (by assumption) ?_ (Or.inl (PyProof.noPylong_small (by first | assumption | omega))))
                    k_with "eval ListComp" => (refine stop ?_)
                    k_with "exec Assign cons ListComp" => (refine stop ?_)
                    k_with "eval DictComp" => (refine stop ?_)
                    k_with "call builtin:len" => k_extra "mine len"
                    k_with "binaryOp Mult int int" => (with_reducible refine mul_int ?_ (IntMulOk.of_left two_bits))
                    k_with "subscriptTail" => k_extra "mine sub"
                    k_with "call builtin:max" => k_extra "mine max"
                    k_with "binaryOp Mult ref int" => k_extra "mine mul"
                    k_with "subscriptTail Name Slice ref ref" => k_extra "mine slice"
                    k_with "call builtin:str.join" => k_extra "mine join"
                    k_with "exec If" => k_extra "mine If"
                    k_with "CompSrc" => (refine stop ?_)
                    refine go ?_
                    (with_reducible rename Fr _ _ _ _ => FP)
                    (with_reducible rename News _ _ _ _ => NP)
                    obtain ⟨q0, hq0⟩ := six_get (nu := nu) (c0 := c0) (c1 := c1) (c2 := c2) (c3 := c3) (c4 := c4) (c5 := c5) (i := i) (by omega)
                    obtain ⟨q1, hq1⟩ := six_get (nu := nu) (c0 := c0) (c1 := c1) (c2 := c2) (c3 := c3) (c4 := c4) (c5 := c5) (i := i + 1) (by omega)
                    with_unfolding_all refine run_led (s := ⟨_, _, _, _, _⟩) (i := i) FP NP (.tail _ (.tail _ (.head _))) rfl (by omega) hq0 hq1 (show (6 : Nat) ≤ 1000 by decide) ?_
                    intro D2 h2' F2' N2' l2'
                    clear FP NP l2'
                    dsimp only
                    k_steps
                    refine go ?_
                    refine src_pureA (fun j v => ∃ t, v = .str ⟨(ctext 10 W (nu (i + j))).toArray⟩ t) rfl F2' N2' (.head _) two_fits ?turn10 ?fin10
                    case turn10 =>
                      clear ek
                      intro g j zs v I oI C oC D3 m₂ h tk E' hj hvj hC hxx F' N'
                      clear F2' N2'
                      have hj2 : j < 2 := hj
                      obtain ⟨tv, rfl⟩ : ∃ t, v = .int ((nu (i + j) : Nat) : Int) t := two_at (P := fun j v => ∃ t, v = .int ((nu (i + j) : Nat) : Int) t) hvj ⟨_, rfl⟩ ⟨_, rfl⟩
                      have hnb := hb9 (i + j) (by omega)
                      have hnj := hnl (i + j) (by omega)
                      k_steps
                      exact CEnd.mk' (by assumption) (by assumption) (fun p hp => hp) ⟨_, by rw [pad_eq hnj (by omega)]⟩
                    case fin10 =>
                      intro zs D3 h tk hl hV F' N' o1
                      obtain ⟨z0, z1, rfl, ⟨s0, rfl⟩, s1', rfl⟩ := two_of hl hV
                      clear hl hV F2' N2'
                      dsimp only
                      k_steps
                      rw [eb]
                      exact pair_end F' N'
                  · exact absurd hb10 (by assumption)
                · have hb64 : ((bs x : Nat) : Int) = 64 := by rw [eb]; rfl
                  k_with "mine sub" => refine stop ?_
                  k_steps
                  k_with_none
                  k_with "call ref" => (refine stop ?_)
                  k_with "subscriptTail" => ((with_reducible show wpAny _ _ (subscriptTail (Expr.List _ _) _ (Value.ref _) (Value.ref _)) _ _ _); (refine kba_turn (value' := PySem.Expr.Name (PySem.Str.ofString "_") ⟨0, 0, 0, 0⟩) (fun _ => rfl) ?_); (rename Fr _ _ _ _ => zF'); (rename News _ _ _ _ => zN'); (with_unfolding_all refine menu_slice (s := ⟨_, _, _, _, _⟩) zF' zN' (.cons _ _ (.cons _ _ (.cons _ _ (.cons _ _ (.cons _ _ (.cons _ _ .nil)))))) (by omega) (by decide) ?_); intro yD' yws' yh' yF' yN' yl1 yhI'; (try k_lt yl1); (try dsimp only))
                  k_with "binaryOp FloorDiv int int" => (with_reducible refine floordiv_int (by assumption) ?_ (Or.inl (PyProof.noPylong_small (by first | assumption | omega))))
                  k_with "eval ListComp" => (refine stop ?_)
                  k_with "exec Assign cons ListComp" => (refine stop ?_)
                  k_with "eval DictComp" => (refine stop ?_)
                  k_with "call builtin:len" => k_extra "mine len"
                  k_with "binaryOp Mult int int" => (with_reducible refine mul_int ?_ (IntMulOk.of_left two_bits))
                  k_with "subscriptTail" => k_extra "mine sub"
                  k_with "call builtin:max" => k_extra "mine max"
                  k_with "binaryOp Mult ref int" => k_extra "mine mul"
                  k_with "subscriptTail Name Slice ref ref" => k_extra "mine slice"
                  k_with "call builtin:str.join" => k_extra "mine join"
                  k_with "exec If" => k_extra "mine If"
                  k_with "CompSrc" => (refine stop ?_)
                  refine go ?_
                  refine item_led (i := i) NL (.tail _ (.tail _ (.tail _ (.tail _ (.tail _ (.head _)))))) rfl (by omega) (by rw [List.getElem?_toArray]; exact hv) ?_
                  k_steps
                  · exfalso; omega
                  · refine go ?_
                    (with_reducible rename Fr _ _ _ _ => FP)
                    (with_reducible rename News _ _ _ _ => NP)
                    k_dflt (refine LCg.Assign_ListComp_U (F₀ := FP) rfl (by with_unfolding_all rfl) (by with_unfolding_all rfl) (by decide) (by rfl) (by decide) (by rfl) (by rfl) (by rfl) ?_)
                    k_with "mine slice" => refine stop ?_
                    k_steps
                    k_with_none
                    k_with "call ref" => (refine stop ?_)
                    k_with "subscriptTail" => ((with_reducible show wpAny _ _ (subscriptTail (Expr.List _ _) _ (Value.ref _) (Value.ref _)) _ _ _); (refine kba_turn (value' := PySem.Expr.Name (PySem.Str.ofString "_") ⟨0, 0, 0, 0⟩) (fun _ => rfl) ?_); (rename Fr _ _ _ _ => zF'); (rename News _ _ _ _ => zN'); (with_unfolding_all refine menu_slice (s := ⟨_, _, _, _, _⟩) zF' zN' (.cons _ _ (.cons _ _ (.cons _ _ (.cons _ _ (.cons _ _ (.cons _ _ .nil)))))) (by omega) (by decide) ?_); intro yD' yws' yh' yF' yN' yl1 yhI'; (try k_lt yl1); (try dsimp only))
                    k_with "binaryOp FloorDiv int int" => (with_reducible refine floordiv_int (by assumption) ?_ (Or.inl (PyProof.noPylong_small (by first | assumption | omega))))
                    k_with "eval ListComp" => (refine stop ?_)
                    k_with "exec Assign cons ListComp" => (refine stop ?_)
                    k_with "eval DictComp" => (refine stop ?_)
                    k_with "call builtin:len" => k_extra "mine len"
                    k_with "binaryOp Mult int int" => (with_reducible refine mul_int ?_ (IntMulOk.of_left two_bits))
                    k_with "subscriptTail" => k_extra "mine sub"
                    k_with "call builtin:max" => k_extra "mine max"
                    k_with "binaryOp Mult ref int" => k_extra "mine mul"
                    k_with "subscriptTail Name Slice ref ref" => k_extra "mine slice"
                    k_with "call builtin:str.join" => k_extra "mine join"
                    k_with "exec If" => k_extra "mine If"
                    k_with "CompSrc" => (refine stop ?_)
                    refine go ?_
                    (with_reducible rename Fr _ _ _ _ => FP)
                    (with_reducible rename News _ _ _ _ => NP)
                    obtain ⟨y0, hy0⟩ := get_some (l := ys) (i := i) (by rw [hl6]; exact Nat.lt_succ_of_lt hlt)
                    obtain ⟨y1, hy1⟩ := get_some (l := ys) (i := i + 1) (by rw [hl6]; exact Nat.succ_lt_succ hlt)
                    with_unfolding_all refine run_led (s := ⟨_, _, _, _, _⟩) (i := i) FP NP (.tail _ (.tail _ (.tail _ (.head _)))) rfl (by omega) (by rw [List.getElem?_toArray]; exact hy0) (by rw [List.getElem?_toArray]; exact hy1) (by rw [List.size_toArray, hl6]; exact (show (6 : Nat) ≤ 1000 by decide)) ?_
                    intro D2 h2' F2' N2' l2'
                    clear FP NP l2'
                    dsimp only
                    k_steps
                    refine go ?_
                    refine src_pureA (fun j v => ∃ t, v = .str ⟨(ctext 64 W (nu (i + j))).toArray⟩ t) rfl F2' N2' (.head _) two_fits ?turn64 ?fin64
                    case turn64 =>
                      clear ek
                      intro g j zs v I oI C oC D3 m₂ h tk E' hj hvj hC hxx F' N'
                      clear F2' N2'
                      have hj2 : j < 2 := hj
                      obtain ⟨R, u0, u1, u2, u3, u4, uc', rfl, hR⟩ : ∃ R t0 t1 t2 t3 t4 c, v = .ref R ∧ (R, rowO (nu (i + j)) t0 t1 t2 t3 t4 c) ∈ tl2 := two_at (P := fun j v => ∃ R t0 t1 t2 t3 t4 c, v = .ref R ∧ (R, rowO (nu (i + j)) t0 t1 t2 t3 t4 c) ∈ tl2) hvj (hrow2 i y0 hy0) (hrow2 (i + 1) y1 hy1)
                      have N2 := news_cons N' (.tail _ (.tail _ (.tail _ (.tail _ (.tail _ (.tail _ (.tail _ (.tail _ (.tail _ (.tail _ hR))))))))))
                      clear N' hR
                      k_steps
                      refine go ?_
                      (with_reducible rename Fr _ _ _ _ => FQ)
                      (with_reducible rename News _ _ _ _ => NQ)
                      refine LCg.ListComp_U (F₀ := FQ) (by with_unfolding_all rfl) (by decide) (by rfl) (by decide) (by rfl) ?_
                      k_steps
                      refine go ?_
                      refine src_pure (fun jj y => ∃ t, y = .str ⟨#[oc (nu (i + j)) jj]⟩ t) rfl FQ NQ (.head _) five_fits ?turnc ?finc
                      case turnc =>
                        intro g2 jj ws vv I2 oI2 C2 oC2 D4 m3 h' tk' E'' hjj hvv hC2 hx2 F'' N''
                        clear FQ NQ
                        obtain ⟨tv, rfl⟩ := five_row hvv
                        have hoc := oc_lt (nu (i + j)) jj
                        k_steps
                        exact CEnd.mk' F'' N'' (fun p hp => hp) ⟨_, rfl⟩
                      case finc =>
                        intro ws D4 h' tk' hl hV F'' N'' o1
                        obtain ⟨w0, w1, w2, w3, w4, rfl, ⟨p0, rfl⟩, ⟨p1, rfl⟩, ⟨p2, rfl⟩, ⟨p3, rfl⟩, p4, rfl⟩ := five_strs hl hV
                        clear FQ NQ hl hV
                        dsimp only
                        k_with "mine join" => refine stop ?_
                        k_steps
                        k_with_none
                        k_with "call ref" => (refine stop ?_)
                        k_with "subscriptTail" => ((with_reducible show wpAny _ _ (subscriptTail (Expr.List _ _) _ (Value.ref _) (Value.ref _)) _ _ _); (refine kba_turn (value' := PySem.Expr.Name (PySem.Str.ofString "_") ⟨0, 0, 0, 0⟩) (fun _ => rfl) ?_); (rename Fr _ _ _ _ => zF'); (rename News _ _ _ _ => zN'); (with_unfolding_all refine menu_slice (s := ⟨_, _, _, _, _⟩) zF' zN' (.cons _ _ (.cons _ _ (.cons _ _ (.cons _ _ (.cons _ _ (.cons _ _ .nil)))))) (by omega) (by decide) ?_); intro yD' yws' yh' yF' yN' yl1 yhI'; (try k_lt yl1); (try dsimp only))
                        k_with "binaryOp FloorDiv int int" => (with_reducible refine floordiv_int (by assumption) ?_ (Or.inl (PyProof.noPylong_small (by first | assumption | omega))))
                        k_with "eval ListComp" => (refine stop ?_)
                        k_with "exec Assign cons ListComp" => (refine stop ?_)
                        k_with "eval DictComp" => (refine stop ?_)
                        k_with "call builtin:len" => k_extra "mine len"
                        k_with "binaryOp Mult int int" => (with_reducible refine mul_int ?_ (IntMulOk.of_left two_bits))
                        k_with "subscriptTail" => k_extra "mine sub"
                        k_with "call builtin:max" => k_extra "mine max"
                        k_with "binaryOp Mult ref int" => k_extra "mine mul"
                        k_with "subscriptTail Name Slice ref ref" => k_extra "mine slice"
                        k_with "call builtin:str.join" => k_extra "mine join"
                        k_with "exec If" => k_extra "mine If"
                        k_with "CompSrc" => (refine stop ?_)
                        refine go ?_
                        refine join_led N'' (.head _) ?_
                        intro t' k'
                        exact CEnd.mk' F'' N'' (fun p hp => .tail _ (.tail _ hp)) ⟨_, by rw [ctext_oc]⟩
                    case fin64 =>
                      intro zs D3 h tk hl hV F' N' o1
                      obtain ⟨z0, z1, rfl, ⟨s0, rfl⟩, s1', rfl⟩ := two_of hl hV
                      clear hl hV F2' N2'
                      dsimp only
                      k_steps
                      rw [eb]
                      exact pair_end F' N'
              case cont =>
                intro Dp cp tpa tpb h7 tk7 F7 N7
                dsimp only
                clear FL NL
                k_with "mine sub" => refine stop ?_
                k_steps
                k_with_none
                k_with "call ref" => (refine stop ?_)
                k_with "subscriptTail" => ((with_reducible show wpAny _ _ (subscriptTail (Expr.List _ _) _ (Value.ref _) (Value.ref _)) _ _ _); (refine kba_turn (value' := PySem.Expr.Name (PySem.Str.ofString "_") ⟨0, 0, 0, 0⟩) (fun _ => rfl) ?_); (rename Fr _ _ _ _ => zF'); (rename News _ _ _ _ => zN'); (with_unfolding_all refine menu_slice (s := ⟨_, _, _, _, _⟩) zF' zN' (.cons _ _ (.cons _ _ (.cons _ _ (.cons _ _ (.cons _ _ (.cons _ _ .nil)))))) (by omega) (by decide) ?_); intro yD' yws' yh' yF' yN' yl1 yhI'; (try k_lt yl1); (try dsimp only))
                k_with "binaryOp FloorDiv int int" => (with_reducible refine floordiv_int (by assumption) ?_ (Or.inl (PyProof.noPylong_small (by first | assumption | omega))))
                k_with "eval ListComp" => (refine stop ?_)
                k_with "exec Assign cons ListComp" => (refine stop ?_)
                k_with "eval DictComp" => (refine stop ?_)
                k_with "call builtin:len" => k_extra "mine len"
                k_with "binaryOp Mult int int" => (with_reducible refine mul_int ?_ (IntMulOk.of_left two_bits))
                k_with "subscriptTail" => k_extra "mine sub"
                k_with "call builtin:max" => k_extra "mine max"
                k_with "binaryOp Mult ref int" => k_extra "mine mul"
                k_with "subscriptTail Name Slice ref ref" => k_extra "mine slice"
                k_with "call builtin:str.join" => k_extra "mine join"
                k_with "exec If" => k_extra "mine If"
                k_with "CompSrc" => (refine stop ?_)
                refine go ?_
                (with_reducible rename Fr _ _ h7 _ => FM)
                (with_reducible rename News _ _ h7 _ => NM)
                refine item_led (i := i) NM (.tail _ (.tail _ (.tail _ (.tail _ (.tail _ (.tail _ (.head _))))))) rfl (by omega) (by rw [List.getElem?_toArray]; exact hv) ?_
                dsimp only
                k_steps
                refine go ?_
                k_dflt (refine' due_c (Frag.In.keeps KX FM.keep) (Top.keeps T FM.keep) ?k1 ⟨_, (NM _ (.tail _ (.head _))).1, rfl, 0, rfl⟩ (bs_or x) (pl_lt x) ?_; (case k1 => decide))
                intro td h6 tk6 st6
                have F6 := FM.keeps st6
                have N6 := news_stays NM st6
                clear FM NM st6
                generalize duev (bs x) (pl x) (fg x) (min (nu i) (nu (i + 1))) (max (nu i) (nu (i + 1))) = due at hap ⊢
                dsimp only
                k_steps
                refine go ?_
                (with_reducible rename Fr _ _ _ _ => FO)
                (with_reducible rename News _ _ _ _ => NO)
                k_dflt (refine' lev_due hap (Frag.In.keeps KX FO.keep) (Top.keeps T FO.keep) ?k1 (menu3 _ _) ?_; (case k1 => decide))
                intro te1 h5 tk51 st5
                have F5 := FO.keeps st5
                have N5 := news_stays NO st5
                clear FO NO st5
                dsimp only
                k_steps
                refine go ?_
                (with_reducible rename Fr _ _ _ _ => FO)
                (with_reducible rename News _ _ _ _ => NO)
                k_dflt (refine' lev_due hap.swap (Frag.In.keeps KX FO.keep) (Top.keeps T FO.keep) ?k1 (menu3 _ _) ?_; (case k1 => decide))
                intro te2 h4' tk52 st5
                have F5 := FO.keeps st5
                have N5 := news_stays NO st5
                clear FO NO st5
                dsimp only
                k_with "InvEndN" => refine stop ?_
                k_steps
                refine go ?_
                (with_reducible rename Fr _ _ _ _ => FO)
                (with_reducible rename News _ _ _ _ => NO)
                subst e2
                refine kst_end () FO NO (fun p hp => .tail _ (.tail _ (.tail _ (.tail _ (.tail _ (List.mem_append_left own hp)))))) (fun p hp => .tail _ (.tail _ (.tail _ (.tail _ (.tail _ (List.mem_append_right (_ :: _ :: _ :: _ :: _ :: tl) hp)))))) rfl trivial (fun p hp => nomatch hp) ?_ trivial
                intro z h1 h2 h3
                simp only [List.contains_cons, List.contains_nil, Bool.or_false, Bool.or_eq_false_iff, beq_eq_false_iff_ne, ne_eq] at h3
                simp [kstB, h1, h3]
            · rintro ⟨⟩ u h9 tk9 _ _ F9 N9
              replace F9 : Fr s1.heap s1.heap.objs.size h9 _ := F9
              dsimp only at F9 N9 ⊢
              try k_fold
              k_steps
              exact ⟨rfl, _, _, _, _, rfl, F9⟩)
end Mine
end
set_option maxRecDepth 100000 in
set_option maxHeartbeats 8000000 in
theorem PySem.Challenge.cw_ny0086_01_holds : PySem.Challenge.rw_ny0086_01.Holds :=
  Mine.lawT

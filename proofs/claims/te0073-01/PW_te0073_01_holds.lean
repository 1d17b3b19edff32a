import PyProof.Rows.All
import Wide.All
import OpenK.AllK
import Wide.FinOn
import PySem.Challenge.RW_te0073_01
open PySem PySem.W PyProof.Rows PySem.Calls PySem.Spec
set_option Elab.async false
set_option maxRecDepth 100000
set_option linter.all false
namespace Mine
set_option maxHeartbeats 8000000 in
open_top hd for PySem.Challenge.rw_te0073_01
section partP0
theorem pre_ge : ∀ (q t : List Nat), ¬ (q ++ t) < q
  | [], t => by simp
  | x :: q, t => by
    intro h
    rw [List.cons_append, List.cons_lt_cons_iff] at h
    rcases h with h | ⟨_, h⟩
    · exact Nat.lt_irrefl _ h
    · exact pre_ge q t h
theorem pre_between : ∀ (q a t : List Nat), ¬ a < q → ¬ (q ++ t) < a → q <+: a
  | [], a, t, _, _ => List.nil_prefix
  | x :: q, [], t, h, _ => absurd (by simp) h
  | x :: q, y :: a, t, h1, h2 => by
    rw [List.cons_lt_cons_iff] at h1
    rw [List.cons_append, List.cons_lt_cons_iff] at h2
    have hxy : x = y := by
      have a1 : ¬ y < x := fun q => h1 (.inl q)
      have a2 : ¬ x < y := fun q => h2 (.inl q)
      omega
    subst hxy
    have := pre_between q a t (fun q => h1 (.inr ⟨rfl, q⟩)) (fun q => h2 (.inr ⟨rfl, q⟩))
    exact List.cons_prefix_cons.mpr ⟨rfl, this⟩
theorem sw_iff (x y : Str) : Txt.startswith x y = true ↔ y.cps.toList <+: x.cps.toList := by
  unfold Txt.startswith
  rw [StrLaws.subAt_eq, List.drop_zero, Bool.and_eq_true, beq_iff_eq, decide_eq_true_eq, Nat.zero_add]
  have hy : y.length = y.cps.toList.length := by simp [Str.length]
  constructor
  · rintro ⟨_, h⟩
    exact ⟨x.cps.toList.drop y.length, by rw [← h]; exact List.take_append_drop _ _⟩
  · intro h
    have hl := h.length_le
    refine ⟨by have hx : x.length = x.cps.toList.length := by simp [Str.length]
               omega, ?_⟩
    rw [hy]; exact (List.prefix_iff_eq_take.mp h).symm
theorem sw_empty (x : Str) : Txt.startswith x (Str.ofString "") = true := (sw_iff _ _).mpr (by show [] <+: _; exact List.nil_prefix)
/-- the text of the first n signs -/
def tkS (q : Str) (n : Nat) : Str := ⟨(q.cps.toList.take n).toArray⟩
theorem len_cps (x : Str) : x.length = x.cps.toList.length := by simp [Str.length]
theorem tkS_cps (q : Str) (n : Nat) : (tkS q n).cps.toList = q.cps.toList.take n := by simp [tkS]
theorem str_ext {a b : Str} (h : a.cps.toList = b.cps.toList) : a = b := by
  obtain ⟨a⟩ := a; obtain ⟨b⟩ := b
  exact congrArg _ (Array.toList_inj.mp h)
theorem tkS_all {q : Str} {n : Nat} (h : q.length ≤ n) : tkS q n = q := str_ext (by rw [tkS_cps]; exact List.take_of_length_le (by rw [← len_cps]; exact h))
theorem tkS_len (q : Str) (n : Nat) : (tkS q n).length = min n q.length := by rw [len_cps, tkS_cps, List.length_take, ← len_cps]
theorem tkS_pre (q : Str) (n : Nat) : (tkS q n).cps.toList <+: q.cps.toList := by rw [tkS_cps]; exact List.take_prefix _ _
theorem pre_tkS {k q : Str} (h : k.cps.toList <+: q.cps.toList) : k = tkS q k.length := str_ext (by rw [tkS_cps, len_cps]; exact List.prefix_iff_eq_take.mp h)
theorem pre_len {k q : Str} (h : k.cps.toList <+: q.cps.toList) : k.length ≤ q.length := by rw [len_cps, len_cps]; exact h.length_le
theorem tkS_eq_iff (x y : Str) : tkS x y.length = y ↔ y.cps.toList <+: x.cps.toList :=
  ⟨fun h => by rw [← h]; exact tkS_pre _ _, fun h => (pre_tkS h).symm⟩
theorem slice_to (x : Str) (n : Nat) : Txt.slice x none (some (n : Int)) = tkS x n := by
  by_cases h : n ≤ x.length
  · have := slice_closes_toL (x := x) (j := n) (by omega) (by omega)
    rw [beq_iff_eq.mp this]
    simp [tkS]
  · rw [slice_to_beyond (by omega), tkS_all (by omega)]
    have := slice_closes_toL (x := x) (j := x.length) (by omega) (by omega)
    rw [beq_iff_eq.mp this]
    exact str_ext (by simp only [Str.length, Int.toNat_zero, List.drop_zero, Int.sub_zero, Int.toNat_natCast]; exact List.take_of_length_le (by simp))
theorem slice_neg (x : Str) (k : Nat) (h1 : 1 ≤ k) (h2 : k ≤ x.length) : Txt.slice x none (some (-(k : Int))) = tkS x (x.length - k) := by
  have := slice_closes_to_neg (x := x) (j := -(k : Int)) (k := (x.length : Int) - k) (by omega) (by omega) (by omega)
  rw [beq_iff_eq.mp this]
  have e : ((x.length : Int) - (k : Int) - 0).toNat = x.length - k := by omega
  rw [e]
  simp [tkS]
theorem valueAt_mem {kvs : List (Str × Value)} {k : Str} : (valueAt kvs k).isSome = true ↔ k ∈ kvs.map (·.1) := by
  unfold valueAt
  rw [Option.isSome_map, List.find?_isSome, List.mem_map]
  constructor
  · rintro ⟨p, hp, e⟩; exact ⟨p, hp, by simpa using e⟩
  · rintro ⟨p, hp, e⟩; exact ⟨p, hp, by simpa using e⟩
/-- v is the longest of the keys that q opens with; None where there is none -/
def Longest (keys : List Str) (q : Str) (v : Value) : Prop :=
  (∃ k t, v = .str k t ∧ k ∈ keys ∧ k.cps.toList <+: q.cps.toList ∧ ∀ k' ∈ keys, k'.cps.toList <+: q.cps.toList → k'.length ≤ k.length) ∨ (v = .none ∧ ∀ k' ∈ keys, ¬ k'.cps.toList <+: q.cps.toList)
/-- the search from the text down, at the i-th turn -/
theorem longest_hit {kvs : List (Str × Value)} {q : Str} {i : Nat} {t : Tok} (hi : i ≤ q.length) (hno : ∀ n, n ≤ q.length → q.length < n + i → valueAt kvs (tkS q n) = none) (h : (valueAt kvs (tkS q (q.length - i))).isSome = true) :
    Longest (kvs.map (·.1)) q (.str (tkS q (q.length - i)) t) := by
  refine .inl ⟨_, t, rfl, valueAt_mem.mp h, tkS_pre _ _, fun k' hk' hp => ?_⟩
  rw [tkS_len]
  have hl := pre_len hp
  by_cases hb : k'.length ≤ q.length - i
  · omega
  · have := hno k'.length hl (by omega)
    rw [← pre_tkS hp] at this
    have h2 := valueAt_mem.mpr hk'
    rw [this] at h2; cases h2
theorem longest_miss {kvs : List (Str × Value)} {q : Str} (hno : ∀ n, n ≤ q.length → valueAt kvs (tkS q n) = none) : Longest (kvs.map (·.1)) q .none := by
  refine .inr ⟨rfl, fun k' hk' hp => ?_⟩
  have := hno k'.length (pre_len hp)
  rw [← pre_tkS hp] at this
  have h2 := valueAt_mem.mpr hk'
  rw [this] at h2; cases h2
/-- two longest ones are the same -/
theorem longest_eq {keys : List Str} {q : Str} {u v : Value} (hu : Longest keys q u) (hv : Longest keys q v) : (u = .none ∧ v = .none) ∨ ∃ k t t', u = .str k t ∧ v = .str k t' := by
  rcases hu with ⟨k, t, rfl, hk, hp, hm⟩ | ⟨rfl, hn⟩
  · rcases hv with ⟨k', t', rfl, hk', hp', hm'⟩ | ⟨rfl, hn'⟩
    · have e : k.length = k'.length := Nat.le_antisymm (hm' _ hk hp) (hm _ hk' hp')
      have : k = k' := by rw [pre_tkS hp, pre_tkS hp', e]
      subst this
      exact .inr ⟨k, t, t', rfl, rfl⟩
    · exact absurd hp (hn' _ hk)
  · rcases hv with ⟨k', t', rfl, hk', hp', hm'⟩ | ⟨rfl, hn'⟩
    · exact absurd hp' (hn _ hk')
    · exact .inl ⟨rfl, rfl⟩
end partP0
section partC1
local macro_rules | `(tactic| walk_at "idle pad") => `(tactic| fail "idle")
local macro_rules | `(tactic| walk_at "idle pad") => `(tactic| fail "idle")
local macro_rules | `(tactic| walk_at "idle pad") => `(tactic| fail "idle")
local macro_rules | `(tactic| walk_at "idle pad") => `(tactic| fail "idle")
local macro_rules | `(tactic| walk_at "idle pad") => `(tactic| fail "idle")
local macro_rules | `(tactic| walk_at "idle pad") => `(tactic| fail "idle")
local macro_rules | `(tactic| walk_at "idle pad") => `(tactic| fail "idle")
local macro_rules | `(tactic| walk_at "idle pad") => `(tactic| fail "idle")
local macro_rules | `(tactic| walk_at "idle pad") => `(tactic| fail "idle")
local macro_rules | `(tactic| walk_at "idle pad") => `(tactic| fail "idle")
local macro_rules | `(tactic| walk_at "idle pad") => `(tactic| fail "idle")
local macro_rules | `(tactic| walk_at "idle pad") => `(tactic| fail "idle")
section
variable {w : World} {dp un : Nat} {gd : Option (List Code)} {cn : Str} {cs : Scope} {a : Addr} {ccd : Value} {cl : List (Str × Addr)} {outer : List Env} {A₀ : Around} {base h₀ : Heap} {L : Addr} {m : Str → Option Value} {p : Program} {loose : List Str} {mean : ExcName → Option Value} {mg mb : Str → Option Value} {news : List (Addr × Obj)} {s : Shared} {Q E : Value → Shared → Prop}
set_option maxHeartbeats 4000000 in
theorem mark_ok (b : Bool)
  (B : Below A₀ base outer h₀) (F : Fr h₀ L s.heap m) (X : (hd.heap_39 w.params).In h₀) (N : News h₀ L s.heap news) (T : Top p loose mean mg mb h₀) (hk : cs.kind = .function) (hdp : dp + 8 < recursionLimit) (hun : un + 80 < cLine)
  (ret : ∀ t h' tk', Fr h₀ L h' m → News h₀ L h' news → Q (.str (if b = true then Str.ofString "yes" else Str.ofString "no") t) { s with heap := h', toks := tk' }) :
  wpAny (model PySem.Challenge.rw_te0073_01.row.prog w) (ktrTop dp un gd cn cs L a ccd cl outer) (call (.ref 114) [.bool b]) Q E s := by
  cases b
  all_goals (
    refine wpAny_call ?_
    k_dflt (refine' code_def ?k1 ?k2 ?k3 ?k4 ?k5 ?kA ?kF ?kK ?k6 ?k7 ?k8 ?k9 ?kB ?_ ?c2 ?c3 ?c4 ?c5; (case kA => exact rfl); (case kF => exact rfl); (case kK => assumption); (case k1 => k_asm); (case k2 => k_asm); (case k3 => k_asm); (case k4 => k_asm); (case k5 => k_asm); (case k6 => k_is); (case k7 => k_is); (case k8 => ktr_room); (case k9 => first | exact BindsTo.of_eq rfl | exact binds_K (by k_in) rfl (by k_is) rfl rfl rfl); (case c5 => decide); (case kB => exact locs rfl); (case c2 => exact rfl); (case c3 => exact rfl); (case c4 => exact rfl); k_whole; intro g' L' h' FG' F' N' B' X' T'; (try dsimp only); (try k_lift B'); (try k_fold))
    repeat' (first | (k_unfold; (try dsimp only)) | walk1 | (dsimp only; walk1) | (leave1; try dsimp only) | fail "no step"))
  · exact ret _ _ _ (by assumption) (by assumption)
  · exact ret _ _ _ (by assumption) (by assumption)
end
end partC1
section partC2
local macro_rules | `(tactic| walk_at "idle pad") => `(tactic| fail "idle")
local macro_rules | `(tactic| walk_at "idle pad") => `(tactic| fail "idle")
local macro_rules | `(tactic| walk_at "idle pad") => `(tactic| fail "idle")
local macro_rules | `(tactic| walk_at "idle pad") => `(tactic| fail "idle")
local macro_rules | `(tactic| walk_at "idle pad") => `(tactic| fail "idle")
local macro_rules | `(tactic| walk_at "idle pad") => `(tactic| fail "idle")
local macro_rules | `(tactic| walk_at "idle pad") => `(tactic| fail "idle")
local macro_rules | `(tactic| walk_at "idle pad") => `(tactic| fail "idle")
local macro_rules | `(tactic| walk_at "idle pad") => `(tactic| fail "idle")
local macro_rules | `(tactic| walk_at "idle pad") => `(tactic| fail "idle")
local macro_rules | `(tactic| walk_at "idle pad") => `(tactic| fail "idle")
local macro_rules | `(tactic| walk_at "idle pad") => `(tactic| fail "idle")
local macro_rules | `(tactic| walk_at "idle pad") => `(tactic| fail "idle")
local macro_rules | `(tactic| walk_at "idle pad") => `(tactic| fail "idle")
local macro_rules | `(tactic| walk_at "idle pad") => `(tactic| fail "idle")
local macro_rules | `(tactic| walk_at "idle pad") => `(tactic| fail "idle")
local macro_rules | `(tactic| walk_at "idle pad") => `(tactic| fail "idle")
local macro_rules | `(tactic| walk_at "idle pad") => `(tactic| fail "idle")
local macro_rules | `(tactic| walk_at "idle pad") => `(tactic| fail "idle")
local macro_rules | `(tactic| walk_at "idle pad") => `(tactic| fail "idle")
local macro_rules | `(tactic| walk_at "idle pad") => `(tactic| fail "idle")
local macro_rules | `(tactic| walk_at "idle pad") => `(tactic| fail "idle")
local macro_rules | `(tactic| walk_at "idle pad") => `(tactic| fail "idle")
local macro_rules | `(tactic| walk_at "idle pad") => `(tactic| fail "idle")
section
variable {w : World} {dp un : Nat} {gd : Option (List Code)} {cn : Str} {cs : Scope} {a : Addr} {ccd : Value} {cl : List (Str × Addr)} {outer : List Env} {A₀ : Around} {base h₀ : Heap} {L : Addr} {m : Str → Option Value} {p : Program} {loose : List Str} {mean : ExcName → Option Value} {mg mb : Str → Option Value} {news : List (Addr × Obj)} {s : Shared} {Q E : Value → Shared → Prop}

theorem item_news {prog : Program} {A : Around} {D : Addr} {vs : List Value} {ss : List Str} {k : Int} {n : Nat} {u : Tok} {value slice : PySem.Expr} {Q : Value → Shared → Prop} (N : News h₀ L s.heap news) (hm : (D, listOf vs.toArray n) ∈ news) (hw : StrsAre vs ss)
    (h0 : 0 ≤ k) (h1 : k < (ss.length : Int)) (hfit : ss.length < 2 ^ 62) (h : ∀ t' x, ss[k.toNat]? = some x → Q (.str x t') s)
    (hs : subscripted slice false (.ref D) (.int k u) = operate [.ref D, .int k u] (getItem (.ref D) (.int k u)) := by with_unfolding_all rfl) :
    wpAny (model prog w) A (subscriptTail value slice (.ref D) (.int k u)) Q E s :=
  KTb.item_list (News.isList N hm) hw h0 h1 (by omega) (fun t' hlt => h t' _ (by rw [List.getD_eq_getElem?_getD, List.getElem?_eq_getElem hlt]; rfl)) hs

theorem len_news {prog : Program} {A : Around} {D : Addr} {vs : List Value} {ss : List Str} {n : Nat} {Q : Value → Shared → Prop} (N : News h₀ L s.heap news) (hm : (D, listOf vs.toArray n) ∈ news) (hw : StrsAre vs ss)
    (hfit : ss.length < 2 ^ 62) (h : Q (.int (ss.length : Nat) (s.toks + 1)) { s with toks := s.toks + 1 + 1 }) : wpAny (model prog w) A (call (.builtin "len") [.ref D]) Q E s := by
  have e : vs.toArray.size = ss.length := by simp [hw.length]
  refine Calls.call_len_list (News.isList N hm) (by omega) ?_
  rw [e]
  exact h
/-- what the search knows between two turns -/
def BisJ (ks : List Str) (key : Str) (lo hi : Int) : Prop :=
  0 ≤ lo ∧ lo ≤ hi ∧ hi ≤ (ks.length : Int) ∧ (∀ (j : Nat) x, (j : Int) < lo → ks[j]? = some x → x.cps.toList < key.cps.toList) ∧ (∀ (j : Nat) x, hi ≤ (j : Int) → ks[j]? = some x → ¬ x.cps.toList < key.cps.toList)

theorem bisJ_up {ks : List Str} {key x : Str} {lo hi mid : Int} (hs : ks.Pairwise (fun a b => ¬ b.cps.toList < a.cps.toList)) (h : BisJ ks key lo hi) (h1 : lo ≤ mid) (h2 : mid < hi) (hx : ks[mid.toNat]? = some x) (hlt : x.cps.toList < key.cps.toList) : BisJ ks key (mid + 1) hi := by
  obtain ⟨a, b, c, d, e⟩ := h
  refine ⟨by omega, by omega, c, fun j y hj hy => ?_, e⟩
  by_cases hjm : j = mid.toNat
  · subst hjm; rw [hx] at hy; cases hy; exact hlt
  · have hjlt : j < mid.toNat := by omega
    obtain ⟨hj1, e1⟩ := List.getElem?_eq_some_iff.mp hy
    obtain ⟨hj2, e2⟩ := List.getElem?_eq_some_iff.mp hx
    have := List.pairwise_iff_getElem.mp hs j mid.toNat hj1 hj2 hjlt
    rw [e1, e2] at this
    exact List.lt_of_le_of_lt (List.not_lt.mp this) hlt
theorem bisJ_down {ks : List Str} {key x : Str} {lo hi mid : Int} (hs : ks.Pairwise (fun a b => ¬ b.cps.toList < a.cps.toList)) (h : BisJ ks key lo hi) (h1 : lo ≤ mid) (h2 : mid < hi) (hx : ks[mid.toNat]? = some x) (hge : ¬ x.cps.toList < key.cps.toList) : BisJ ks key lo mid := by
  obtain ⟨a, b, c, d, e⟩ := h
  refine ⟨a, h1, by omega, d, fun j y hj hy => ?_⟩
  by_cases hjm : j = mid.toNat
  · subst hjm; rw [hx] at hy; cases hy; exact hge
  · have hjlt : mid.toNat < j := by omega
    obtain ⟨hj1, e1⟩ := List.getElem?_eq_some_iff.mp hy
    obtain ⟨hj2, e2⟩ := List.getElem?_eq_some_iff.mp hx
    have := List.pairwise_iff_getElem.mp hs mid.toNat j hj2 hj1 hjlt
    rw [e1, e2] at this
    exact fun q => hge (List.lt_of_le_of_lt (List.not_lt.mp this) q)

theorem fr_eq {h : Heap} {m m' : Str → Option Value} (F : Fr h₀ L h m) (e : ∀ y, m y = m' y) : Fr h₀ L h m' := by rw [show m' = m from funext fun y => (e y).symm]; exact F

def Stop (P : Prop) : Prop := P
theorem Stop.out {P : Prop} (h : Stop P) : P := h
theorem Stop.go {P : Prop} (h : P) : Stop P := h
local macro_rules | `(tactic| walk_at "exec While Compare cons nil") => `(tactic| refine Stop.out (P := wpAny _ _ _ _ _ _) ?_)
local macro_rules | `(tactic| walk_at "subscriptTail Name Name ref int") => `(tactic| refine Stop.out (P := wpAny _ _ _ _ _ _) ?_)
set_option maxHeartbeats 4000000 in
theorem bisect_ok {rows : Addr} {vs : List Value} {ks : List Str} {n : Nat} {key : Str} {tk0 t1 t2 : Tok} {lo hi : Int} (hrows : (rows, listOf vs.toArray n) ∈ news) (hks : StrsAre vs ks) (hfit : ks.length < 2 ^ 62)
  (hsort : ks.Pairwise (fun a b => ¬ b.cps.toList < a.cps.toList)) (hJ : BisJ ks key lo hi)
  (B : Below A₀ base outer h₀) (F : Fr h₀ L s.heap m) (X : (hd.heap_39 w.params).In h₀) (N : News h₀ L s.heap news) (T : Top p loose mean mg mb h₀) (hk : cs.kind = .function) (hdp : dp + 1 < recursionLimit) (hun : un + 8 < cLine)
  (ret : ∀ i t h' tk', BisJ ks key i i → Fr h₀ L h' m → News h₀ L h' news → Q (.int i t) { s with heap := h', toks := tk' }) :
  wpAny (model PySem.Challenge.rw_te0073_01.row.prog w) (ktrTop dp un gd cn cs L a ccd cl outer) (call (.ref 22) [.ref rows, .str key tk0, .int lo t1, .int hi t2]) Q E s := by
  refine wpAny_call ?_
  k_dflt (refine' code_def ?k1 ?k2 ?k3 ?k4 ?k5 ?kA ?kF ?kK ?k6 ?k7 ?k8 ?k9 ?kB ?_ ?c2 ?c3 ?c4 ?c5; (case kA => exact rfl); (case kF => exact rfl); (case kK => assumption); (case k1 => k_asm); (case k2 => k_asm); (case k3 => k_asm); (case k4 => k_asm); (case k5 => k_asm); (case k6 => k_is); (case k7 => k_is); (case k8 => ktr_room); (case k9 => first | exact BindsTo.of_eq rfl | exact binds_K (by k_in) rfl (by k_is) rfl rfl rfl); (case c5 => decide); (case kB => exact locs rfl); (case c2 => exact rfl); (case c3 => exact rfl); (case c4 => exact rfl); k_whole; intro g' L' h' FG' F' N' B' X' T'; (try dsimp only); (try k_lift B'); (try k_fold))
  repeat' (first | (k_unfold; (try dsimp only)) | walk1 | (dsimp only; walk1) | (leave1; try dsimp only) | fail "no step")
  refine Stop.go ?_
  replace F' : Fr g' L' h' (fun y => List.lookup y [(Str.ofString "high", .int hi t2), (Str.ofString "low", .int lo t1), (Str.ofString "key", .str key tk0), (Str.ofString "rows", .ref rows)]) := F'
  refine While_inv (fun k m₁ news₁ => ∃ lo hi t1 t2 u, k = Int.toNat (hi - lo) ∧ news₁ = news ∧ BisJ ks key lo hi ∧ m₁ = (fun y => if y = Str.ofString "low" then some (.int lo t1) else if y = Str.ofString "high" then some (.int hi t2) else if y = Str.ofString "middle" then u else if y = Str.ofString "rows" then some (.ref rows) else if y = Str.ofString "key" then some (.str key tk0) else none))
      (fr_eq F' ((fun y => if h1 : y = Str.ofString "low" then (by subst h1; rfl) else if h2 : y = Str.ofString "high" then (by subst h2; rfl) else if h3 : y = Str.ofString "middle" then (by subst h3; rfl) else if h4 : y = Str.ofString "rows" then (by subst h4; rfl) else if h5 : y = Str.ofString "key" then (by subst h5; rfl) else (by simp [h1, beq_false_of_ne h1, h2, beq_false_of_ne h2, h3, beq_false_of_ne h3, h4, beq_false_of_ne h4, h5, beq_false_of_ne h5, List.lookup])))) N' ⟨lo, hi, t1, t2, none, rfl, rfl, hJ, rfl⟩ ?turn
  case turn =>
    intro n₁ m₁ news₁ h₁ tk₁ F₁ N₁ hJ₁
    obtain ⟨lo, hi, t1, t2, u, rfl, rfl, hJ, rfl⟩ := hJ₁
    clear F' N'
    repeat' (first | (k_unfold; (try dsimp only)) | walk1 | (dsimp only; walk1) | (leave1; try dsimp only) | fail "no step")
    · rename lo < hi => hlt
      have hm := hJ
      obtain ⟨q0, q1, q2, -, -⟩ := hm
      have hmid : lo ≤ Int.fdiv (lo + hi) 2 ∧ Int.fdiv (lo + hi) 2 < hi := by
        rw [Int.fdiv_eq_ediv_of_nonneg _ (by omega)]; omega
      generalize Int.fdiv (lo + hi) 2 = mid at *
      refine Stop.go ?_
      rename Fr _ _ _ _ => F₂
      rename News _ _ _ _ => N₂
      refine item_news N₂ hrows hks (by omega) (by omega) hfit ?_
      intro t' x' hx'
      repeat' (first | (k_unfold; (try dsimp only)) | walk1 | (dsimp only; walk1) | (leave1; try dsimp only) | fail "no step")
      · exact WhileStep.intro (fr_eq (by assumption) ((fun y => if h1 : y = Str.ofString "low" then (by subst h1; rfl) else if h2 : y = Str.ofString "high" then (by subst h2; rfl) else if h3 : y = Str.ofString "middle" then (by subst h3; rfl) else if h4 : y = Str.ofString "rows" then (by subst h4; rfl) else if h5 : y = Str.ofString "key" then (by subst h5; rfl) else (by simp [h1, beq_false_of_ne h1, h2, beq_false_of_ne h2, h3, beq_false_of_ne h3, h4, beq_false_of_ne h4, h5, beq_false_of_ne h5, List.lookup])))) (by assumption) (by omega) ⟨mid + 1, hi, _, _, _, rfl, rfl, bisJ_up hsort hJ hmid.1 hmid.2 hx' (by assumption), rfl⟩
      · exact WhileStep.intro (fr_eq (by assumption) ((fun y => if h1 : y = Str.ofString "low" then (by subst h1; rfl) else if h2 : y = Str.ofString "high" then (by subst h2; rfl) else if h3 : y = Str.ofString "middle" then (by subst h3; rfl) else if h4 : y = Str.ofString "rows" then (by subst h4; rfl) else if h5 : y = Str.ofString "key" then (by subst h5; rfl) else (by simp [h1, beq_false_of_ne h1, h2, beq_false_of_ne h2, h3, beq_false_of_ne h3, h4, beq_false_of_ne h4, h5, beq_false_of_ne h5, List.lookup])))) (by assumption) (by omega) ⟨lo, mid, _, _, _, rfl, rfl, bisJ_down hsort hJ hmid.1 hmid.2 hx' (by assumption), rfl⟩
    · rename ¬ lo < hi => hge
      have : lo = hi := by obtain ⟨q0, q1, q2, -, -⟩ := hJ; omega
      subst this
      exact ret _ _ _ _ hJ (by assumption) (by assumption)
end
end partC2
section partL1
section
variable {prog : Program} {w : World} {A : Around} {E : Value → Shared → Prop} {s : Shared} {env : Env} {h₀ : Heap} {x : Str} {body : List Stmt} {Q : Flow → Shared → Prop}
/-- a loop that changes names alone -/
theorem loop_ro {I : Addr} {fp wr : List Addr} {n : Nat} {P : Nat → Value → Prop} {St : Nat → Heap → Prop} {m₀ : Str → Option Value} {news : List (Addr × Obj)} (J : Nat → (Str → Option Value) → Prop)
    (W : Walks prog w A I fp wr n P St) (hLf : env.locals ∉ fp) (hwr : ∀ b ∈ wr, h₀.get? b = none) (hnw : ∀ p ∈ news, p.1 ∉ wr) (hst : St 0 s.heap) (F : Fr h₀ env.locals s.heap m₀) (N : News h₀ env.locals s.heap news) (hj : J 0 m₀)
    (turn : ∀ i v m₁ h tk own, i < n → P i v → J i m₁ → Fr h₀ env.locals h (fun y => if y = x then some v else m₁ y) → News h₀ env.locals h (own ++ news) →
      wpAny (model prog w) A (execs body env) (InvPost h₀ env.locals (J (i + 1)) (own ++ news) { s with heap := h, toks := tk } Q) E { s with heap := h, toks := tk })
    (done : ∀ m₁ h tk, J n m₁ → Fr h₀ env.locals h m₁ → News h₀ env.locals h news → Q .next { s with heap := h, toks := tk }) :
    LoopAtV prog w A h₀ env x body Q E (.ref I) s := by
  let J' : Nat → (Str → Option Value) → List (Addr × Obj) → Prop := fun i m₁ news₁ => news₁ = news ∧ J i m₁
  refine ⟨I, fp, wr, n, P, St, m₀, news, J', rfl, W, hLf, hwr, hnw, hst, F, N, ⟨rfl, hj⟩, ?_, ?_⟩
  · rintro i v m₁ news₁ s₁ own ⟨hh', tk', rfl⟩ hin hP ⟨rfl, hJ⟩ hoff hown _ _ _ F₁ N₁
    refine wpAny_mono (turn i v m₁ hh' tk' own hin hP hJ F₁ N₁) (fun f s₂ p => ?_) fun _ _ e => e
    have fin : InvEnd h₀ env.locals (J (i + 1)) (own ++ news₁) { s with heap := hh', toks := tk' } s₂ → LoopStepU h₀ env.locals wr own (J' (i + 1)) { s with heap := hh', toks := tk' } .next s₂ := by
      rintro ⟨h', tk, m', news', e, F', N', hn, hm⟩
      exact ⟨rfl, h', tk, m', news₁, e, F', fun p hp => N' p (hn p hp), hoff, rfl, hm⟩
    cases f with
    | ret v => exact .ret p
    | brk => exact .brk p
    | next => exact .next (fin p)
    | cont => exact .cont (fin p)
  · rintro h' tk m' news' F' N' _ ⟨rfl, hJ⟩
    exact done m' h' tk hJ F' N'

theorem iter_range_ro {r : Addr} {a₀ b₀ : Int} {t₀ u₀ v₀ : Tok} {n : Nat} {m₀ : Str → Option Value} {news : List (Addr × Obj)} (J : Nat → (Str → Option Value) → Prop)
    (hh : A.handled = none) (hr : IsRange s.heap r a₀ b₀ 1 t₀ u₀ v₀) (ha₀ : 0 ≤ a₀) (hb₀ : b₀ < 2 ^ 62) (hnn : b₀ = a₀ + (n : Int)) (F : Fr h₀ env.locals s.heap m₀) (N : News h₀ env.locals s.heap news) (hj : J 0 m₀)
    (turn : ∀ (i : Nat) t m₁ h tk own, i < n → J i m₁ → Fr h₀ env.locals h (fun y => if y = x then some (.int (a₀ + (i : Nat)) t) else m₁ y) → News h₀ env.locals h (own ++ news) →
      wpAny (model prog w) A (execs body env) (InvPost h₀ env.locals (J (i + 1)) (own ++ news) { s with heap := h, toks := tk } Q) E { s with heap := h, toks := tk })
    (done : ∀ m₁ h tk, J n m₁ → Fr h₀ env.locals h m₁ → News h₀ env.locals h news → Q .next { s with heap := h, toks := tk }) :
    wpAny (model prog w) A (pyIter (.ref r)) (fun it s₂ => LoopAtV prog w A h₀ env x body Q E it s₂) E s := by
  have hsmall : Builtin.Range.small a₀ b₀ 1 = true := small_one (by omega) (by omega) (by omega) hb₀
  have hn : Builtin.Range.rangeSize a₀ b₀ 1 = (n : Int) := by rw [rangeSize_nat]; omega
  refine wpAny_pyIter_range hr hsmall ?_
  have W : Walks prog w A s.heap.objs.size [s.heap.objs.size] [s.heap.objs.size] n (fun i v => i < n ∧ ∃ t, v = .int (a₀ + i * 1) t)
      (fun i h => IsRangeIter h s.heap.objs.size (a₀ + (i : Nat) * 1) ((n : Int) - (i : Nat)) 1) := (Walks.range hh _ a₀ 1 n).bound
  refine loop_ro J W ?_ ?_ ?_ (by show IsRangeIter _ _ _ _ _; rw [hn]; simpa using Heap.get?_push_size _ rfl) (F.push _) (fun p hp => ⟨Heap.get?_push_of_some _ (N p hp).1, (N p hp).2⟩) hj ?_ ?_
  · intro hm
    exact absurd F.ns.lt ((List.mem_singleton.mp hm) ▸ Nat.lt_irrefl _)
  · intro b hb
    rw [List.mem_singleton.mp hb]
    exact next_is_new F
  · intro p hp hI
    exact absurd (Heap.lt_size (N p hp).1) ((List.mem_singleton.mp hI) ▸ Nat.lt_irrefl _)
  · rintro i v m₁ h tk own hi ⟨_, t, rfl⟩ hJ F' N'
    rw [Int.mul_one] at F'
    exact turn i t m₁ h tk own hi hJ F' N'
  · exact done

theorem iter_keys_ro {d : Addr} {o : Obj} {kvs : List (Str × Value)} {m₀ : Str → Option Value} {news : List (Addr × Obj)} (J : Nat → (Str → Option Value) → Prop)
    (hh : A.handled = none) (hd : (d, o) ∈ news) (ho : o.IsDictOf (PySem.strKind prog w) kvs) (hlo : (d == sysModules) = false) (F : Fr h₀ env.locals s.heap m₀) (N : News h₀ env.locals s.heap news) (hj : J 0 m₀)
    (turn : ∀ (i : Nat) k v t m₁ h tk own, kvs[i]? = some (k, v) → J i m₁ → Fr h₀ env.locals h (fun y => if y = x then some (.str k t) else m₁ y) → News h₀ env.locals h (own ++ news) →
      wpAny (model prog w) A (execs body env) (InvPost h₀ env.locals (J (i + 1)) (own ++ news) { s with heap := h, toks := tk } Q) E { s with heap := h, toks := tk })
    (done : ∀ m₁ h tk, J kvs.length m₁ → Fr h₀ env.locals h m₁ → News h₀ env.locals h news → Q .next { s with heap := h, toks := tk }) :
    wpAny (model prog w) A (pyIter (.ref d)) (fun it s₂ => LoopAtV prog w A h₀ env x body Q E it s₂) E s := by
  have hD := kda_dict N hd ho
  obtain ⟨ep, hat⟩ := hD.dictAt
  have hlt : d < s.heap.objs.size := Heap.lt_size (N _ hd).1
  have hne : d ≠ s.heap.objs.size := Nat.ne_of_lt hlt
  refine wpAny_pyIter_dict hlo hat ?_
  refine loop_ro J (Walks.dictKeys (knd := PySem.strKind prog w) hh s.heap.objs.size d hne kvs ep) ?_ ?_ ?_ ⟨⟨_, Heap.get?_push_size _ rfl, rfl, rfl⟩, hat.push _⟩ (F.push _) (fun p hp => ⟨Heap.get?_push_of_some _ (N p hp).1, (N p hp).2⟩) hj ?_ ?_
  · intro hm
    rcases List.mem_cons.mp hm with e | hm
    · exact absurd F.ns.lt (e ▸ Nat.lt_irrefl _)
    · exact (N _ hd).2.1 (List.mem_singleton.mp hm).symm
  · intro b hb
    rw [List.mem_singleton.mp hb]
    exact next_is_new F
  · intro p hp hI
    exact absurd (Heap.lt_size (N p hp).1) ((List.mem_singleton.mp hI) ▸ Nat.lt_irrefl _)
  · rintro i v m₁ h tk own hi ⟨k, x', hk, hv⟩ hJ F' N'
    obtain ⟨t, rfl⟩ := Value.isStrOf_shape hv
    exact turn i k x' t m₁ h tk own hk hJ F' N'
  · exact done
end
end partL1
section partL2
section
variable {prog : Program} {w : World} {A₀ A : Around} {s : Shared} {base h₀ g₀ : Heap} {L a : Addr} {m : Str → Option Value} {news : List (Addr × Obj)} {K : Frag} {p : Program} {loose : List Str} {mean : ExcName → Option Value} {mg mb : Str → Option Value} {env : Env}
    {R : Result → Shared → Prop} {name qual : Str} {params : Arguments} {body : List Stmt} {scope : Scope} {dV kV doc pm cdv ct oc : Value} {an od : Option Addr} {osl : Array (Option Value)} {f : Addr} {args : Args} {binds : List (Str × Value)}
/-- a def that catches, called out of a frame that has none below it -/
theorem code_try (B : Below A₀ base [] h₀) (F : Fr h₀ L s.heap m) (X₀ : K.In h₀) (N : News h₀ L s.heap news) (T : Top p loose mean mg mb h₀) (hA : A.frames = some [env]) (hf : env.frame = some L) (hke : env.scope.kind = .function)
    (ho : K.lookup f = some ⟨oc, od, .func (fnOf name qual params body scope dV kV doc pm an cdv ct), osl⟩) (hcd : codeIn K cdv qual = true) (hroom : A.depth < recursionLimit)
    (hbind : BindsTo s (fnOf name qual params body scope dV kV doc pm an cdv ct) args binds) (hloc : ∀ y ∈ binds, scope.names.lookup y.1 = some .local)
    (h : ∀ g L' h₁, Fr h₀ L g m → Fr g L' h₁ (fun y => binds.reverse.lookup y) → News g L' h₁ news → Below A base [env] g → K.In g → Top p loose mean mg mb g → KtsDicts ([env].filterMap (·.frame)) g →
      wpAny (model prog w) (A.deeper (envOf qual scope L' f cdv)) (execs body (envOf qual scope L' f cdv))
        (fun fl s' => LeaveS0 ([env].filterMap (·.frame)) h₀ L m g R (match fl with | .ret v => v | _ => .none) s')
        (fun e s' => wpAny (model prog w) (A.deeper (envOf qual scope L' f cdv)) (leaving (envOf qual scope L' f cdv) e) (fun _ s'' => R (.error e) s'') (fun e' s'' => R (.error e') s'') s')
        { s with heap := h₁, toks := s.toks + binds.length })
    (hco : scope.isCoroutine = false) (hgen : scope.isGenerator = false) (hk : scope.kind = .function)
    (hcell : ∀ x ∈ scope.names, x.2 ≠ .cell) : codeAny (model prog w) A (.call (.ref f) args) R s := by
  have X := X₀.keeps F.keep
  obtain ⟨FG, BG, st, -⟩ := groundX (R := R) B F N hA hf hke
  have nL₀ : h₀.get? L = none := kts_self F
  have fsL : ∀ b ∈ [env].filterMap (·.frame), b = L := fun b hb => by
    obtain ⟨e, he, hfe⟩ := List.mem_filterMap.mp hb
    rw [List.mem_singleton.mp he, hf] at hfe
    exact (Option.some.inj hfe).symm
  obtain ⟨oL, es, ep, hLg, hLd, hLk, hLf⟩ := id FG.ns
  refine codeAny_call_def (fd := fnOf name qual params body scope dV kV doc pm an cdv ct) (body := body) (binds := binds) hroom (X _ _ ho) rfl (T.nolimit.keeps F.keep) (codeRec_of X hcd) rfl hbind hcell hloc (fun h₁ hns hk₁ => ?_) hco hgen hk
  refine wpAny_mono (h _ s.heap.objs.size h₁ FG ⟨hns, fun b o e => hk₁ b o (of_hideAll _ e), Nat.le_of_eq (hideAll_size _ _)⟩
    (fun p hp => ⟨hk₁ _ _ (N p hp).1, Nat.ne_of_lt (Heap.lt_size (N p hp).1), hideAll_none _ (List.mem_map_of_mem hp)⟩) BG (X₀.keeps st) (T.keeps st) (fun b hb => by
      rw [fsL b hb]; exact ⟨oL, es, ep, hLg, hLd⟩)) (fun fl s' hl => ?_) fun _ _ y => y
  obtain ⟨g', L', m', news', T', F', N', k⟩ := hl
  obtain ⟨sl, hs⟩ := T'.up hLg
  refine k ⟨⟨_, es, ep, F'.keep _ _ hs, hLd, hLk, hLf⟩, fun b o e => F'.keep b o (T'.other b o (st b o e) (fun q => by
    rw [fsL b q, nL₀] at e
    cases e)), F.above⟩ fun p hp => ⟨(N' p hp).1, fun q => ?_, ?_⟩
  · have := (N' p hp).2.2; rw [q, hs] at this; cases this
  · cases q : h₀.get? p.1 with
    | none => rfl
    | some o =>
      obtain ⟨sl', hs'⟩ := T'.up (st _ _ q)
      have := (N' p hp).2.2
      rw [hs'] at this
      cases this
end
end partL2
section partL3
section
variable {prog : Program} {w : World} {A : Around} {E : Value → Shared → Prop} {s : Shared} {h₀ : Heap} {L D d v : Addr} {m : Str → Option Value} {news : List (Addr × Obj)} {o : Obj}
theorem sort_strs {vs : List Value} {ss : List Str} {n : Nat} {Q : Value → Shared → Prop} (F : Fr h₀ L s.heap m) (N : News h₀ L s.heap ((D, listOf vs.toArray n) :: news)) (hap : ∀ p ∈ news, p.1 ≠ D) (hS : StrsAre vs ss) (h64 : vs.length < 64)
    (h : ∀ h' vs' ss' e, Fr h₀ L h' m → News h₀ L h' ((D, listOf (List.toArray vs') e) :: news) → StrsAre vs' ss' → ss'.Perm ss → sortedS ss' = true → Q .none { s with heap := h' }) :
    wpAny (model prog w) A (call (.builtin "list.sort") [.ref D]) Q E s := by
  have z := N _ (.head _)
  have ho : s.heap.get? D = some (seqObj "list" vs.toArray n) := z.1
  refine wpAny_call_entry PyProof.Rows.slot_list_sort ⟨_, z.1, rfl⟩ PyProof.Rows.entry_list_sort (list_sort_treeK strKind_oneLt ho hS.keysOf (fun v₁ v₂ rest e => keyKind_strs (by rw [← e]; exact hS)) h64 fun st' a1 a2 => ⟨.none, rfl, ?_⟩) (PyProof.Rows.args_list_sort _)
  obtain ⟨ss', b1, b2, b3⟩ := sorted_out_str hS a1 a2
  obtain ⟨e, he⟩ := sortedHeap_at (out := (arrOf st').map (·.2)) ho
  have old : ∀ b ob, b ≠ D → s.heap.get? b = some ob → (sortedHeap s.heap D vs ((arrOf st').map (·.2))).get? b = some ob := fun b ob hb q => by
    rw [sortedHeap_old hb (Heap.lt_size q)]; exact q
  obtain ⟨oL, x1, x2, hL, x3⟩ := F.ns
  refine h _ ((arrOf st').map (·.2)).toList ss' e ⟨⟨oL, x1, x2, old _ _ (Ne.symm z.2.1) hL, x3⟩, fun b ob q => old b ob (fun hb => by rw [hb, z.2.2] at q; cases q) (F.keep b ob q), F.above⟩ (fun p hp => ?_) b1 b2 b3
  rcases List.mem_cons.mp hp with rfl | hp
  · exact ⟨he, z.2⟩
  · have y := N p (.tail _ hp)
    exact ⟨old _ _ (hap p hp) y.1, y.2⟩

theorem sorted_keys {kvs : List (Str × Value)} {Q : Value → Shared → Prop} (hh : A.handled = none) (F : Fr h₀ L s.heap m) (N : News h₀ L s.heap news) (hv : (v, { cls := .type "dict_keys", data := .fields #[.ref d] }) ∈ news) (hp : (d, o) ∈ news) (hd : o.IsDictOf (PySem.strKind prog w) kvs) (h60 : kvs.length < 64)
    (h : ∀ B e h' tk vs ss, Fr h₀ L h' m → News h₀ L h' ((B, listOf (List.toArray vs) e) :: news) → (∀ q ∈ news, q.1 < B) → StrsAre vs ss → ss.Perm (kvs.map (·.1)) → sortedS ss = true → Q (.ref B) { s with heap := h', toks := tk }) :
    wpAny (model prog w) A (call (.builtin "sorted") [.ref v]) Q E s := by
  obtain ⟨ep, hat⟩ := (kda_dict N hp hd).dictAt
  refine kdu_sorted (kdl_keys (knd := PySem.strKind prog w) (kvs := kvs) (ep := ep)) hh F N ⟨⟨_, (N _ hv).1, rfl, rfl⟩, hat⟩ (kdl_size (by omega)) fun B h' tk vs F' N' l1 hl hv => ?_
  have hS : StrsAre vs (kvs.map (·.1)) := kdy_strs (by rw [hl, List.length_map]) fun j u hu => by
    obtain ⟨k, x, hx, hk⟩ := hv j u hu
    obtain ⟨t, rfl⟩ := Value.isStrOf_shape hk
    exact ⟨k, by rw [List.getElem?_map, hx]; rfl, t, rfl⟩
  exact sort_strs F' N' (fun p hp => Nat.ne_of_lt (l1 p hp)) hS (by omega) fun h'' vs' ss' e F'' N'' a b c => h B e h'' tk vs' ss' F'' N'' l1 a b c
theorem rising_pairwise : ∀ (p : Str) (l : List Str), risingS p l = true → (p :: l).Pairwise (fun a b => ¬ b.cps.toList < a.cps.toList)
  | p, [], _ => List.pairwise_singleton _ _
  | p, x :: r, h => by
    have h' : (!ltCps x.cps.toList p.cps.toList && risingS x r) = true := h
    rw [Bool.and_eq_true, Bool.not_eq_true', ltCps_eq] at h'
    have ih := rising_pairwise x r h'.2
    have hxp : ¬ x.cps.toList < p.cps.toList := of_decide_eq_false h'.1
    refine List.pairwise_cons.mpr ⟨fun y hy => ?_, ih⟩
    rcases List.mem_cons.mp hy with rfl | hy
    · exact hxp
    · have hyx := List.rel_of_pairwise_cons ih hy
      intro hlt
      exact hxp (List.lt_of_le_of_lt (List.not_lt.mp hyx) hlt)
theorem sorted_pairwise : ∀ (l : List Str), sortedS l = true → l.Pairwise (fun a b => ¬ b.cps.toList < a.cps.toList)
  | [], _ => List.Pairwise.nil
  | x :: r, h => rising_pairwise x r h
end
end partL3
section partC3
local macro_rules | `(tactic| walk_at "idle pad") => `(tactic| fail "idle")
local macro_rules | `(tactic| walk_at "idle pad") => `(tactic| fail "idle")
local macro_rules | `(tactic| walk_at "idle pad") => `(tactic| fail "idle")
local macro_rules | `(tactic| walk_at "idle pad") => `(tactic| fail "idle")
local macro_rules | `(tactic| walk_at "idle pad") => `(tactic| fail "idle")
local macro_rules | `(tactic| walk_at "idle pad") => `(tactic| fail "idle")
local macro_rules | `(tactic| walk_at "idle pad") => `(tactic| fail "idle")
local macro_rules | `(tactic| walk_at "idle pad") => `(tactic| fail "idle")
local macro_rules | `(tactic| walk_at "idle pad") => `(tactic| fail "idle")
local macro_rules | `(tactic| walk_at "idle pad") => `(tactic| fail "idle")
local macro_rules | `(tactic| walk_at "idle pad") => `(tactic| fail "idle")
local macro_rules | `(tactic| walk_at "idle pad") => `(tactic| fail "idle")
local macro_rules | `(tactic| walk_at "idle pad") => `(tactic| fail "idle")
local macro_rules | `(tactic| walk_at "idle pad") => `(tactic| fail "idle")
local macro_rules | `(tactic| walk_at "idle pad") => `(tactic| fail "idle")
local macro_rules | `(tactic| walk_at "idle pad") => `(tactic| fail "idle")
local macro_rules | `(tactic| walk_at "idle pad") => `(tactic| fail "idle")
local macro_rules | `(tactic| walk_at "idle pad") => `(tactic| fail "idle")
local macro_rules | `(tactic| walk_at "idle pad") => `(tactic| fail "idle")
local macro_rules | `(tactic| walk_at "idle pad") => `(tactic| fail "idle")
local macro_rules | `(tactic| walk_at "idle pad") => `(tactic| fail "idle")
local macro_rules | `(tactic| walk_at "idle pad") => `(tactic| fail "idle")
local macro_rules | `(tactic| walk_at "idle pad") => `(tactic| fail "idle")
local macro_rules | `(tactic| walk_at "idle pad") => `(tactic| fail "idle")
local macro_rules | `(tactic| walk_at "idle pad") => `(tactic| fail "idle")
local macro_rules | `(tactic| walk_at "idle pad") => `(tactic| fail "idle")
local macro_rules | `(tactic| walk_at "idle pad") => `(tactic| fail "idle")
local macro_rules | `(tactic| walk_at "idle pad") => `(tactic| fail "idle")
local macro_rules | `(tactic| walk_at "idle pad") => `(tactic| fail "idle")
local macro_rules | `(tactic| walk_at "idle pad") => `(tactic| fail "idle")
local macro_rules | `(tactic| walk_at "idle pad") => `(tactic| fail "idle")
local macro_rules | `(tactic| walk_at "idle pad") => `(tactic| fail "idle")
local macro_rules | `(tactic| walk_at "idle pad") => `(tactic| fail "idle")
local macro_rules | `(tactic| walk_at "idle pad") => `(tactic| fail "idle")
local macro_rules | `(tactic| walk_at "idle pad") => `(tactic| fail "idle")
local macro_rules | `(tactic| walk_at "idle pad") => `(tactic| fail "idle")
theorem bis_none {ks : List Str} {q : Str} {i : Int} (h : BisJ ks q i i) (hi : i = (ks.length : Int)) : ¬ ∃ k ∈ ks, q.cps.toList <+: k.cps.toList := by
  rintro ⟨k, hk, t, ht⟩
  obtain ⟨j, hj, e⟩ := List.getElem_of_mem hk
  have := h.2.2.2.1 j k (by omega) (by rw [List.getElem?_eq_getElem hj, e])
  rw [← ht] at this
  exact pre_ge _ _ this
theorem bis_some {ks : List Str} {q x : Str} {i : Int} (hs : ks.Pairwise (fun a b => ¬ b.cps.toList < a.cps.toList)) (h : BisJ ks q i i) (hx : ks[i.toNat]? = some x) : q.cps.toList <+: x.cps.toList ↔ ∃ k ∈ ks, q.cps.toList <+: k.cps.toList := by
  obtain ⟨h0, -, -, hlow, hhigh⟩ := h
  obtain ⟨hi, ex⟩ := List.getElem?_eq_some_iff.mp hx
  refine ⟨fun p => ⟨x, by rw [← ex]; exact List.getElem_mem hi, p⟩, ?_⟩
  rintro ⟨k, hk, t, ht⟩
  obtain ⟨j, hj, e⟩ := List.getElem_of_mem hk
  have e' : ks[j]? = some k := by rw [List.getElem?_eq_getElem hj, e]
  have hij : i.toNat ≤ j := by
    by_cases hlt : j < i.toNat
    · have := hlow j k (by omega) e'
      rw [← ht] at this
      exact absurd this (pre_ge _ _)
    · omega
  have h1 : ¬ x.cps.toList < q.cps.toList := hhigh i.toNat x (by omega) hx
  have h2 : ¬ k.cps.toList < x.cps.toList := by
    rcases Nat.eq_or_lt_of_le hij with q | q
    · subst q; rw [hx] at e'; cases e'; exact List.lt_irrefl _
    · have := List.pairwise_iff_getElem.mp hs i.toNat j hi hj q
      rwa [ex, e] at this
  exact pre_between _ _ t h1 (by rw [ht]; exact h2)

abbrev trieEs (w : World) (t1 t2 t3 t4 t5 : Tok) (bk ka tp : Addr) : List DictEntry :=
  [⟨PyData.keyHash w.params "_data", .str "_data" t1, .ref bk⟩, ⟨PyData.keyHash w.params "_keys", .str "_keys" t2, .ref ka⟩, ⟨PyData.keyHash w.params "_cachestr", .str "_cachestr" t3, .str (Str.ofString "") t5⟩, ⟨PyData.keyHash w.params "_cachepoints", .str "_cachepoints" t4, .ref tp⟩]
section
variable {w : World} {dp un : Nat} {gd : Option (List Code)} {cn : Str} {cs : Scope} {a : Addr} {ccd : Value} {cl : List (Str × Addr)} {outer : List Env} {A₀ : Around} {base h₀ : Heap} {L : Addr} {m : Str → Option Value} {p : Program} {loose : List Str} {mean : ExcName → Option Value} {mg mb : Str → Option Value} {news : List (Addr × Obj)} {s : Shared} {Q E : Value → Shared → Prop}
local macro_rules | `(tactic| walk_at "compareOp In str ref") => `(tactic| (k_here; refine kda_in (knd := PySem.strKind _ _) (by assumption) (by k_mem) (by assumption) (by assumption) (strKind_is _ _ _ _) _ rfl ?_))
local macro_rules | `(tactic| walk_at "call ref") => `(tactic| (k_here; (with_reducible show wpAny _ _ (call (Value.ref 22) _ _) _ _ _); k_dflt ((refine' bisect_ok ?x0 ?x1 ?x2 ?x3 ?x4 ?k1 ?k2 ?k3 ?k4 ?k5 ?kK ?kd ?ku ?_; (case x0 => k_mem); (case x1 => assumption); (case x2 => assumption); (case x3 => assumption); (case x4 => assumption); (case k1 => k_asm); (case k2 => k_asm); (case k3 => k_asm); (case k4 => k_asm); (case k5 => k_asm); (case kK => first | exact rfl | assumption); (case kd => ktr_room); (case ku => ktr_units)); intro i' t' h' tk' hJ' F' N'; (try dsimp only); (try k_fold))))
local macro_rules | `(tactic| walk_at "call builtin:len") => `(tactic| (k_here; (with_reducible show wpAny _ _ (call (Value.builtin "len") [Value.ref _]) _ _ _); refine len_news (by assumption) (by k_mem) (by assumption) (by assumption) ?_))
local macro_rules | `(tactic| walk_at "subscriptTail") => `(tactic| (k_here; (with_reducible show wpAny _ _ (subscriptTail _ _ (Value.ref _) (Value.int _ _)) _ _ _); (rename BisJ _ _ _ _ => hJx); (refine item_news (by assumption) (by k_mem) (by assumption) ?h0 ?h1 (by assumption) ?_); (case h0 => exact hJx.1); (case h1 => (obtain ⟨_, _, _, _, _⟩ := hJx; omega)); intro t' x' hx'))
set_option maxHeartbeats 4000000 in
theorem has_ok {x dx bk ka tp : Addr} {t1 t2 t3 t4 t5 tq ta tb : Tok} {ob : Obj} {kvs : List (Str × Value)} {vs : List Value} {ks : List Str} {n nt : Nat} {q : Str}
  (hx : (x, instObj 74 dx) ∈ news) (hdx : (dx, dictOf (trieEs w t1 t2 t3 t4 t5 bk ka tp) 4) ∈ news)
  (hbk : (bk, ob) ∈ news) (hob : ob.IsDictOf (PySem.strKind PySem.Challenge.rw_te0073_01.row.prog w) kvs) (hlo : (bk == sysModules) = false)
  (hka : (ka, listOf vs.toArray n) ∈ news) (hks : StrsAre vs ks) (hsort : ks.Pairwise (fun a b => ¬ b.cps.toList < a.cps.toList)) (hfit : ks.length < 2 ^ 62)
  (htp : (tp, ({ cls := .type "tuple", data := .seq #[.int 0 ta, .int (kvs.length : Nat) tb] nt } : Obj)) ∈ news) (hlen : kvs.length = ks.length) (hin : ∀ k, k ∈ ks ↔ (valueAt kvs k).isSome = true)
  (B : Below A₀ base outer h₀) (F : Fr h₀ L s.heap m) (X : (hd.heap_39 w.params).In h₀) (N : News h₀ L s.heap news) (T : Top p loose mean mg mb h₀) (hk : cs.kind = .function) (hdp : dp + 4 < recursionLimit) (hun : un + 40 < cLine)
  (ret : ∀ b h' tk', (b = true ↔ ∃ k ∈ ks, q.cps.toList <+: k.cps.toList) → Fr h₀ L h' m → News h₀ L h' news → Q (.bool b) { s with heap := h', toks := tk' }) :
  wpAny (model PySem.Challenge.rw_te0073_01.row.prog w) (ktrTop dp un gd cn cs L a ccd cl outer) (call (.ref 64) [.ref x, .str q tq]) Q E s := by
  have hJ0 : BisJ ks q 0 (kvs.length : Nat) := ⟨by omega, by omega, by omega, fun j y hj _ => by omega, fun j y hj hy => by
    obtain ⟨hj', _⟩ := List.getElem?_eq_some_iff.mp hy; omega⟩
  refine wpAny_call ?_
  k_dflt (refine' code_def ?k1 ?k2 ?k3 ?k4 ?k5 ?kA ?kF ?kK ?k6 ?k7 ?k8 ?k9 ?kB ?_ ?c2 ?c3 ?c4 ?c5; (case kA => exact rfl); (case kF => exact rfl); (case kK => assumption); (case k1 => k_asm); (case k2 => k_asm); (case k3 => k_asm); (case k4 => k_asm); (case k5 => k_asm); (case k6 => k_is); (case k7 => k_is); (case k8 => ktr_room); (case k9 => first | exact BindsTo.of_eq rfl | exact binds_K (by k_in) rfl (by k_is) rfl rfl rfl); (case c5 => decide); (case kB => exact locs rfl); (case c2 => exact rfl); (case c3 => exact rfl); (case c4 => exact rfl); k_whole; intro g' L' h' FG' F' N' B' X' T'; (try dsimp only); (try k_lift B'); (try k_fold))
  repeat' (first | (k_unfold; (try dsimp only)) | walk1 | (dsimp only; walk1) | (leave1; try dsimp only) | fail "no step")
  · refine ret true _ _ ⟨fun _ => ⟨q, (hin q).mpr (by assumption), List.prefix_rfl⟩, fun _ => rfl⟩ (by assumption) (by assumption)
  · rename BisJ _ _ _ _ => hJx
    rename _ = (ks.length : Int) => hie
    exact ret false _ _ ⟨fun z => (nomatch z), fun z => absurd z (bis_none hJx hie)⟩ (by assumption) (by assumption)
  · rename BisJ _ _ _ _ => hJx
    rename ks[_]? = some _ => hxx
    exact ret _ _ _ ((sw_iff _ _).trans (bis_some hsort hJx hxx)) (by assumption) (by assumption)
  · rename Txt.startswith _ _ = false => hf
    rw [sw_empty] at hf; cases hf
end
end partC3
section partC4
section
variable {w : World} {dp un : Nat} {gd : Option (List Code)} {cn : Str} {cs : Scope} {a : Addr} {ccd : Value} {cl : List (Str × Addr)} {outer : List Env} {A₀ : Around} {base h₀ : Heap} {L : Addr} {m : Str → Option Value} {p : Program} {loose : List Str} {mean : ExcName → Option Value} {mg mb : Str → Option Value} {news : List (Addr × Obj)} {s : Shared} {Q E : Value → Shared → Prop}
local macro_rules | `(tactic| walk_at "compareOp In str ref") => `(tactic| (k_here; refine kda_in (knd := PySem.strKind _ _) (by assumption) (by k_mem) (by assumption) (by assumption) (strKind_is _ _ _ _) _ rfl ?_))
local macro_rules | `(tactic| walk_at "pyIter ref") => `(tactic| refine Stop.out (P := wpAny _ _ _ _ _ _) ?_)
local macro_rules | `(tactic| walk_at "call ref") => `(tactic| (k_here; (with_reducible show wpAny _ _ (call (Value.ref _) _ _) _ _ _); refine wpAny_call ?_; k_dflt (refine' code_def ?k1 ?k2 ?k3 ?k4 ?k5 ?kA ?kF ?kK ?k6 ?k7 ?k8 ?k9 ?kB ?_ ?c2 ?c3 ?c4 ?c5; (case kA => exact rfl); (case kF => exact rfl); (case kK => first | exact rfl | assumption); (case k1 => k_asm); (case k2 => k_asm); (case k3 => k_asm); (case k4 => k_asm); (case k5 => k_asm); (case k6 => k_is); (case k7 => k_is); (case k8 => ktr_room); (case k9 => first | exact BindsTo.of_eq rfl | exact binds_K (by k_in) rfl (by k_is) rfl rfl rfl); (case c5 => decide); (case kB => exact locs rfl); (case c2 => exact rfl); (case c3 => exact rfl); (case c4 => exact rfl); k_whole; intro g' L' h' FG' F' N' B' X' T'; (try dsimp only); (try k_lift B'); (try k_fold))))
set_option maxHeartbeats 4000000 in
theorem found_ok {x dx bk ka tp : Addr} {t1 t2 t3 t4 t5 tq : Tok} {ob : Obj} {kvs : List (Str × Value)} {q : Str}
  (hx : (x, instObj 74 dx) ∈ news) (hdx : (dx, dictOf (trieEs w t1 t2 t3 t4 t5 bk ka tp) 4) ∈ news)
  (hbk : (bk, ob) ∈ news) (hob : ob.IsDictOf (PySem.strKind PySem.Challenge.rw_te0073_01.row.prog w) kvs) (hlo : (bk == sysModules) = false) (hq : q.length ≤ 1000)
  (B : Below A₀ h₀ [] h₀) (F : Fr h₀ L s.heap m) (X : (hd.heap_39 w.params).In h₀) (N : News h₀ L s.heap news) (T : Top p loose mean mg mb h₀) (hk : cs.kind = .function) (hdp : dp + 8 < recursionLimit) (hun : un + 80 < cLine)
  (ret : ∀ v h' tk', Longest (kvs.map (·.1)) q v → Fr h₀ L h' m → News h₀ L h' news → Q v { s with heap := h', toks := tk' }) :
  wpAny (model PySem.Challenge.rw_te0073_01.row.prog w) (ktrTop dp un gd cn cs L a ccd cl []) (call (.ref 121) [.ref x, .str q tq]) Q E s := by
  refine wpAny_call ?_
  k_dflt (refine' code_try ?k1 ?k2 ?k3 ?k4 ?k5 ?kA ?kF ?kK ?k6 ?k7 ?k8 ?k9 ?kB ?_ ?c2 ?c3 ?c4 ?c5; (case kA => exact rfl); (case kF => exact rfl); (case kK => first | exact rfl | assumption); (case k1 => k_asm); (case k2 => k_asm); (case k3 => k_asm); (case k4 => k_asm); (case k5 => k_asm); (case k6 => k_is); (case k7 => k_is); (case k8 => ktr_room); (case k9 => first | exact BindsTo.of_eq rfl | exact binds_K (by k_in) rfl (by k_is) rfl rfl rfl); (case c5 => decide); (case kB => exact locs rfl); (case c2 => exact rfl); (case c3 => exact rfl); (case c4 => exact rfl); k_whole; intro g' L' h' FG' F' N' B' X' T' D'; (try dsimp only); (try k_lift B'); (try k_fold))
  repeat' (first | (k_unfold; (try dsimp only)) | walk1 | (dsimp only; walk1) | (leave1; try dsimp only) | fail "no step")
  · refine ret _ _ _ ?_ (by assumption) (by assumption)
    have h := longest_hit (kvs := kvs) (q := q) (i := 0) (t := tq) (by omega) (fun n h1 h2 => by omega) (by rw [Nat.sub_zero, tkS_all (Nat.le_refl _)]; assumption)
    rwa [Nat.sub_zero, tkS_all (Nat.le_refl _)] at h
  · refine Stop.go ?_
    rename IsRange _ _ _ _ _ _ _ _ => hR
    rename Fr _ _ _ _ => F₁
    rename News _ _ _ _ => N₁
    rename (valueAt kvs q).isSome = false => hq0
    replace F₁ := fr_eq (m' := fun y => List.lookup y [(Str.ofString "prefix", .str q tq), (Str.ofString "self", .ref x)]) F₁ fun y => rfl
    refine iter_range_ro (n := q.length) (fun i m₁ => (∀ n, n ≤ q.length → q.length < n + i + 1 → valueAt kvs (tkS q n) = none) ∧ ∃ u, m₁ = fun y => if y = Str.ofString "i" then u else if y = Str.ofString "self" then some (.ref x) else if y = Str.ofString "prefix" then some (.str q tq) else none) rfl hR (by omega) (by omega) (by omega) (fr_eq F₁ ((fun y => if h1 : y = Str.ofString "i" then (by subst h1; rfl) else if h2 : y = Str.ofString "self" then (by subst h2; rfl) else if h3 : y = Str.ofString "prefix" then (by subst h3; rfl) else (by simp [h1, beq_false_of_ne h1, h2, beq_false_of_ne h2, h3, beq_false_of_ne h3, List.lookup])))) N₁ ⟨?j0, none, rfl⟩ ?turn ?done
    case j0 =>
      intro n h1 h2
      rw [tkS_all (by omega)]
      exact Option.not_isSome_iff_eq_none.mp (by rw [hq0]; exact Bool.false_ne_true)
    case turn =>
      rintro i t m₁ h₁ tk₁ own hi ⟨hno, u, rfl⟩ F₂ N₂
      clear F₁ N₁ hR
      have esl : Txt.slice q none (some (-(1 + (i : Int)))) = tkS q (q.length - (i + 1)) := by
        rw [← slice_neg q (i + 1) (by omega) (by omega)]; congr 3; omega
      repeat' (first | (k_unfold; (try dsimp only)) | walk1 | (dsimp only; walk1) | (leave1; try dsimp only) | fail "no step")
      · rename (valueAt kvs _).isSome = true => hin
        rw [esl] at hin ⊢
        exact ret _ _ _ (longest_hit (i := i + 1) (by omega) (fun n h1 h2 => hno n h1 (by omega)) hin) (by assumption) (cb_drop (by assumption) (fun p hp => List.mem_append_right _ hp))
      · rename (valueAt kvs _).isSome = false => hin
        rw [esl] at hin
        rename Fr _ _ _ _ => F₃
        refine InvEnd.intro (fr_eq F₃ ((fun y => if h1 : y = Str.ofString "i" then (by subst h1; rfl) else if h2 : y = Str.ofString "self" then (by subst h2; rfl) else if h3 : y = Str.ofString "prefix" then (by subst h3; rfl) else (by simp [h1, beq_false_of_ne h1, h2, beq_false_of_ne h2, h3, beq_false_of_ne h3, List.lookup])))) (by assumption) (fun p hp => hp) ⟨?_, _, rfl⟩
        intro n h1 h2
        by_cases hb : q.length < n + i + 1
        · exact hno n h1 hb
        · have e : n = q.length - (i + 1) := by omega
          subst e
          exact Option.not_isSome_iff_eq_none.mp (by rw [hin]; exact Bool.false_ne_true)
    case done =>
      rintro m₁ h₁ tk₁ ⟨hno, u, rfl⟩ F₂ N₂
      clear F₁ N₁ hR
      dsimp only
      repeat' (first | (k_unfold; (try dsimp only)) | walk1 | (dsimp only; walk1) | (leave1; try dsimp only) | fail "no step")
      exact ret _ _ _ (longest_miss (fun n h1 => hno n h1 (by omega))) (by assumption) (by assumption)
end
end partC4
section partC5
local macro_rules | `(tactic| walk_at "idle pad") => `(tactic| fail "idle")
local macro_rules | `(tactic| walk_at "idle pad") => `(tactic| fail "idle")
local macro_rules | `(tactic| walk_at "idle pad") => `(tactic| fail "idle")
local macro_rules | `(tactic| walk_at "idle pad") => `(tactic| fail "idle")
local macro_rules | `(tactic| walk_at "idle pad") => `(tactic| fail "idle")
local macro_rules | `(tactic| walk_at "idle pad") => `(tactic| fail "idle")
local macro_rules | `(tactic| walk_at "idle pad") => `(tactic| fail "idle")
local macro_rules | `(tactic| walk_at "idle pad") => `(tactic| fail "idle")
local macro_rules | `(tactic| walk_at "idle pad") => `(tactic| fail "idle")
local macro_rules | `(tactic| walk_at "idle pad") => `(tactic| fail "idle")
local macro_rules | `(tactic| walk_at "idle pad") => `(tactic| fail "idle")
local macro_rules | `(tactic| walk_at "idle pad") => `(tactic| fail "idle")
section
variable {w : World} {dp un : Nat} {gd : Option (List Code)} {cn : Str} {cs : Scope} {a : Addr} {ccd : Value} {cl : List (Str × Addr)} {outer : List Env} {A₀ : Around} {base h₀ : Heap} {L : Addr} {m : Str → Option Value} {p : Program} {loose : List Str} {mean : ExcName → Option Value} {mg mb : Str → Option Value} {news : List (Addr × Obj)} {s : Shared} {Q E : Value → Shared → Prop}
local macro_rules | `(tactic| walk_at "call ref") => `(tactic| (k_here; (with_reducible show wpAny _ _ (call (Value.ref _) _ _) _ _ _); refine wpAny_call ?_; k_dflt (refine' code_def ?k1 ?k2 ?k3 ?k4 ?k5 ?kA ?kF ?kK ?k6 ?k7 ?k8 ?k9 ?kB ?_ ?c2 ?c3 ?c4 ?c5; (case kA => exact rfl); (case kF => exact rfl); (case kK => first | exact rfl | assumption); (case k1 => k_asm); (case k2 => k_asm); (case k3 => k_asm); (case k4 => k_asm); (case k5 => k_asm); (case k6 => k_is); (case k7 => k_is); (case k8 => ktr_room); (case k9 => first | exact BindsTo.of_eq rfl | exact binds_K (by k_in) rfl (by k_is) rfl rfl rfl); (case c5 => decide); (case kB => exact locs rfl); (case c2 => exact rfl); (case c3 => exact rfl); (case c4 => exact rfl); k_whole; intro g' L' h' FG' F' N' B' X' T'; (try dsimp only); (try k_lift B'); (try k_fold))))
local macro_rules | `(tactic| walk_at "subscriptTail") => `(tactic| ((with_reducible show wpAny _ _ (subscriptTail _ _ (Value.ref _) (Value.str _ _)) _ _ _); refine Stop.out (P := wpAny _ _ _ _ _ _) ?_))
set_option maxHeartbeats 4000000 in
theorem item_ok {x dx bk ka tp : Addr} {t1 t2 t3 t4 t5 tq : Tok} {ob : Obj} {kvs : List (Str × Value)} {q : Str}
  (hx : (x, instObj 74 dx) ∈ news) (hdx : (dx, dictOf (trieEs w t1 t2 t3 t4 t5 bk ka tp) 4) ∈ news)
  (hbk : (bk, ob) ∈ news) (hob : ob.IsDictOf (PySem.strKind PySem.Challenge.rw_te0073_01.row.prog w) kvs) (hlo : (bk == sysModules) = false)
  (B : Below A₀ h₀ [] h₀) (F : Fr h₀ L s.heap m) (X : (hd.heap_39 w.params).In h₀) (N : News h₀ L s.heap news) (T : Top p loose mean mg mb h₀) (hk : cs.kind = .function) (hdp : dp + 8 < recursionLimit) (hun : un + 80 < cLine)
  (ret : ∀ D n h' tk', Fr h₀ L h' m → News h₀ L h' ((D, listOf (valueAt kvs q).toList.toArray n) :: news) → (∀ p ∈ news, p.1 < D) → Q (.ref D) { s with heap := h', toks := tk' }) :
  wpAny (model PySem.Challenge.rw_te0073_01.row.prog w) (ktrTop dp un gd cn cs L a ccd cl []) (call (.ref 128) [.ref x, .str q tq]) Q E s := by
  refine wpAny_call ?_
  k_dflt (refine' code_try ?k1 ?k2 ?k3 ?k4 ?k5 ?kA ?kF ?kK ?k6 ?k7 ?k8 ?k9 ?kB ?_ ?c2 ?c3 ?c4 ?c5; (case kA => exact rfl); (case kF => exact rfl); (case kK => first | exact rfl | assumption); (case k1 => k_asm); (case k2 => k_asm); (case k3 => k_asm); (case k4 => k_asm); (case k5 => k_asm); (case k6 => k_is); (case k7 => k_is); (case k8 => ktr_room); (case k9 => first | exact BindsTo.of_eq rfl | exact binds_K (by k_in) rfl (by k_is) rfl rfl rfl); (case c5 => decide); (case kB => exact locs rfl); (case c2 => exact rfl); (case c3 => exact rfl); (case c4 => exact rfl); k_whole; intro g' L' h' FG' F' N' B' X' T' D'; (try dsimp only); (try k_lift B'); (try k_fold))
  repeat' (first | (k_unfold; (try dsimp only)) | walk1 | (dsimp only; walk1) | (leave1; try dsimp only) | fail "no step")
  refine Stop.go ?_
  rename Fr _ _ _ _ => F₁
  rename News _ _ _ _ => N₁
  refine kdt_tail (knd := PySem.strKind _ _) N₁ hbk hob ?_
  cases hl : valueAt kvs q with
  | some v =>
    refine kdt_getItem (knd := PySem.strKind _ _) N₁ hbk hob (strKind_is _ _ _ _) hl ?_
    rw [hl] at ret
    dsimp only
    repeat' (first | (k_unfold; (try dsimp only)) | walk1 | (dsimp only; walk1) | (leave1; try dsimp only) | fail "no step")
    exact ret _ _ _ _ (by assumption) (by assumption) (by assumption)
  | none =>
    refine wpAny_getItem_missing_of (knd := PySem.strKind _ _) (strKind_is _ _ _ _) hlo rfl (kda_dict N₁ hbk hob).mapOf hl ?_
    intro h₂ e₂ x₂
    rw [hl] at ret
    dsimp only
    repeat' (first | (k_unfold; (try dsimp only)) | walk1 | (dsimp only; walk1) | (leave1; try dsimp only) | fail "no step")
    exact ret _ _ _ _ (by assumption) (by assumption) (by assumption)
end
end partC5
section partC6
local macro_rules | `(tactic| walk_at "idle pad") => `(tactic| fail "idle")
local macro_rules | `(tactic| walk_at "idle pad") => `(tactic| fail "idle")
local macro_rules | `(tactic| walk_at "idle pad") => `(tactic| fail "idle")
local macro_rules | `(tactic| walk_at "idle pad") => `(tactic| fail "idle")
local macro_rules | `(tactic| walk_at "idle pad") => `(tactic| fail "idle")
local macro_rules | `(tactic| walk_at "idle pad") => `(tactic| fail "idle")
local macro_rules | `(tactic| walk_at "idle pad") => `(tactic| fail "idle")
local macro_rules | `(tactic| walk_at "idle pad") => `(tactic| fail "idle")
local macro_rules | `(tactic| walk_at "idle pad") => `(tactic| fail "idle")
local macro_rules | `(tactic| walk_at "idle pad") => `(tactic| fail "idle")
local macro_rules | `(tactic| walk_at "idle pad") => `(tactic| fail "idle")
local macro_rules | `(tactic| walk_at "idle pad") => `(tactic| fail "idle")
local macro_rules | `(tactic| walk_at "idle pad") => `(tactic| fail "idle")
local macro_rules | `(tactic| walk_at "idle pad") => `(tactic| fail "idle")
local macro_rules | `(tactic| walk_at "idle pad") => `(tactic| fail "idle")
local macro_rules | `(tactic| walk_at "idle pad") => `(tactic| fail "idle")
local macro_rules | `(tactic| walk_at "idle pad") => `(tactic| fail "idle")
local macro_rules | `(tactic| walk_at "idle pad") => `(tactic| fail "idle")
local macro_rules | `(tactic| walk_at "idle pad") => `(tactic| fail "idle")
local macro_rules | `(tactic| walk_at "idle pad") => `(tactic| fail "idle")
local macro_rules | `(tactic| walk_at "idle pad") => `(tactic| fail "idle")
local macro_rules | `(tactic| walk_at "idle pad") => `(tactic| fail "idle")
local macro_rules | `(tactic| walk_at "idle pad") => `(tactic| fail "idle")
local macro_rules | `(tactic| walk_at "idle pad") => `(tactic| fail "idle")
section
variable {w : World} {dp un : Nat} {gd : Option (List Code)} {cn : Str} {cs : Scope} {a : Addr} {ccd : Value} {cl : List (Str × Addr)} {outer : List Env} {A₀ : Around} {base h₀ : Heap} {L : Addr} {m : Str → Option Value} {p : Program} {loose : List Str} {mean : ExcName → Option Value} {mg mb : Str → Option Value} {news : List (Addr × Obj)} {s : Shared} {Q E : Value → Shared → Prop}
local macro_rules | `(tactic| walk_at "call ref") => `(tactic| (k_here; (with_reducible show wpAny _ _ (call (Value.ref _) _ _) _ _ _); refine wpAny_call ?_; k_dflt (refine' code_def ?k1 ?k2 ?k3 ?k4 ?k5 ?kA ?kF ?kK ?k6 ?k7 ?k8 ?k9 ?kB ?_ ?c2 ?c3 ?c4 ?c5; (case kA => exact rfl); (case kF => exact rfl); (case kK => first | exact rfl | assumption); (case k1 => k_asm); (case k2 => k_asm); (case k3 => k_asm); (case k4 => k_asm); (case k5 => k_asm); (case k6 => k_is); (case k7 => k_is); (case k8 => ktr_room); (case k9 => first | exact BindsTo.of_eq rfl | exact binds_K (by k_in) rfl (by k_is) rfl rfl rfl); (case c5 => decide); (case kB => exact locs rfl); (case c2 => exact rfl); (case c3 => exact rfl); (case c4 => exact rfl); k_whole; intro g' L' h' FG' F' N' B' X' T'; (try dsimp only); (try k_lift B'); (try k_fold))))
local macro_rules | `(tactic| walk_at "exec For Name Name cons nil") => `(tactic| (k_here; (rename Fr _ _ _ _ => lF'); (with_unfolding_all refine' For_invVF lF' ?k1 ?k2 ?_; (case k1 => exact rfl); (case k2 => exact rfl))))
local macro_rules | `(tactic| walk_at "exec For Name Call cons nil") => `(tactic| (k_here; (rename Fr _ _ _ _ => lF'); (with_unfolding_all refine' For_invVF lF' ?k1 ?k2 ?_; (case k1 => exact rfl); (case k2 => exact rfl))))
local macro_rules | `(tactic| walk_at "pyIter ref") => `(tactic| refine Stop.out (P := wpAny _ _ _ _ _ _) ?_)
theorem some_split {kvs : List (Str × Value)} {i : Nat} {k : Str} {v : Value} (h : kvs[i]? = some (k, v)) : k ∈ kvs.map (·.1) := List.mem_map.mpr ⟨(k, v), List.mem_of_getElem? h, rfl⟩
set_option maxHeartbeats 4000000 in
theorem some_ok {bk : Addr} {tq : Tok} {ob : Obj} {kvs : List (Str × Value)} {q : Str}
  (hbk : (bk, ob) ∈ news) (hob : ob.IsDictOf (PySem.strKind PySem.Challenge.rw_te0073_01.row.prog w) kvs) (hlo : (bk == sysModules) = false) (hq : q.length ≤ 1000) (hks : ∀ k ∈ kvs.map (·.1), k.length ≤ 1000)
  (B : Below A₀ base outer h₀) (F : Fr h₀ L s.heap m) (X : (hd.heap_39 w.params).In h₀) (N : News h₀ L s.heap news) (T : Top p loose mean mg mb h₀) (hk : cs.kind = .function) (hdp : dp + 8 < recursionLimit) (hun : un + 80 < cLine)
  (ret : ∀ b t h' tk', (b = true ↔ ∃ k ∈ kvs.map (·.1), q.cps.toList <+: k.cps.toList) → Fr h₀ L h' m → News h₀ L h' news → Q (.str (if b = true then Str.ofString "yes" else Str.ofString "no") t) { s with heap := h', toks := tk' }) :
  wpAny (model PySem.Challenge.rw_te0073_01.row.prog w) (ktrTop dp un gd cn cs L a ccd cl outer) (call (.ref 100) [.ref bk, .str q tq]) Q E s := by
  refine wpAny_call ?_
  k_dflt (refine' code_def ?k1 ?k2 ?k3 ?k4 ?k5 ?kA ?kF ?kK ?k6 ?k7 ?k8 ?k9 ?kB ?_ ?c2 ?c3 ?c4 ?c5; (case kA => exact rfl); (case kF => exact rfl); (case kK => assumption); (case k1 => k_asm); (case k2 => k_asm); (case k3 => k_asm); (case k4 => k_asm); (case k5 => k_asm); (case k6 => k_is); (case k7 => k_is); (case k8 => ktr_room); (case k9 => first | exact BindsTo.of_eq rfl | exact binds_K (by k_in) rfl (by k_is) rfl rfl rfl); (case c5 => decide); (case kB => exact locs rfl); (case c2 => exact rfl); (case c3 => exact rfl); (case c4 => exact rfl); k_whole; intro g' L' h' FG' F' N' B' X' T'; (try dsimp only); (try k_lift B'); (try k_fold))
  repeat' (first | (k_unfold; (try dsimp only)) | walk1 | (dsimp only; walk1) | (leave1; try dsimp only) | fail "no step")
  refine Stop.go ?_
  rename Fr _ _ _ _ => F₁
  rename News _ _ _ _ => N₁
  replace F₁ := fr_eq (m' := fun y => List.lookup y [(Str.ofString "ask", .str q tq), (Str.ofString "book", .ref bk)]) F₁ fun y => rfl
  refine iter_keys_ro (fun i m₁ => (∀ k ∈ (kvs.take i).map (·.1), ¬ q.cps.toList <+: k.cps.toList) ∧ ∃ u, m₁ = fun y => if y = Str.ofString "key" then u else if y = Str.ofString "ask" then some (.str q tq) else if y = Str.ofString "book" then some (.ref bk) else none) rfl hbk hob hlo (fr_eq F₁ ((fun y => if h1 : y = Str.ofString "key" then (by subst h1; rfl) else if h2 : y = Str.ofString "ask" then (by subst h2; rfl) else if h3 : y = Str.ofString "book" then (by subst h3; rfl) else (by simp [h1, beq_false_of_ne h1, h2, beq_false_of_ne h2, h3, beq_false_of_ne h3, List.lookup])))) N₁ ⟨by simp, none, rfl⟩ ?turn ?done
  case turn =>
    rintro i k v t m₁ h₁ tk₁ own hk ⟨hno, u, rfl⟩ F₂ N₂
    clear F₁ N₁
    have hkl := hks k (some_split hk)
    repeat' (first | (k_unfold; (try dsimp only)) | walk1 | (dsimp only; walk1) | (leave1; try dsimp only) | fail "no step")
    · rename (Txt.slice _ _ _ == _) = true => he
      rw [slice_to, beq_iff_eq, tkS_eq_iff] at he
      exact ret true _ _ _ ⟨fun _ => ⟨k, some_split hk, he⟩, fun _ => rfl⟩ (by assumption) (cb_drop (by assumption) (fun p hp => List.mem_append_right _ hp))
    · rename (Txt.slice _ _ _ == _) = false => he
      rw [slice_to, beq_eq_false_iff_ne, ne_eq, tkS_eq_iff] at he
      rename Fr _ _ _ _ => F₃
      refine InvEnd.intro (fr_eq F₃ ((fun y => if h1 : y = Str.ofString "key" then (by subst h1; rfl) else if h2 : y = Str.ofString "ask" then (by subst h2; rfl) else if h3 : y = Str.ofString "book" then (by subst h3; rfl) else (by simp [h1, beq_false_of_ne h1, h2, beq_false_of_ne h2, h3, beq_false_of_ne h3, List.lookup])))) (by assumption) (fun p hp => hp) ⟨?_, _, rfl⟩
      rw [List.take_add_one, hk]
      intro k' hk'
      rw [List.map_append, List.mem_append] at hk'
      rcases hk' with hk' | hk'
      · exact hno k' hk'
      · simp at hk'; subst hk'; exact he
  case done =>
    rintro m₁ h₁ tk₁ ⟨hno, u, rfl⟩ F₂ N₂
    clear F₁ N₁
    dsimp only
    repeat' (first | (k_unfold; (try dsimp only)) | walk1 | (dsimp only; walk1) | (leave1; try dsimp only) | fail "no step")
    rw [List.take_length] at hno
    exact ret false _ _ _ ⟨fun z => (nomatch z), fun ⟨k, hk, hp⟩ => absurd hp (hno k hk)⟩ (by assumption) (by assumption)
end
end partC6
section partC7
local macro_rules | `(tactic| walk_at "idle pad") => `(tactic| fail "idle")
local macro_rules | `(tactic| walk_at "idle pad") => `(tactic| fail "idle")
local macro_rules | `(tactic| walk_at "idle pad") => `(tactic| fail "idle")
local macro_rules | `(tactic| walk_at "idle pad") => `(tactic| fail "idle")
local macro_rules | `(tactic| walk_at "idle pad") => `(tactic| fail "idle")
local macro_rules | `(tactic| walk_at "idle pad") => `(tactic| fail "idle")
local macro_rules | `(tactic| walk_at "idle pad") => `(tactic| fail "idle")
local macro_rules | `(tactic| walk_at "idle pad") => `(tactic| fail "idle")
local macro_rules | `(tactic| walk_at "idle pad") => `(tactic| fail "idle")
local macro_rules | `(tactic| walk_at "idle pad") => `(tactic| fail "idle")
local macro_rules | `(tactic| walk_at "idle pad") => `(tactic| fail "idle")
local macro_rules | `(tactic| walk_at "idle pad") => `(tactic| fail "idle")
local macro_rules | `(tactic| walk_at "idle pad") => `(tactic| fail "idle")
local macro_rules | `(tactic| walk_at "idle pad") => `(tactic| fail "idle")
local macro_rules | `(tactic| walk_at "idle pad") => `(tactic| fail "idle")
local macro_rules | `(tactic| walk_at "idle pad") => `(tactic| fail "idle")
local macro_rules | `(tactic| walk_at "idle pad") => `(tactic| fail "idle")
local macro_rules | `(tactic| walk_at "idle pad") => `(tactic| fail "idle")
local macro_rules | `(tactic| walk_at "idle pad") => `(tactic| fail "idle")
local macro_rules | `(tactic| walk_at "idle pad") => `(tactic| fail "idle")
local macro_rules | `(tactic| walk_at "idle pad") => `(tactic| fail "idle")
local macro_rules | `(tactic| walk_at "idle pad") => `(tactic| fail "idle")
local macro_rules | `(tactic| walk_at "idle pad") => `(tactic| fail "idle")
local macro_rules | `(tactic| walk_at "idle pad") => `(tactic| fail "idle")
local macro_rules | `(tactic| walk_at "idle pad") => `(tactic| fail "idle")
local macro_rules | `(tactic| walk_at "idle pad") => `(tactic| fail "idle")
local macro_rules | `(tactic| walk_at "idle pad") => `(tactic| fail "idle")
local macro_rules | `(tactic| walk_at "idle pad") => `(tactic| fail "idle")
local macro_rules | `(tactic| walk_at "idle pad") => `(tactic| fail "idle")
local macro_rules | `(tactic| walk_at "idle pad") => `(tactic| fail "idle")
local macro_rules | `(tactic| walk_at "idle pad") => `(tactic| fail "idle")
local macro_rules | `(tactic| walk_at "idle pad") => `(tactic| fail "idle")
local macro_rules | `(tactic| walk_at "idle pad") => `(tactic| fail "idle")
local macro_rules | `(tactic| walk_at "idle pad") => `(tactic| fail "idle")
local macro_rules | `(tactic| walk_at "idle pad") => `(tactic| fail "idle")
local macro_rules | `(tactic| walk_at "idle pad") => `(tactic| fail "idle")
section
variable {w : World} {dp un : Nat} {gd : Option (List Code)} {cn : Str} {cs : Scope} {a : Addr} {ccd : Value} {cl : List (Str × Addr)} {outer : List Env} {A₀ : Around} {base h₀ : Heap} {L : Addr} {m : Str → Option Value} {p : Program} {loose : List Str} {mean : ExcName → Option Value} {mg mb : Str → Option Value} {news : List (Addr × Obj)} {s : Shared} {Q E : Value → Shared → Prop}
local macro_rules | `(tactic| walk_at "call ref") => `(tactic| (k_here; (with_reducible show wpAny _ _ (call (Value.ref _) _ _) _ _ _); refine wpAny_call ?_; k_dflt (refine' code_def ?k1 ?k2 ?k3 ?k4 ?k5 ?kA ?kF ?kK ?k6 ?k7 ?k8 ?k9 ?kB ?_ ?c2 ?c3 ?c4 ?c5; (case kA => exact rfl); (case kF => exact rfl); (case kK => first | exact rfl | assumption); (case k1 => k_asm); (case k2 => k_asm); (case k3 => k_asm); (case k4 => k_asm); (case k5 => k_asm); (case k6 => k_is); (case k7 => k_is); (case k8 => ktr_room); (case k9 => first | exact BindsTo.of_eq rfl | exact binds_K (by k_in) rfl (by k_is) rfl rfl rfl); (case c5 => decide); (case kB => exact locs rfl); (case c2 => exact rfl); (case c3 => exact rfl); (case c4 => exact rfl); k_whole; intro g' L' h' FG' F' N' B' X' T'; (try dsimp only); (try k_lift B'); (try k_fold))))
local macro_rules | `(tactic| walk_at "exec For Name Name cons nil") => `(tactic| (k_here; (rename Fr _ _ _ _ => lF'); (with_unfolding_all refine' For_invVF lF' ?k1 ?k2 ?_; (case k1 => exact rfl); (case k2 => exact rfl))))
local macro_rules | `(tactic| walk_at "exec For Name Call cons nil") => `(tactic| (k_here; (rename Fr _ _ _ _ => lF'); (with_unfolding_all refine' For_invVF lF' ?k1 ?k2 ?_; (case k1 => exact rfl); (case k2 => exact rfl))))
local macro_rules | `(tactic| walk_at "pyIter ref") => `(tactic| refine Stop.out (P := wpAny _ _ _ _ _ _) ?_)
theorem longest_keep {keys : List Str} {q k : Str} {v : Value} (h : Longest keys q v) (hk : ¬ k.cps.toList <+: q.cps.toList) : Longest (keys ++ [k]) q v := by
  rcases h with ⟨b, t, rfl, hb, hp, hm⟩ | ⟨rfl, hn⟩
  · refine .inl ⟨b, t, rfl, List.mem_append_left _ hb, hp, fun k' hk' hp' => ?_⟩
    rcases List.mem_append.mp hk' with h | h
    · exact hm k' h hp'
    · rw [List.mem_singleton.mp h] at hp'; exact absurd hp' hk
  · refine .inr ⟨rfl, fun k' hk' hp' => ?_⟩
    rcases List.mem_append.mp hk' with h | h
    · exact hn k' h hp'
    · rw [List.mem_singleton.mp h] at hp'; exact absurd hp' hk
theorem longest_first {keys : List Str} {q k : Str} {t : Tok} (hn : ∀ k' ∈ keys, ¬ k'.cps.toList <+: q.cps.toList) (hk : k.cps.toList <+: q.cps.toList) : Longest (keys ++ [k]) q (.str k t) := by
  refine .inl ⟨k, t, rfl, List.mem_append_right _ (List.mem_singleton.mpr rfl), hk, fun k' hk' hp' => ?_⟩
  rcases List.mem_append.mp hk' with h | h
  · exact absurd hp' (hn k' h)
  · rw [List.mem_singleton.mp h]; exact Nat.le_refl _
theorem longest_next {keys : List Str} {q k b : Str} {t : Tok} (hm : ∀ k' ∈ keys, k'.cps.toList <+: q.cps.toList → k'.length ≤ b.length) (hk : k.cps.toList <+: q.cps.toList) (hl : b.length < k.length) : Longest (keys ++ [k]) q (.str k t) := by
  refine .inl ⟨k, t, rfl, List.mem_append_right _ (List.mem_singleton.mpr rfl), hk, fun k' hk' hp' => ?_⟩
  rcases List.mem_append.mp hk' with h | h
  · have := hm k' h hp'; omega
  · rw [List.mem_singleton.mp h]; exact Nat.le_refl _
theorem longest_stay {keys : List Str} {q k b : Str} {t : Tok} (hb : b ∈ keys) (hp : b.cps.toList <+: q.cps.toList) (hm : ∀ k' ∈ keys, k'.cps.toList <+: q.cps.toList → k'.length ≤ b.length) (hl : ¬ b.length < k.length) : Longest (keys ++ [k]) q (.str b t) := by
  refine .inl ⟨b, t, rfl, List.mem_append_left _ hb, hp, fun k' hk' hp' => ?_⟩
  rcases List.mem_append.mp hk' with h | h
  · exact hm k' h hp'
  · rw [List.mem_singleton.mp h]; omega
theorem take_keys {kvs : List (Str × Value)} {i : Nat} {k : Str} {v : Value} (h : kvs[i]? = some (k, v)) : (kvs.take (i + 1)).map (·.1) = (kvs.take i).map (·.1) ++ [k] := by
  rw [List.take_add_one, h]; simp
set_option maxHeartbeats 4000000 in
theorem longest_ok {bk : Addr} {tq : Tok} {ob : Obj} {kvs : List (Str × Value)} {q : Str}
  (hbk : (bk, ob) ∈ news) (hob : ob.IsDictOf (PySem.strKind PySem.Challenge.rw_te0073_01.row.prog w) kvs) (hlo : (bk == sysModules) = false) (hq : q.length ≤ 1000) (hks : ∀ k ∈ kvs.map (·.1), k.length ≤ 1000)
  (B : Below A₀ base outer h₀) (F : Fr h₀ L s.heap m) (X : (hd.heap_39 w.params).In h₀) (N : News h₀ L s.heap news) (T : Top p loose mean mg mb h₀) (hk : cs.kind = .function) (hdp : dp + 8 < recursionLimit) (hun : un + 80 < cLine)
  (ret : ∀ v h' tk', Longest (kvs.map (·.1)) q v → Fr h₀ L h' m → News h₀ L h' news → Q v { s with heap := h', toks := tk' }) :
  wpAny (model PySem.Challenge.rw_te0073_01.row.prog w) (ktrTop dp un gd cn cs L a ccd cl outer) (call (.ref 107) [.ref bk, .str q tq]) Q E s := by
  refine wpAny_call ?_
  k_dflt (refine' code_def ?k1 ?k2 ?k3 ?k4 ?k5 ?kA ?kF ?kK ?k6 ?k7 ?k8 ?k9 ?kB ?_ ?c2 ?c3 ?c4 ?c5; (case kA => exact rfl); (case kF => exact rfl); (case kK => assumption); (case k1 => k_asm); (case k2 => k_asm); (case k3 => k_asm); (case k4 => k_asm); (case k5 => k_asm); (case k6 => k_is); (case k7 => k_is); (case k8 => ktr_room); (case k9 => first | exact BindsTo.of_eq rfl | exact binds_K (by k_in) rfl (by k_is) rfl rfl rfl); (case c5 => decide); (case kB => exact locs rfl); (case c2 => exact rfl); (case c3 => exact rfl); (case c4 => exact rfl); k_whole; intro g' L' h' FG' F' N' B' X' T'; (try dsimp only); (try k_lift B'); (try k_fold))
  repeat' (first | (k_unfold; (try dsimp only)) | walk1 | (dsimp only; walk1) | (leave1; try dsimp only) | fail "no step")
  refine Stop.go ?_
  rename Fr _ _ _ _ => F₁
  rename News _ _ _ _ => N₁
  replace F₁ := fr_eq (m' := fun y => if y = Str.ofString "best" then some .none else List.lookup y [(Str.ofString "ask", .str q tq), (Str.ofString "book", .ref bk)]) F₁ fun y => rfl
  refine iter_keys_ro (fun i m₁ => ∃ v, Longest ((kvs.take i).map (·.1)) q v ∧ ∃ u, m₁ = fun y => if y = Str.ofString "best" then some v else if y = Str.ofString "key" then u else if y = Str.ofString "ask" then some (.str q tq) else if y = Str.ofString "book" then some (.ref bk) else none) rfl hbk hob hlo (fr_eq F₁ ((fun y => if h1 : y = Str.ofString "best" then (by subst h1; rfl) else if h2 : y = Str.ofString "key" then (by subst h2; rfl) else if h3 : y = Str.ofString "ask" then (by subst h3; rfl) else if h4 : y = Str.ofString "book" then (by subst h4; rfl) else (by simp [h1, beq_false_of_ne h1, h2, beq_false_of_ne h2, h3, beq_false_of_ne h3, h4, beq_false_of_ne h4, List.lookup])))) N₁ ⟨.none, .inr ⟨rfl, by simp⟩, none, rfl⟩ ?turn ?done
  case turn =>
    rintro i k v t m₁ h₁ tk₁ own hk ⟨bv, hbv, u, rfl⟩ F₂ N₂
    clear F₁ N₁
    have hkl := hks k (some_split hk)
    have hpk : ∀ b, (Txt.slice q none (some (k.length : Int)) == k) = b → (b = true ↔ k.cps.toList <+: q.cps.toList) := fun b hb => by rw [← hb, slice_to, beq_iff_eq, tkS_eq_iff]
    have hend : ∀ {v' : Value} {u' : Option Value} {m' : Str → Option Value} {h' tk'}, Longest ((kvs.take i).map (·.1) ++ [k]) q v' → Fr g' L' h' m' → News g' L' h' (own ++ news) → (∀ y, m' y = if y = Str.ofString "best" then some v' else if y = Str.ofString "key" then u' else if y = Str.ofString "ask" then some (.str q tq) else if y = Str.ofString "book" then some (.ref bk) else none) →
       InvEnd g' L' (fun m₁ => ∃ v, Longest ((kvs.take (i + 1)).map (·.1)) q v ∧ ∃ u, m₁ = fun y => if y = Str.ofString "best" then some v else if y = Str.ofString "key" then u else if y = Str.ofString "ask" then some (.str q tq) else if y = Str.ofString "book" then some (.ref bk) else none) (own ++ news) { s with heap := h₁, toks := tk₁ } { s with heap := h', toks := tk' } := by
      intro v' u' m' h' tk' hL F N e
      exact InvEnd.intro (fr_eq F e) N (fun p hp => hp) ⟨v', by rw [take_keys hk]; exact hL, _, rfl⟩
    rcases hbv with ⟨b, tb, rfl, hb, hp, hm⟩ | ⟨rfl, hn⟩
    · have hbl : b.length ≤ 1000 := hks b (List.mem_map.mpr (by obtain ⟨p, hp', e⟩ := List.mem_map.mp hb; exact ⟨p, List.mem_of_mem_take hp', e⟩))
      repeat' (first | (k_unfold; (try dsimp only)) | walk1 | (dsimp only; walk1) | (leave1; try dsimp only) | fail "no step")
      · rename (Txt.slice _ _ _ == _) = true => he
        exact hend (longest_next hm ((hpk _ he).mp rfl) (by omega)) (by assumption) (by assumption) ((fun y => if h1 : y = Str.ofString "best" then (by subst h1; rfl) else if h2 : y = Str.ofString "key" then (by subst h2; rfl) else if h3 : y = Str.ofString "ask" then (by subst h3; rfl) else if h4 : y = Str.ofString "book" then (by subst h4; rfl) else (by simp [h1, beq_false_of_ne h1, h2, beq_false_of_ne h2, h3, beq_false_of_ne h3, h4, beq_false_of_ne h4, List.lookup])))
      · rename (Txt.slice _ _ _ == _) = true => he
        exact hend (longest_stay (t := tb) hb hp hm (by omega)) (by assumption) (by assumption) ((fun y => if h1 : y = Str.ofString "best" then (by subst h1; rfl) else if h2 : y = Str.ofString "key" then (by subst h2; rfl) else if h3 : y = Str.ofString "ask" then (by subst h3; rfl) else if h4 : y = Str.ofString "book" then (by subst h4; rfl) else (by simp [h1, beq_false_of_ne h1, h2, beq_false_of_ne h2, h3, beq_false_of_ne h3, h4, beq_false_of_ne h4, List.lookup])))
      · rename (Txt.slice _ _ _ == _) = false => he
        exact hend (longest_keep (.inl ⟨b, tb, rfl, hb, hp, hm⟩) (fun z => Bool.false_ne_true ((hpk _ he).mpr z))) (by assumption) (by assumption) ((fun y => if h1 : y = Str.ofString "best" then (by subst h1; rfl) else if h2 : y = Str.ofString "key" then (by subst h2; rfl) else if h3 : y = Str.ofString "ask" then (by subst h3; rfl) else if h4 : y = Str.ofString "book" then (by subst h4; rfl) else (by simp [h1, beq_false_of_ne h1, h2, beq_false_of_ne h2, h3, beq_false_of_ne h3, h4, beq_false_of_ne h4, List.lookup])))
    · repeat' (first | (k_unfold; (try dsimp only)) | walk1 | (dsimp only; walk1) | (leave1; try dsimp only) | fail "no step")
      · rename (Txt.slice _ _ _ == _) = true => he
        exact hend (longest_first hn ((hpk _ he).mp rfl)) (by assumption) (by assumption) ((fun y => if h1 : y = Str.ofString "best" then (by subst h1; rfl) else if h2 : y = Str.ofString "key" then (by subst h2; rfl) else if h3 : y = Str.ofString "ask" then (by subst h3; rfl) else if h4 : y = Str.ofString "book" then (by subst h4; rfl) else (by simp [h1, beq_false_of_ne h1, h2, beq_false_of_ne h2, h3, beq_false_of_ne h3, h4, beq_false_of_ne h4, List.lookup])))
      · rename (Txt.slice _ _ _ == _) = false => he
        exact hend (longest_keep (.inr ⟨rfl, hn⟩) (fun z => Bool.false_ne_true ((hpk _ he).mpr z))) (by assumption) (by assumption) ((fun y => if h1 : y = Str.ofString "best" then (by subst h1; rfl) else if h2 : y = Str.ofString "key" then (by subst h2; rfl) else if h3 : y = Str.ofString "ask" then (by subst h3; rfl) else if h4 : y = Str.ofString "book" then (by subst h4; rfl) else (by simp [h1, beq_false_of_ne h1, h2, beq_false_of_ne h2, h3, beq_false_of_ne h3, h4, beq_false_of_ne h4, List.lookup])))
  case done =>
    rintro m₁ h₁ tk₁ ⟨bv, hbv, u, rfl⟩ F₂ N₂
    clear F₁ N₁
    dsimp only
    repeat' (first | (k_unfold; (try dsimp only)) | walk1 | (dsimp only; walk1) | (leave1; try dsimp only) | fail "no step")
    rw [List.take_length] at hbv
    exact ret _ _ _ hbv (by assumption) (by assumption)
end
end partC7
section partC8
section
variable {w : World} {dp un : Nat} {gd : Option (List Code)} {cn : Str} {cs : Scope} {a : Addr} {ccd : Value} {cl : List (Str × Addr)} {outer : List Env} {A₀ : Around} {base h₀ : Heap} {L : Addr} {m : Str → Option Value} {p : Program} {loose : List Str} {mean : ExcName → Option Value} {mg mb : Str → Option Value} {news : List (Addr × Obj)} {s : Shared} {Q E : Value → Shared → Prop}
local macro_rules | `(tactic| walk_at "call ref") => `(tactic| (k_here; (with_reducible show wpAny _ _ (call (Value.ref _) _ _) _ _ _); refine wpAny_call ?_; k_dflt (refine' code_def ?k1 ?k2 ?k3 ?k4 ?k5 ?kA ?kF ?kK ?k6 ?k7 ?k8 ?k9 ?kB ?_ ?c2 ?c3 ?c4 ?c5; (case kA => exact rfl); (case kF => exact rfl); (case kK => first | exact rfl | assumption); (case k1 => k_asm); (case k2 => k_asm); (case k3 => k_asm); (case k4 => k_asm); (case k5 => k_asm); (case k6 => k_is); (case k7 => k_is); (case k8 => ktr_room); (case k9 => first | exact BindsTo.of_eq rfl | exact binds_K (by k_in) rfl (by k_is) rfl rfl rfl); (case c5 => decide); (case kB => exact locs rfl); (case c2 => exact rfl); (case c3 => exact rfl); (case c4 => exact rfl); k_whole; intro g' L' h' FG' F' N' B' X' T'; (try dsimp only); (try k_lift B'); (try k_fold))))
local macro_rules | `(tactic| walk_at "exec For Name Name cons nil") => `(tactic| (k_here; (rename Fr _ _ _ _ => lF'); (with_unfolding_all refine' For_invVF lF' ?k1 ?k2 ?_; (case k1 => exact rfl); (case k2 => exact rfl))))
local macro_rules | `(tactic| walk_at "exec For Name Call cons nil") => `(tactic| (k_here; (rename Fr _ _ _ _ => lF'); (with_unfolding_all refine' For_invVF lF' ?k1 ?k2 ?_; (case k1 => exact rfl); (case k2 => exact rfl))))
local macro_rules | `(tactic| walk_at "pyIter ref") => `(tactic| refine Stop.out (P := wpAny _ _ _ _ _ _) ?_)
set_option maxHeartbeats 4000000 in
theorem text_ok {n : Int} {tn : Tok}
  (B : Below A₀ base outer h₀) (F : Fr h₀ L s.heap m) (X : (hd.heap_39 w.params).In h₀) (N : News h₀ L s.heap news) (T : Top p loose mean mg mb h₀) (hk : cs.kind = .function) (hdp : dp + 8 < recursionLimit) (hun : un + 80 < cLine)
  (ret : ∀ x t h' tk', x.length ≤ 4 → Fr h₀ L h' m → News h₀ L h' news → Q (.str x t) { s with heap := h', toks := tk' }) :
  wpAny (model PySem.Challenge.rw_te0073_01.row.prog w) (ktrTop dp un gd cn cs L a ccd cl outer) (call (.ref 93) [.int n tn]) Q E s := by
  refine wpAny_call ?_
  k_dflt (refine' code_def ?k1 ?k2 ?k3 ?k4 ?k5 ?kA ?kF ?kK ?k6 ?k7 ?k8 ?k9 ?kB ?_ ?c2 ?c3 ?c4 ?c5; (case kA => exact rfl); (case kF => exact rfl); (case kK => assumption); (case k1 => k_asm); (case k2 => k_asm); (case k3 => k_asm); (case k4 => k_asm); (case k5 => k_asm); (case k6 => k_is); (case k7 => k_is); (case k8 => ktr_room); (case k9 => first | exact BindsTo.of_eq rfl | exact binds_K (by k_in) rfl (by k_is) rfl rfl rfl); (case c5 => decide); (case kB => exact locs rfl); (case c2 => exact rfl); (case c3 => exact rfl); (case c4 => exact rfl); k_whole; intro g' L' h' FG' F' N' B' X' T'; (try dsimp only); (try k_lift B'); (try k_fold))
  repeat' (first | (k_unfold; (try dsimp only)) | walk1 | (dsimp only; walk1) | (leave1; try dsimp only) | fail "no step")
  refine Stop.go ?_
  rename IsRange _ _ _ _ _ _ _ _ => hR
  rename Fr _ _ _ _ => F₁
  rename News _ _ _ _ => N₁
  have hsz : 0 ≤ Int.fmod n 5 ∧ Int.fmod n 5 < 5 := ⟨fmod_lo n (by omega), fmod_hi n (by omega)⟩
  generalize Int.fmod n 5 = sz at *
  obtain ⟨k, rfl⟩ : ∃ k : Nat, sz = (k : Int) := ⟨sz.toNat, by omega⟩
  refine iter_range_ro (n := k) (fun i m₁ => ∃ t tt j tj u ts, t.length ≤ i ∧ m₁ = fun y => if y = Str.ofString "text" then some (.str t tt) else if y = Str.ofString "n" then some (.int j tj) else if y = Str.ofString "_" then u else if y = Str.ofString "size" then some (.int k ts) else none) rfl hR (by omega) (by omega) (by omega) (fr_eq F₁ ((fun y => if h1 : y = Str.ofString "text" then (by subst h1; rfl) else if h2 : y = Str.ofString "n" then (by subst h2; rfl) else if h3 : y = Str.ofString "_" then (by subst h3; rfl) else if h4 : y = Str.ofString "size" then (by subst h4; rfl) else (by simp [h1, beq_false_of_ne h1, h2, beq_false_of_ne h2, h3, beq_false_of_ne h3, h4, beq_false_of_ne h4, List.lookup])))) N₁ ⟨_, _, _, _, none, _, ?j0, rfl⟩ ?turn ?done
  case j0 => decide
  case turn =>
    rintro i t m₁ h₁ tk₁ own hi ⟨tx, tt, j, tj, u, ts, htx, rfl⟩ F₂ N₂
    clear F₁ N₁ hR
    repeat' (first | (k_unfold; (try dsimp only)) | walk1 | (dsimp only; walk1) | (leave1; try dsimp only) | fail "no step")
    all_goals (
      rename Fr _ _ _ _ => F₃
      rename _ ∧ Str.length _ ≤ _ => hcat
      refine InvEnd.intro (fr_eq F₃ ((fun y => if h1 : y = Str.ofString "text" then (by subst h1; rfl) else if h2 : y = Str.ofString "n" then (by subst h2; rfl) else if h3 : y = Str.ofString "_" then (by subst h3; rfl) else if h4 : y = Str.ofString "size" then (by subst h4; rfl) else (by simp [h1, beq_false_of_ne h1, h2, beq_false_of_ne h2, h3, beq_false_of_ne h3, h4, beq_false_of_ne h4, List.lookup])))) (by assumption) (fun p hp => hp) ⟨_, _, _, _, _, _, ?_, rfl⟩
      exact Nat.le_trans hcat.2 (Nat.add_le_add htx (by decide)))
  case done =>
    rintro m₁ h₁ tk₁ ⟨tx, tt, j, tj, u, ts, htx, rfl⟩ F₂ N₂
    clear F₁ N₁ hR
    dsimp only
    repeat' (first | (k_unfold; (try dsimp only)) | walk1 | (dsimp only; walk1) | (leave1; try dsimp only) | fail "no step")
    exact ret _ _ _ _ (by omega) (by assumption) (by assumption)
end
end partC8
section partC9
local macro_rules | `(tactic| walk_at "idle pad") => `(tactic| fail "idle")
local macro_rules | `(tactic| walk_at "idle pad") => `(tactic| fail "idle")
local macro_rules | `(tactic| walk_at "idle pad") => `(tactic| fail "idle")
local macro_rules | `(tactic| walk_at "idle pad") => `(tactic| fail "idle")
local macro_rules | `(tactic| walk_at "idle pad") => `(tactic| fail "idle")
local macro_rules | `(tactic| walk_at "idle pad") => `(tactic| fail "idle")
local macro_rules | `(tactic| walk_at "idle pad") => `(tactic| fail "idle")
local macro_rules | `(tactic| walk_at "idle pad") => `(tactic| fail "idle")
local macro_rules | `(tactic| walk_at "idle pad") => `(tactic| fail "idle")
local macro_rules | `(tactic| walk_at "idle pad") => `(tactic| fail "idle")
local macro_rules | `(tactic| walk_at "idle pad") => `(tactic| fail "idle")
local macro_rules | `(tactic| walk_at "idle pad") => `(tactic| fail "idle")
section
variable {w : World} {dp un : Nat} {gd : Option (List Code)} {cn : Str} {cs : Scope} {a : Addr} {ccd : Value} {cl : List (Str × Addr)} {outer : List Env} {A₀ : Around} {base h₀ : Heap} {L : Addr} {m : Str → Option Value} {p : Program} {loose : List Str} {mean : ExcName → Option Value} {mg mb : Str → Option Value} {news : List (Addr × Obj)} {s : Shared} {Q E : Value → Shared → Prop}
local macro_rules | `(tactic| walk_at "getMethod ref") => `(tactic| (k_here; (with_reducible show wpAny _ _ (getMethod (Value.ref _) (PySem.Str.ofString "keys") _) _ _ _); k_dflt (refine kdl_method (knd := PySem.strKind _ _) PySem.F.slot_dict_keys PySem.F.type_dict_keys (by assumption) (by k_mem) (by assumption) ?_)))
local macro_rules | `(tactic| walk_at "call builtin:dict.keys") => `(tactic| (k_here; k_dflt (refine kdl_view_keys (knd := PySem.strKind _ _) (by assumption) (by assumption) (by k_mem) (by assumption) (by assumption) ?_); intro v' h' F' N' l1; (try k_lt l1)))
local macro_rules | `(tactic| walk_at "call builtin:sorted") => `(tactic| (k_here; k_dflt (refine sorted_keys (by rfl) (by assumption) (by assumption) (by k_mem) (by k_mem) (by assumption) (by omega) ?_); intro B' e' h' tk' vs' ss' F' N' l1 hS' hP' hs'; (try k_lt l1)))
local macro_rules | `(tactic| walk_at "call builtin:len") => `(tactic| (k_here; k_dflt (refine kda_len (knd := PySem.strKind _ _) (by assumption) (by k_mem) (by assumption) (by assumption) (by omega) ?_)))
local macro_rules | `(tactic| k_mem) => `(tactic| first | assumption | exact List.mem_cons_self | (apply List.mem_cons_of_mem; k_mem))
local macro_rules | `(tactic| walk_at "call ref") => `(tactic| (k_here; (with_reducible show wpAny _ _ (call (Value.ref _) _ _) _ _ _); refine wpAny_call ?_; k_dflt (refine' code_def ?k1 ?k2 ?k3 ?k4 ?k5 ?kA ?kF ?kK ?k6 ?k7 ?k8 ?k9 ?kB ?_ ?c2 ?c3 ?c4 ?c5; (case kA => exact rfl); (case kF => exact rfl); (case kK => first | exact rfl | assumption); (case k1 => k_asm); (case k2 => k_asm); (case k3 => k_asm); (case k4 => k_asm); (case k5 => k_asm); (case k6 => k_is); (case k7 => k_is); (case k8 => ktr_room); (case k9 => first | exact BindsTo.of_eq rfl | exact binds_K (by k_in) rfl (by k_is) rfl rfl rfl); (case c5 => decide); (case kB => exact locs rfl); (case c2 => exact rfl); (case c3 => exact rfl); (case c4 => exact rfl); k_whole; intro g' L' h' FG' F' N' B' X' T'; (try dsimp only); (try k_lift B'); (try k_fold))))
local macro_rules | `(tactic| walk_at "call ref") => `(tactic| (k_here; k_dflt (refine' call_cls ?k1 ?k2 ?k3 ?k4 ?k5 ?k6 ?_; (case k1 => k_asm); (case k2 => k_asm); (case k3 => k_asm); (case k4 => k_is); (case k5 => k_is); (case k6 => k_is); k_whole; intro x' d' h' F' N' l1 l2; (try k_lt l1); (try k_lt2 l2); (try k_sweep); (refine' code_def ?k1 ?k2 ?k3 ?k4 ?k5 ?kA ?kF ?kK ?k6 ?k7 ?k8 ?k9 ?kB ?_ ?c2 ?c3 ?c4 ?c5; (case kA => exact rfl); (case kF => exact rfl); (case kK => first | exact rfl | assumption); (case k1 => k_asm); (case k2 => k_asm); (case k3 => k_asm); (case k4 => k_asm); (case k5 => k_asm); (case k6 => k_is); (case k7 => k_is); (case k8 => ktr_room); (case k9 => first | exact BindsTo.of_eq rfl | exact binds_K (by k_in) rfl (by k_is) rfl rfl rfl); (case c5 => decide); (case kB => exact locs rfl); (case c2 => exact rfl); (case c3 => exact rfl); (case c4 => exact rfl); k_whole; intro g' L' h' FG' F' N' B' X' T'; (try dsimp only); (try k_lift B'); (try k_fold)))))
set_option maxHeartbeats 4000000 in
theorem trie_ok {bk : Addr} {ob : Obj} {kvs : List (Str × Value)}
  (hbk : (bk, ob) ∈ news) (hob : ob.IsDictOf (PySem.strKind PySem.Challenge.rw_te0073_01.row.prog w) kvs) (hlo : (bk == sysModules) = false) (hlen : kvs.length ≤ 60)
  (B : Below A₀ base outer h₀) (F : Fr h₀ L s.heap m) (X : (hd.heap_39 w.params).In h₀) (N : News h₀ L s.heap news) (T : Top p loose mean mg mb h₀) (hk : cs.kind = .function) (hdp : dp + 8 < recursionLimit) (hun : un + 80 < cLine)
  (ret : ∀ x dx kv ka tp t1 t2 t3 t4 t5 ta tb vs ks n nt h' tk', StrsAre vs ks → ks.Pairwise (fun a b => ¬ b.cps.toList < a.cps.toList) → ks.Perm (kvs.map (·.1)) → (AllLt dx news ∧ @LT.lt Nat _ dx x ∧ @LT.lt Nat _ x kv ∧ @LT.lt Nat _ kv ka ∧ @LT.lt Nat _ ka tp) → Fr h₀ L h' m →
    News h₀ L h' ((tp, ({ cls := .type "tuple", data := .seq #[.int 0 ta, .int (kvs.length : Nat) tb] nt } : Obj)) :: (ka, listOf (List.toArray vs) n) :: (kv, { cls := .type "dict_keys", data := .fields #[.ref bk] }) :: (x, instObj 74 dx) :: (dx, dictOf (trieEs w t1 t2 t3 t4 t5 bk ka tp) 4) :: news) → Q (.ref x) { s with heap := h', toks := tk' }) :
  wpAny (model PySem.Challenge.rw_te0073_01.row.prog w) (ktrTop dp un gd cn cs L a ccd cl outer) (call (.ref 74) [.ref bk]) Q E s := by
  repeat' (first | (k_unfold; (try dsimp only)) | walk1 | (dsimp only; walk1) | (leave1; try dsimp only) | fail "no step")
  rename News h₀ _ _ _ => kN
  exact ret _ _ _ _ _ _ _ _ _ _ _ _ _ _ _ _ _ _ (by assumption) (sorted_pairwise _ (by assumption)) (by assumption) ⟨by first | assumption | exact allLt_of (by assumption), by omega, by omega, by omega, by omega⟩ (by assumption) kN
end
end partC9
section partC10
/-- the trie x over the book bk lies in the ledger -/
def TI (w : World) (news : List (Addr × Obj)) (x bk : Addr) (kvs : List (Str × Value)) : Prop :=
  ∃ dx ka tp t1 t2 t3 t4 t5 ta tb ob vs ks n nt, (x, instObj 74 dx) ∈ news ∧ (dx, dictOf (trieEs w t1 t2 t3 t4 t5 bk ka tp) 4) ∈ news ∧
  (bk, ob) ∈ news ∧ ob.IsDictOf (PySem.strKind PySem.Challenge.rw_te0073_01.row.prog w) kvs ∧ (bk == sysModules) = false ∧
  (ka, listOf (List.toArray vs) n) ∈ news ∧ StrsAre vs ks ∧ ks.Pairwise (fun a b => ¬ b.cps.toList < a.cps.toList) ∧
  (tp, ({ cls := .type "tuple", data := .seq #[.int 0 ta, .int (kvs.length : Nat) tb] nt } : Obj)) ∈ news ∧ ks.Perm (kvs.map (·.1)) ∧ kvs.length ≤ 60 ∧ (∀ k ∈ kvs.map (·.1), k.length ≤ 1000)
theorem TI.mono {w : World} {news news' : List (Addr × Obj)} {x bk : Addr} {kvs : List (Str × Value)} (I : TI w news x bk kvs) (h : ∀ p ∈ news, p ∈ news') : TI w news' x bk kvs := by
  obtain ⟨dx, ka, tp, t1, t2, t3, t4, t5, ta, tb, ob, vs, ks, n, nt, a1, a2, a3, a4, a5, a6, a7, a8, a9, b1, b2, b3⟩ := I
  exact ⟨dx, ka, tp, t1, t2, t3, t4, t5, ta, tb, ob, vs, ks, n, nt, h _ a1, h _ a2, h _ a3, a4, a5, h _ a6, a7, a8, h _ a9, b1, b2, b3⟩
section
variable {w : World} {dp un : Nat} {gd : Option (List Code)} {cn : Str} {cs : Scope} {a : Addr} {ccd : Value} {cl : List (Str × Addr)} {outer : List Env} {A₀ : Around} {base h₀ : Heap} {L : Addr} {m : Str → Option Value} {p : Program} {loose : List Str} {mean : ExcName → Option Value} {mg mb : Str → Option Value} {news : List (Addr × Obj)} {s : Shared} {Q E : Value → Shared → Prop}
theorem has_ti {x bk : Addr} {tq : Tok} {kvs : List (Str × Value)} {q : Str} (I : TI w news x bk kvs)
  (B : Below A₀ base outer h₀) (F : Fr h₀ L s.heap m) (X : (hd.heap_39 w.params).In h₀) (N : News h₀ L s.heap news) (T : Top p loose mean mg mb h₀) (hk : cs.kind = .function) (hdp : dp + 8 < recursionLimit) (hun : un + 80 < cLine)
  (ret : ∀ b h' tk', (b = true ↔ ∃ k ∈ kvs.map (·.1), q.cps.toList <+: k.cps.toList) → Fr h₀ L h' m → News h₀ L h' news → Q (.bool b) { s with heap := h', toks := tk' }) :
  wpAny (model PySem.Challenge.rw_te0073_01.row.prog w) (ktrTop dp un gd cn cs L a ccd cl outer) (call (.ref 64) [.ref x, .str q tq]) Q E s := by
  obtain ⟨dx, ka, tp, t1, t2, t3, t4, t5, ta, tb, ob, vs, ks, n, nt, a1, a2, a3, a4, a5, a6, a7, a8, a9, b1, b2, b3⟩ := I
  have hl : ks.length = kvs.length := by rw [b1.length_eq, List.length_map]
  refine has_ok a1 a2 a3 a4 a5 a6 a7 a8 (by omega) a9 hl.symm (fun k => by rw [valueAt_mem]; exact b1.mem_iff) B F X N T hk (by omega) (by omega) fun b h' tk' hb F' N' => ret b h' tk' (hb.trans ?_) F' N'
  exact ⟨fun ⟨k, h1, h2⟩ => ⟨k, b1.mem_iff.mp h1, h2⟩, fun ⟨k, h1, h2⟩ => ⟨k, b1.mem_iff.mpr h1, h2⟩⟩
theorem some_ti {x bk : Addr} {tq : Tok} {kvs : List (Str × Value)} {q : Str} (I : TI w news x bk kvs) (hq : q.length ≤ 1000)
  (B : Below A₀ base outer h₀) (F : Fr h₀ L s.heap m) (X : (hd.heap_39 w.params).In h₀) (N : News h₀ L s.heap news) (T : Top p loose mean mg mb h₀) (hk : cs.kind = .function) (hdp : dp + 8 < recursionLimit) (hun : un + 80 < cLine)
  (ret : ∀ b t h' tk', (b = true ↔ ∃ k ∈ kvs.map (·.1), q.cps.toList <+: k.cps.toList) → Fr h₀ L h' m → News h₀ L h' news → Q (.str (if b = true then Str.ofString "yes" else Str.ofString "no") t) { s with heap := h', toks := tk' }) :
  wpAny (model PySem.Challenge.rw_te0073_01.row.prog w) (ktrTop dp un gd cn cs L a ccd cl outer) (call (.ref 100) [.ref bk, .str q tq]) Q E s := by
  obtain ⟨dx, ka, tp, t1, t2, t3, t4, t5, ta, tb, ob, vs, ks, n, nt, a1, a2, a3, a4, a5, a6, a7, a8, a9, b1, b2, b3⟩ := I
  exact some_ok a3 a4 a5 hq b3 B F X N T hk hdp hun ret
theorem longest_ti {x bk : Addr} {tq : Tok} {kvs : List (Str × Value)} {q : Str} (I : TI w news x bk kvs) (hq : q.length ≤ 1000)
  (B : Below A₀ base outer h₀) (F : Fr h₀ L s.heap m) (X : (hd.heap_39 w.params).In h₀) (N : News h₀ L s.heap news) (T : Top p loose mean mg mb h₀) (hk : cs.kind = .function) (hdp : dp + 8 < recursionLimit) (hun : un + 80 < cLine)
  (ret : ∀ v h' tk', Longest (kvs.map (·.1)) q v → Fr h₀ L h' m → News h₀ L h' news → Q v { s with heap := h', toks := tk' }) :
  wpAny (model PySem.Challenge.rw_te0073_01.row.prog w) (ktrTop dp un gd cn cs L a ccd cl outer) (call (.ref 107) [.ref bk, .str q tq]) Q E s := by
  obtain ⟨dx, ka, tp, t1, t2, t3, t4, t5, ta, tb, ob, vs, ks, n, nt, a1, a2, a3, a4, a5, a6, a7, a8, a9, b1, b2, b3⟩ := I
  exact longest_ok a3 a4 a5 hq b3 B F X N T hk hdp hun ret
theorem found_ti {x bk : Addr} {tq : Tok} {kvs : List (Str × Value)} {q : Str} (I : TI w news x bk kvs) (hq : q.length ≤ 1000)
  (B : Below A₀ h₀ [] h₀) (F : Fr h₀ L s.heap m) (X : (hd.heap_39 w.params).In h₀) (N : News h₀ L s.heap news) (T : Top p loose mean mg mb h₀) (hk : cs.kind = .function) (hdp : dp + 8 < recursionLimit) (hun : un + 80 < cLine)
  (ret : ∀ v h' tk', Longest (kvs.map (·.1)) q v → Fr h₀ L h' m → News h₀ L h' news → Q v { s with heap := h', toks := tk' }) :
  wpAny (model PySem.Challenge.rw_te0073_01.row.prog w) (ktrTop dp un gd cn cs L a ccd cl []) (call (.ref 121) [.ref x, .str q tq]) Q E s := by
  obtain ⟨dx, ka, tp, t1, t2, t3, t4, t5, ta, tb, ob, vs, ks, n, nt, a1, a2, a3, a4, a5, a6, a7, a8, a9, b1, b2, b3⟩ := I
  exact found_ok a1 a2 a3 a4 a5 hq B F X N T hk hdp hun ret
theorem item_ti {x bk : Addr} {tq : Tok} {kvs : List (Str × Value)} {q : Str} (I : TI w news x bk kvs)
  (B : Below A₀ h₀ [] h₀) (F : Fr h₀ L s.heap m) (X : (hd.heap_39 w.params).In h₀) (N : News h₀ L s.heap news) (T : Top p loose mean mg mb h₀) (hk : cs.kind = .function) (hdp : dp + 8 < recursionLimit) (hun : un + 80 < cLine)
  (ret : ∀ D n h' tk', Fr h₀ L h' m → News h₀ L h' ((D, listOf (valueAt kvs q).toList.toArray n) :: news) → (∀ p ∈ news, p.1 < D) → Q (.ref D) { s with heap := h', toks := tk' }) :
  wpAny (model PySem.Challenge.rw_te0073_01.row.prog w) (ktrTop dp un gd cn cs L a ccd cl []) (call (.ref 128) [.ref x, .str q tq]) Q E s := by
  obtain ⟨dx, ka, tp, t1, t2, t3, t4, t5, ta, tb, ob, vs, ks, n, nt, a1, a2, a3, a4, a5, a6, a7, a8, a9, b1, b2, b3⟩ := I
  exact item_ok a1 a2 a3 a4 a5 B F X N T hk hdp hun ret
theorem in_ti {prog : Program} {A : Around} {x bk : Addr} {tq : Tok} {kvs : List (Str × Value)} {q : Str} {Q : Value → Shared → Prop} (I : TI w news x bk kvs) (N : News h₀ L s.heap news)
  (h : Q (.bool (valueAt kvs q).isSome) { s with toks := s.toks + 1 }) (hp : prog = PySem.Challenge.rw_te0073_01.row.prog) : wpAny (model prog w) A (compareOp .In (.str q tq) (.ref bk)) Q E s := by
  subst hp
  obtain ⟨dx, ka, tp, t1, t2, t3, t4, t5, ta, tb, ob, vs, ks, n, nt, a1, a2, a3, a4, a5, a6, a7, a8, a9, b1, b2, b3⟩ := I
  exact kda_in (knd := PySem.strKind _ _) N a3 a4 a5 (strKind_is _ _ _ _) _ rfl h
end
end partC10
section partC11
local macro_rules | `(tactic| walk_at "idle pad") => `(tactic| fail "idle")
local macro_rules | `(tactic| walk_at "idle pad") => `(tactic| fail "idle")
local macro_rules | `(tactic| walk_at "idle pad") => `(tactic| fail "idle")
local macro_rules | `(tactic| walk_at "idle pad") => `(tactic| fail "idle")
local macro_rules | `(tactic| walk_at "idle pad") => `(tactic| fail "idle")
local macro_rules | `(tactic| walk_at "idle pad") => `(tactic| fail "idle")
local macro_rules | `(tactic| walk_at "idle pad") => `(tactic| fail "idle")
local macro_rules | `(tactic| walk_at "idle pad") => `(tactic| fail "idle")
local macro_rules | `(tactic| walk_at "idle pad") => `(tactic| fail "idle")
local macro_rules | `(tactic| walk_at "idle pad") => `(tactic| fail "idle")
local macro_rules | `(tactic| walk_at "idle pad") => `(tactic| fail "idle")
local macro_rules | `(tactic| walk_at "idle pad") => `(tactic| fail "idle")
local macro_rules | `(tactic| walk_at "idle pad") => `(tactic| fail "idle")
local macro_rules | `(tactic| walk_at "idle pad") => `(tactic| fail "idle")
local macro_rules | `(tactic| walk_at "idle pad") => `(tactic| fail "idle")
local macro_rules | `(tactic| walk_at "idle pad") => `(tactic| fail "idle")
local macro_rules | `(tactic| walk_at "idle pad") => `(tactic| fail "idle")
local macro_rules | `(tactic| walk_at "idle pad") => `(tactic| fail "idle")
local macro_rules | `(tactic| walk_at "idle pad") => `(tactic| fail "idle")
local macro_rules | `(tactic| walk_at "idle pad") => `(tactic| fail "idle")
local macro_rules | `(tactic| walk_at "idle pad") => `(tactic| fail "idle")
local macro_rules | `(tactic| walk_at "idle pad") => `(tactic| fail "idle")
local macro_rules | `(tactic| walk_at "idle pad") => `(tactic| fail "idle")
local macro_rules | `(tactic| walk_at "idle pad") => `(tactic| fail "idle")
def defBody : Stmt → List Stmt
  | .FunctionDef _ _ b _ _ _ _ _ _ _ => b
  | _ => []
def defScope : Stmt → Scope
  | .FunctionDef _ _ _ _ _ _ sc _ _ _ => sc
  | _ => default
def forBody : Stmt → List Stmt
  | .For _ _ b _ _ => b
  | _ => []
def lawDef : Stmt := PySem.Challenge.pw_te0073_01.main.body.getLastD (.Pass default)
def lawBody : List Stmt := defBody lawDef
def lawScopeP : {c : Scope // c = defScope lawDef} := by
  refine ⟨?c, ?h⟩
  case h => (conv => rhs; whnf)
abbrev lawScope : Scope := lawScopeP.1
def lawSt (n : Nat) : Stmt := lawBody.getD n (.Pass default)
def innerBody : List Stmt := forBody ((forBody (lawSt 6)).getD 0 (.Pass default))
def innerSt (n : Nat) : Stmt := innerBody.getD n (.Pass default)
section
variable {w : World} {dp un : Nat} {gd : Option (List Code)} {cn : Str} {cs : Scope} {a : Addr} {ccd : Value} {cl : List (Str × Addr)} {outer : List Env} {A₀ : Around} {base h₀ : Heap} {L : Addr} {m : Str → Option Value} {p : Program} {loose : List Str} {mean : ExcName → Option Value} {mg mb : Str → Option Value} {news : List (Addr × Obj)} {s : Shared} {Q E : Value → Shared → Prop}
theorem mark_yes (B : Below A₀ base outer h₀) (F : Fr h₀ L s.heap m) (X : (hd.heap_39 w.params).In h₀) (N : News h₀ L s.heap news) (T : Top p loose mean mg mb h₀) (hk : cs.kind = .function) (hdp : dp + 8 < recursionLimit) (hun : un + 80 < cLine)
  (ret : ∀ t h' tk', Fr h₀ L h' m → News h₀ L h' news → Q (.str (Str.ofString "yes") t) { s with heap := h', toks := tk' }) :
  wpAny (model PySem.Challenge.rw_te0073_01.row.prog w) (ktrTop dp un gd cn cs L a ccd cl outer) (call (.ref 114) [.bool true]) Q E s := mark_ok true B F X N T hk hdp hun ret
theorem mark_no (B : Below A₀ base outer h₀) (F : Fr h₀ L s.heap m) (X : (hd.heap_39 w.params).In h₀) (N : News h₀ L s.heap news) (T : Top p loose mean mg mb h₀) (hk : cs.kind = .function) (hdp : dp + 8 < recursionLimit) (hun : un + 80 < cLine)
  (ret : ∀ t h' tk', Fr h₀ L h' m → News h₀ L h' news → Q (.str (Str.ofString "no") t) { s with heap := h', toks := tk' }) :
  wpAny (model PySem.Challenge.rw_te0073_01.row.prog w) (ktrTop dp un gd cn cs L a ccd cl outer) (call (.ref 114) [.bool false]) Q E s := mark_ok false B F X N T hk hdp hun ret
theorem has_yes {x bk : Addr} {tq : Tok} {kvs : List (Str × Value)} {q : Str} (I : TI w news x bk kvs) (hb : ∃ k ∈ kvs.map (·.1), q.cps.toList <+: k.cps.toList)
  (B : Below A₀ base outer h₀) (F : Fr h₀ L s.heap m) (X : (hd.heap_39 w.params).In h₀) (N : News h₀ L s.heap news) (T : Top p loose mean mg mb h₀) (hk : cs.kind = .function) (hdp : dp + 8 < recursionLimit) (hun : un + 80 < cLine)
  (ret : ∀ h' tk', Fr h₀ L h' m → News h₀ L h' news → Q (.bool true) { s with heap := h', toks := tk' }) :
  wpAny (model PySem.Challenge.rw_te0073_01.row.prog w) (ktrTop dp un gd cn cs L a ccd cl outer) (call (.ref 64) [.ref x, .str q tq]) Q E s :=
  has_ti I B F X N T hk hdp hun fun b h' tk' e F' N' => by rw [e.mpr hb]; exact ret h' tk' F' N'
theorem has_no {x bk : Addr} {tq : Tok} {kvs : List (Str × Value)} {q : Str} (I : TI w news x bk kvs) (hb : ¬ ∃ k ∈ kvs.map (·.1), q.cps.toList <+: k.cps.toList)
  (B : Below A₀ base outer h₀) (F : Fr h₀ L s.heap m) (X : (hd.heap_39 w.params).In h₀) (N : News h₀ L s.heap news) (T : Top p loose mean mg mb h₀) (hk : cs.kind = .function) (hdp : dp + 8 < recursionLimit) (hun : un + 80 < cLine)
  (ret : ∀ h' tk', Fr h₀ L h' m → News h₀ L h' news → Q (.bool false) { s with heap := h', toks := tk' }) :
  wpAny (model PySem.Challenge.rw_te0073_01.row.prog w) (ktrTop dp un gd cn cs L a ccd cl outer) (call (.ref 64) [.ref x, .str q tq]) Q E s :=
  has_ti I B F X N T hk hdp hun fun b h' tk' e F' N' => by rw [Bool.eq_false_iff.mpr fun z => hb (e.mp z)]; exact ret h' tk' F' N'
theorem some_yes {x bk : Addr} {tq : Tok} {kvs : List (Str × Value)} {q : Str} (I : TI w news x bk kvs) (hq : q.length ≤ 1000) (hb : ∃ k ∈ kvs.map (·.1), q.cps.toList <+: k.cps.toList)
  (B : Below A₀ base outer h₀) (F : Fr h₀ L s.heap m) (X : (hd.heap_39 w.params).In h₀) (N : News h₀ L s.heap news) (T : Top p loose mean mg mb h₀) (hk : cs.kind = .function) (hdp : dp + 8 < recursionLimit) (hun : un + 80 < cLine)
  (ret : ∀ t h' tk', Fr h₀ L h' m → News h₀ L h' news → Q (.str (Str.ofString "yes") t) { s with heap := h', toks := tk' }) :
  wpAny (model PySem.Challenge.rw_te0073_01.row.prog w) (ktrTop dp un gd cn cs L a ccd cl outer) (call (.ref 100) [.ref bk, .str q tq]) Q E s :=
  some_ti I hq B F X N T hk hdp hun fun b t h' tk' e F' N' => by rw [e.mpr hb]; exact ret t h' tk' F' N'
theorem some_no {x bk : Addr} {tq : Tok} {kvs : List (Str × Value)} {q : Str} (I : TI w news x bk kvs) (hq : q.length ≤ 1000) (hb : ¬ ∃ k ∈ kvs.map (·.1), q.cps.toList <+: k.cps.toList)
  (B : Below A₀ base outer h₀) (F : Fr h₀ L s.heap m) (X : (hd.heap_39 w.params).In h₀) (N : News h₀ L s.heap news) (T : Top p loose mean mg mb h₀) (hk : cs.kind = .function) (hdp : dp + 8 < recursionLimit) (hun : un + 80 < cLine)
  (ret : ∀ t h' tk', Fr h₀ L h' m → News h₀ L h' news → Q (.str (Str.ofString "no") t) { s with heap := h', toks := tk' }) :
  wpAny (model PySem.Challenge.rw_te0073_01.row.prog w) (ktrTop dp un gd cn cs L a ccd cl outer) (call (.ref 100) [.ref bk, .str q tq]) Q E s :=
  some_ti I hq B F X N T hk hdp hun fun b t h' tk' e F' N' => by rw [Bool.eq_false_iff.mpr fun z => hb (e.mp z)]; exact ret t h' tk' F' N'
theorem longest_no {x bk : Addr} {tq : Tok} {kvs : List (Str × Value)} {q : Str} (I : TI w news x bk kvs) (hq : q.length ≤ 1000) (hb : ∀ v, Longest (kvs.map (·.1)) q v → v = .none)
  (B : Below A₀ base outer h₀) (F : Fr h₀ L s.heap m) (X : (hd.heap_39 w.params).In h₀) (N : News h₀ L s.heap news) (T : Top p loose mean mg mb h₀) (hk : cs.kind = .function) (hdp : dp + 8 < recursionLimit) (hun : un + 80 < cLine)
  (ret : ∀ h' tk', Fr h₀ L h' m → News h₀ L h' news → Q .none { s with heap := h', toks := tk' }) :
  wpAny (model PySem.Challenge.rw_te0073_01.row.prog w) (ktrTop dp un gd cn cs L a ccd cl outer) (call (.ref 107) [.ref bk, .str q tq]) Q E s :=
  longest_ti I hq B F X N T hk hdp hun fun v h' tk' e F' N' => by rw [hb v e]; exact ret h' tk' F' N'
theorem longest_yes {x bk : Addr} {tq : Tok} {kvs : List (Str × Value)} {q k : Str} (I : TI w news x bk kvs) (hq : q.length ≤ 1000) (hb : ∀ v, Longest (kvs.map (·.1)) q v → ∃ t, v = .str k t)
  (B : Below A₀ base outer h₀) (F : Fr h₀ L s.heap m) (X : (hd.heap_39 w.params).In h₀) (N : News h₀ L s.heap news) (T : Top p loose mean mg mb h₀) (hk : cs.kind = .function) (hdp : dp + 8 < recursionLimit) (hun : un + 80 < cLine)
  (ret : ∀ t h' tk', Fr h₀ L h' m → News h₀ L h' news → Q (.str k t) { s with heap := h', toks := tk' }) :
  wpAny (model PySem.Challenge.rw_te0073_01.row.prog w) (ktrTop dp un gd cn cs L a ccd cl outer) (call (.ref 107) [.ref bk, .str q tq]) Q E s :=
  longest_ti I hq B F X N T hk hdp hun fun v h' tk' e F' N' => by obtain ⟨t, rfl⟩ := hb v e; exact ret t h' tk' F' N'
theorem found_no {x bk : Addr} {tq : Tok} {kvs : List (Str × Value)} {q : Str} (I : TI w news x bk kvs) (hq : q.length ≤ 1000) (hb : ∀ v, Longest (kvs.map (·.1)) q v → v = .none)
  (B : Below A₀ h₀ [] h₀) (F : Fr h₀ L s.heap m) (X : (hd.heap_39 w.params).In h₀) (N : News h₀ L s.heap news) (T : Top p loose mean mg mb h₀) (hk : cs.kind = .function) (hdp : dp + 8 < recursionLimit) (hun : un + 80 < cLine)
  (ret : ∀ h' tk', Fr h₀ L h' m → News h₀ L h' news → Q .none { s with heap := h', toks := tk' }) :
  wpAny (model PySem.Challenge.rw_te0073_01.row.prog w) (ktrTop dp un gd cn cs L a ccd cl []) (call (.ref 121) [.ref x, .str q tq]) Q E s :=
  found_ti I hq B F X N T hk hdp hun fun v h' tk' e F' N' => by rw [hb v e]; exact ret h' tk' F' N'
theorem found_yes {x bk : Addr} {tq : Tok} {kvs : List (Str × Value)} {q k : Str} (I : TI w news x bk kvs) (hq : q.length ≤ 1000) (hb : ∀ v, Longest (kvs.map (·.1)) q v → ∃ t, v = .str k t)
  (B : Below A₀ h₀ [] h₀) (F : Fr h₀ L s.heap m) (X : (hd.heap_39 w.params).In h₀) (N : News h₀ L s.heap news) (T : Top p loose mean mg mb h₀) (hk : cs.kind = .function) (hdp : dp + 8 < recursionLimit) (hun : un + 80 < cLine)
  (ret : ∀ t h' tk', Fr h₀ L h' m → News h₀ L h' news → Q (.str k t) { s with heap := h', toks := tk' }) :
  wpAny (model PySem.Challenge.rw_te0073_01.row.prog w) (ktrTop dp un gd cn cs L a ccd cl []) (call (.ref 121) [.ref x, .str q tq]) Q E s :=
  found_ti I hq B F X N T hk hdp hun fun v h' tk' e F' N' => by obtain ⟨t, rfl⟩ := hb v e; exact ret t h' tk' F' N'
end
theorem longest_cases (keys : List Str) (q : Str) : (∀ v, Longest keys q v → v = .none) ∨ ∃ k, ∀ v, Longest keys q v → ∃ t, v = .str k t := by
  by_cases h : ∃ v, Longest keys q v
  · obtain ⟨v, hv⟩ := h
    rcases hv' : hv with ⟨k, t, rfl, -⟩ | ⟨rfl, -⟩
    · refine .inr ⟨k, fun u hu => ?_⟩
      rcases longest_eq hu hv with ⟨-, e⟩ | ⟨k', t', t'', rfl, e⟩
      · cases e
      · cases e; exact ⟨t', rfl⟩
    · refine .inl fun u hu => ?_
      rcases longest_eq hu hv with ⟨e, -⟩ | ⟨k', t', t'', -, e⟩
      · exact e
      · cases e
  · exact .inl fun v hv => absurd ⟨v, hv⟩ h
section
variable {w : World} {dp un : Nat} {gd : Option (List Code)} {cn : Str} {cs : Scope} {a : Addr} {ccd : Value} {cl : List (Str × Addr)} {outer : List Env} {A₀ : Around} {base h₀ : Heap} {L : Addr} {m : Str → Option Value} {p : Program} {loose : List Str} {mean : ExcName → Option Value} {mg mb : Str → Option Value} {news : List (Addr × Obj)} {s : Shared} {Q E : Value → Shared → Prop}
local macro_rules | `(tactic| walk_at "call ref") => `(tactic| (k_here; k_dflt (first
  | ((refine' has_yes ?x0 ?x1 ?k1 ?k2 ?k3 ?k4 ?k5 ?kK ?kd ?ku ?_; (case x0 => assumption); (case x1 => assumption); (case k1 => k_asm); (case k2 => k_asm); (case k3 => k_asm); (case k4 => k_asm); (case k5 => k_asm); (case kK => first | exact rfl | assumption); (case kd => ktr_room); (case ku => ktr_units)); intro h' tk' F' N')
  | ((refine' has_no ?x0 ?x1 ?k1 ?k2 ?k3 ?k4 ?k5 ?kK ?kd ?ku ?_; (case x0 => assumption); (case x1 => assumption); (case k1 => k_asm); (case k2 => k_asm); (case k3 => k_asm); (case k4 => k_asm); (case k5 => k_asm); (case kK => first | exact rfl | assumption); (case kd => ktr_room); (case ku => ktr_units)); intro h' tk' F' N')
  | ((refine' some_yes ?x0 ?x1 ?x2 ?k1 ?k2 ?k3 ?k4 ?k5 ?kK ?kd ?ku ?_; (case x0 => assumption); (case x1 => assumption); (case x2 => assumption); (case k1 => k_asm); (case k2 => k_asm); (case k3 => k_asm); (case k4 => k_asm); (case k5 => k_asm); (case kK => first | exact rfl | assumption); (case kd => ktr_room); (case ku => ktr_units)); intro t' h' tk' F' N')
  | ((refine' some_no ?x0 ?x1 ?x2 ?k1 ?k2 ?k3 ?k4 ?k5 ?kK ?kd ?ku ?_; (case x0 => assumption); (case x1 => assumption); (case x2 => assumption); (case k1 => k_asm); (case k2 => k_asm); (case k3 => k_asm); (case k4 => k_asm); (case k5 => k_asm); (case kK => first | exact rfl | assumption); (case kd => ktr_room); (case ku => ktr_units)); intro t' h' tk' F' N')
  | ((refine' mark_yes  ?k1 ?k2 ?k3 ?k4 ?k5 ?kK ?kd ?ku ?_; (case k1 => k_asm); (case k2 => k_asm); (case k3 => k_asm); (case k4 => k_asm); (case k5 => k_asm); (case kK => first | exact rfl | assumption); (case kd => ktr_room); (case ku => ktr_units)); intro t' h' tk' F' N')
  | ((refine' mark_no  ?k1 ?k2 ?k3 ?k4 ?k5 ?kK ?kd ?ku ?_; (case k1 => k_asm); (case k2 => k_asm); (case k3 => k_asm); (case k4 => k_asm); (case k5 => k_asm); (case kK => first | exact rfl | assumption); (case kd => ktr_room); (case ku => ktr_units)); intro t' h' tk' F' N'))))
set_option maxHeartbeats 4000000 in
theorem if1_ok {x bk ak : Addr} {kvs : List (Str × Value)} {q : Str} {t1 t2 t3 : Tok} {i j : Int} {rest : Str → Option Value} {Q : Flow → Shared → Prop} (I : TI w news x bk kvs) (hq : q.length ≤ 1000)
  (B : Below A₀ h₀ [] h₀) (X : (hd.heap_39 w.params).In h₀) (N : News h₀ L s.heap news) (T : Top p loose mean mg mb h₀) 
  (F : Fr h₀ L s.heap fun y => if y = Str.ofString "ask" then some (.str q t1) else if y = Str.ofString "at" then some (.int i t2) else if y = Str.ofString "turn" then some (.int j t3) else if y = Str.ofString "asks" then some (.ref ak) else if y = Str.ofString "trie" then some (.ref x) else if y = Str.ofString "book" then some (.ref bk) else rest y)
  (hdp : dp + 8 < recursionLimit) (hun : un + 80 < cLine)
  (ret : ∀ h' tk', Fr h₀ L h' (fun y => if y = Str.ofString "ask" then some (.str q t1) else if y = Str.ofString "at" then some (.int i t2) else if y = Str.ofString "turn" then some (.int j t3) else if y = Str.ofString "asks" then some (.ref ak) else if y = Str.ofString "trie" then some (.ref x) else if y = Str.ofString "book" then some (.ref bk) else rest y) → News h₀ L h' news → Q .next { s with heap := h', toks := tk' }) :
  wpAny (model PySem.Challenge.rw_te0073_01.row.prog w) (ktrTop dp un gd (Str.ofString "law") lawScope L a ccd cl []) (exec (innerSt 1) (envX (Str.ofString "law") lawScope L a ccd cl)) Q E s := by
  with_unfolding_all (conv in innerSt 1 => whnf)
  obtain ⟨dx, ka, tp, u1, u2, u3, u4, u5, ta, tb, ob, vs, ks, n, nt, a1, a2, a3, a4, a5, a6, a7, a8, a9, b1, b2, b3⟩ := id I
  by_cases hb : ∃ k ∈ kvs.map (·.1), q.cps.toList <+: k.cps.toList
  · repeat' (first | (k_unfold; (try dsimp only)) | walk1 | (dsimp only; walk1) | (leave1; try dsimp only) | fail "no step")
    exact ret _ _ (by assumption) (by assumption)
  · repeat' (first | (k_unfold; (try dsimp only)) | walk1 | (dsimp only; walk1) | (leave1; try dsimp only) | fail "no step")
    exact ret _ _ (by assumption) (by assumption)
end
end partC11
section partC12
local macro_rules | `(tactic| walk_at "idle pad") => `(tactic| fail "idle")
local macro_rules | `(tactic| walk_at "idle pad") => `(tactic| fail "idle")
local macro_rules | `(tactic| walk_at "idle pad") => `(tactic| fail "idle")
local macro_rules | `(tactic| walk_at "idle pad") => `(tactic| fail "idle")
local macro_rules | `(tactic| walk_at "idle pad") => `(tactic| fail "idle")
local macro_rules | `(tactic| walk_at "idle pad") => `(tactic| fail "idle")
local macro_rules | `(tactic| walk_at "idle pad") => `(tactic| fail "idle")
local macro_rules | `(tactic| walk_at "idle pad") => `(tactic| fail "idle")
local macro_rules | `(tactic| walk_at "idle pad") => `(tactic| fail "idle")
local macro_rules | `(tactic| walk_at "idle pad") => `(tactic| fail "idle")
local macro_rules | `(tactic| walk_at "idle pad") => `(tactic| fail "idle")
local macro_rules | `(tactic| walk_at "idle pad") => `(tactic| fail "idle")
local macro_rules | `(tactic| walk_at "idle pad") => `(tactic| fail "idle")
local macro_rules | `(tactic| walk_at "idle pad") => `(tactic| fail "idle")
local macro_rules | `(tactic| walk_at "idle pad") => `(tactic| fail "idle")
local macro_rules | `(tactic| walk_at "idle pad") => `(tactic| fail "idle")
local macro_rules | `(tactic| walk_at "idle pad") => `(tactic| fail "idle")
local macro_rules | `(tactic| walk_at "idle pad") => `(tactic| fail "idle")
local macro_rules | `(tactic| walk_at "idle pad") => `(tactic| fail "idle")
local macro_rules | `(tactic| walk_at "idle pad") => `(tactic| fail "idle")
local macro_rules | `(tactic| walk_at "idle pad") => `(tactic| fail "idle")
local macro_rules | `(tactic| walk_at "idle pad") => `(tactic| fail "idle")
local macro_rules | `(tactic| walk_at "idle pad") => `(tactic| fail "idle")
local macro_rules | `(tactic| walk_at "idle pad") => `(tactic| fail "idle")
local macro_rules | `(tactic| walk_at "idle pad") => `(tactic| fail "idle")
local macro_rules | `(tactic| walk_at "idle pad") => `(tactic| fail "idle")
local macro_rules | `(tactic| walk_at "idle pad") => `(tactic| fail "idle")
local macro_rules | `(tactic| walk_at "idle pad") => `(tactic| fail "idle")
local macro_rules | `(tactic| walk_at "idle pad") => `(tactic| fail "idle")
local macro_rules | `(tactic| walk_at "idle pad") => `(tactic| fail "idle")
local macro_rules | `(tactic| walk_at "idle pad") => `(tactic| fail "idle")
local macro_rules | `(tactic| walk_at "idle pad") => `(tactic| fail "idle")
local macro_rules | `(tactic| walk_at "idle pad") => `(tactic| fail "idle")
local macro_rules | `(tactic| walk_at "idle pad") => `(tactic| fail "idle")
local macro_rules | `(tactic| walk_at "idle pad") => `(tactic| fail "idle")
local macro_rules | `(tactic| walk_at "idle pad") => `(tactic| fail "idle")
section
variable {w : World} {dp un : Nat} {gd : Option (List Code)} {cn : Str} {cs : Scope} {a : Addr} {ccd : Value} {cl : List (Str × Addr)} {outer : List Env} {A₀ : Around} {base h₀ : Heap} {L : Addr} {m : Str → Option Value} {p : Program} {loose : List Str} {mean : ExcName → Option Value} {mg mb : Str → Option Value} {news : List (Addr × Obj)} {s : Shared} {Q E : Value → Shared → Prop}
local macro_rules | `(tactic| walk_at "compareOp In str ref") => `(tactic| (k_here; k_dflt (refine in_ti (by assumption) (by assumption) ?_ (by rfl))))
local macro_rules | `(tactic| walk_at "call ref") => `(tactic| (k_here; (with_reducible show wpAny _ _ (call (Value.ref _) _ _) _ _ _); refine wpAny_call ?_; k_dflt (refine' code_def ?k1 ?k2 ?k3 ?k4 ?k5 ?kA ?kF ?kK ?k6 ?k7 ?k8 ?k9 ?kB ?_ ?c2 ?c3 ?c4 ?c5; (case kA => exact rfl); (case kF => exact rfl); (case kK => first | exact rfl | assumption); (case k1 => k_asm); (case k2 => k_asm); (case k3 => k_asm); (case k4 => k_asm); (case k5 => k_asm); (case k6 => k_is); (case k7 => k_is); (case k8 => ktr_room); (case k9 => first | exact BindsTo.of_eq rfl | exact binds_K (by k_in) rfl (by k_is) rfl rfl rfl); (case c5 => decide); (case kB => exact locs rfl); (case c2 => exact rfl); (case c3 => exact rfl); (case c4 => exact rfl); k_whole; intro g' L' h' FG' F' N' B' X' T'; (try dsimp only); (try k_lift B'); (try k_fold))))
set_option maxHeartbeats 4000000 in
theorem mem_ti {x bk : Addr} {tq : Tok} {kvs : List (Str × Value)} {q : Str} (I : TI w news x bk kvs)
  (B : Below A₀ base outer h₀) (F : Fr h₀ L s.heap m) (X : (hd.heap_39 w.params).In h₀) (N : News h₀ L s.heap news) (T : Top p loose mean mg mb h₀) (hk : cs.kind = .function) (hdp : dp + 8 < recursionLimit) (hun : un + 80 < cLine)
  (ret : ∀ b h' tk', b = (valueAt kvs q).isSome → Fr h₀ L h' m → News h₀ L h' news → Q (.bool b) { s with heap := h', toks := tk' }) :
  wpAny (model PySem.Challenge.rw_te0073_01.row.prog w) (ktrTop dp un gd cn cs L a ccd cl outer) (call (.ref 43) [.ref x, .str q tq]) Q E s := by
  obtain ⟨dx, ka, tp, u1, u2, u3, u4, u5, ta, tb, ob, vs, ks, n, nt, a1, a2, a3, a4, a5, a6, a7, a8, a9, b1, b2, b3⟩ := id I
  refine wpAny_call ?_
  k_dflt (refine' code_def ?k1 ?k2 ?k3 ?k4 ?k5 ?kA ?kF ?kK ?k6 ?k7 ?k8 ?k9 ?kB ?_ ?c2 ?c3 ?c4 ?c5; (case kA => exact rfl); (case kF => exact rfl); (case kK => assumption); (case k1 => k_asm); (case k2 => k_asm); (case k3 => k_asm); (case k4 => k_asm); (case k5 => k_asm); (case k6 => k_is); (case k7 => k_is); (case k8 => ktr_room); (case k9 => first | exact BindsTo.of_eq rfl | exact binds_K (by k_in) rfl (by k_is) rfl rfl rfl); (case c5 => decide); (case kB => exact locs rfl); (case c2 => exact rfl); (case c3 => exact rfl); (case c4 => exact rfl); k_whole; intro g' L' h' FG' F' N' B' X' T'; (try dsimp only); (try k_lift B'); (try k_fold))
  repeat' (first | (k_unfold; (try dsimp only)) | walk1 | (dsimp only; walk1) | (leave1; try dsimp only) | fail "no step")
  exact ret _ _ _ rfl (by assumption) (by assumption)
theorem mem_yes {x bk : Addr} {tq : Tok} {kvs : List (Str × Value)} {q : Str} (I : TI w news x bk kvs) (hm : (valueAt kvs q).isSome = true)
  (B : Below A₀ base outer h₀) (F : Fr h₀ L s.heap m) (X : (hd.heap_39 w.params).In h₀) (N : News h₀ L s.heap news) (T : Top p loose mean mg mb h₀) (hk : cs.kind = .function) (hdp : dp + 8 < recursionLimit) (hun : un + 80 < cLine)
  (ret : ∀ h' tk', Fr h₀ L h' m → News h₀ L h' news → Q (.bool true) { s with heap := h', toks := tk' }) :
  wpAny (model PySem.Challenge.rw_te0073_01.row.prog w) (ktrTop dp un gd cn cs L a ccd cl outer) (call (.ref 43) [.ref x, .str q tq]) Q E s := mem_ti I B F X N T hk hdp hun fun b h' tk' e F' N' => by rw [e, hm]; exact ret h' tk' F' N'
theorem mem_no {x bk : Addr} {tq : Tok} {kvs : List (Str × Value)} {q : Str} (I : TI w news x bk kvs) (hm : (valueAt kvs q).isSome = false)
  (B : Below A₀ base outer h₀) (F : Fr h₀ L s.heap m) (X : (hd.heap_39 w.params).In h₀) (N : News h₀ L s.heap news) (T : Top p loose mean mg mb h₀) (hk : cs.kind = .function) (hdp : dp + 8 < recursionLimit) (hun : un + 80 < cLine)
  (ret : ∀ h' tk', Fr h₀ L h' m → News h₀ L h' news → Q (.bool false) { s with heap := h', toks := tk' }) :
  wpAny (model PySem.Challenge.rw_te0073_01.row.prog w) (ktrTop dp un gd cn cs L a ccd cl outer) (call (.ref 43) [.ref x, .str q tq]) Q E s := mem_ti I B F X N T hk hdp hun fun b h' tk' e F' N' => by rw [e, hm]; exact ret h' tk' F' N'
theorem in_yes {prog : Program} {A : Around} {x bk : Addr} {tq : Tok} {kvs : List (Str × Value)} {q : Str} {Q : Value → Shared → Prop} (I : TI w news x bk kvs) (N : News h₀ L s.heap news) (hm : (valueAt kvs q).isSome = true)
  (h : Q (.bool true) { s with toks := s.toks + 1 }) (hp : prog = PySem.Challenge.rw_te0073_01.row.prog) : wpAny (model prog w) A (compareOp .In (.str q tq) (.ref bk)) Q E s := in_ti I N (by rw [hm]; exact h) hp
theorem in_no {prog : Program} {A : Around} {x bk : Addr} {tq : Tok} {kvs : List (Str × Value)} {q : Str} {Q : Value → Shared → Prop} (I : TI w news x bk kvs) (N : News h₀ L s.heap news) (hm : (valueAt kvs q).isSome = false)
  (h : Q (.bool false) { s with toks := s.toks + 1 }) (hp : prog = PySem.Challenge.rw_te0073_01.row.prog) : wpAny (model prog w) A (compareOp .In (.str q tq) (.ref bk)) Q E s := in_ti I N (by rw [hm]; exact h) hp
local macro_rules | `(tactic| walk_at "compareOp In str ref") => `(tactic| (k_here; k_dflt (first | refine in_yes (by assumption) (by assumption) (by assumption) ?_ (by rfl) | refine in_no (by assumption) (by assumption) (by assumption) ?_ (by rfl))))
local macro_rules | `(tactic| walk_at "call ref") => `(tactic| (k_here; k_dflt (first
  | ((refine' longest_yes ?x0 ?x1 ?x2 ?k1 ?k2 ?k3 ?k4 ?k5 ?kK ?kd ?ku ?_; (case x0 => assumption); (case x1 => assumption); (case x2 => assumption); (case k1 => k_asm); (case k2 => k_asm); (case k3 => k_asm); (case k4 => k_asm); (case k5 => k_asm); (case kK => first | exact rfl | assumption); (case kd => ktr_room); (case ku => ktr_units)); intro t' h' tk' F' N')
  | ((refine' longest_no ?x0 ?x1 ?x2 ?k1 ?k2 ?k3 ?k4 ?k5 ?kK ?kd ?ku ?_; (case x0 => assumption); (case x1 => assumption); (case x2 => assumption); (case k1 => k_asm); (case k2 => k_asm); (case k3 => k_asm); (case k4 => k_asm); (case k5 => k_asm); (case kK => first | exact rfl | assumption); (case kd => ktr_room); (case ku => ktr_units)); intro h' tk' F' N')
  | ((refine' found_yes ?x0 ?x1 ?x2 ?k1 ?k2 ?k3 ?k4 ?k5 ?kK ?kd ?ku ?_; (case x0 => assumption); (case x1 => assumption); (case x2 => assumption); (case k1 => k_asm); (case k2 => k_asm); (case k3 => k_asm); (case k4 => k_asm); (case k5 => k_asm); (case kK => first | exact rfl | assumption); (case kd => ktr_room); (case ku => ktr_units)); intro t' h' tk' F' N')
  | ((refine' found_no ?x0 ?x1 ?x2 ?k1 ?k2 ?k3 ?k4 ?k5 ?kK ?kd ?ku ?_; (case x0 => assumption); (case x1 => assumption); (case x2 => assumption); (case k1 => k_asm); (case k2 => k_asm); (case k3 => k_asm); (case k4 => k_asm); (case k5 => k_asm); (case kK => first | exact rfl | assumption); (case kd => ktr_room); (case ku => ktr_units)); intro h' tk' F' N')
  | ((refine' mem_yes ?x0 ?x1 ?k1 ?k2 ?k3 ?k4 ?k5 ?kK ?kd ?ku ?_; (case x0 => assumption); (case x1 => assumption); (case k1 => k_asm); (case k2 => k_asm); (case k3 => k_asm); (case k4 => k_asm); (case k5 => k_asm); (case kK => first | exact rfl | assumption); (case kd => ktr_room); (case ku => ktr_units)); intro h' tk' F' N')
  | ((refine' mem_no ?x0 ?x1 ?k1 ?k2 ?k3 ?k4 ?k5 ?kK ?kd ?ku ?_; (case x0 => assumption); (case x1 => assumption); (case k1 => k_asm); (case k2 => k_asm); (case k3 => k_asm); (case k4 => k_asm); (case k5 => k_asm); (case kK => first | exact rfl | assumption); (case kd => ktr_room); (case ku => ktr_units)); intro h' tk' F' N')
  | ((refine' mark_yes  ?k1 ?k2 ?k3 ?k4 ?k5 ?kK ?kd ?ku ?_; (case k1 => k_asm); (case k2 => k_asm); (case k3 => k_asm); (case k4 => k_asm); (case k5 => k_asm); (case kK => first | exact rfl | assumption); (case kd => ktr_room); (case ku => ktr_units)); intro t' h' tk' F' N')
  | ((refine' mark_no  ?k1 ?k2 ?k3 ?k4 ?k5 ?kK ?kd ?ku ?_; (case k1 => k_asm); (case k2 => k_asm); (case k3 => k_asm); (case k4 => k_asm); (case k5 => k_asm); (case kK => first | exact rfl | assumption); (case kd => ktr_room); (case ku => ktr_units)); intro t' h' tk' F' N'))))
set_option maxHeartbeats 4000000 in
theorem if2_ok {x bk ak : Addr} {kvs : List (Str × Value)} {q : Str} {t1 t2 t3 : Tok} {i j : Int} {rest : Str → Option Value} {Q : Flow → Shared → Prop} (I : TI w news x bk kvs) (hq : q.length ≤ 1000)
  (B : Below A₀ h₀ [] h₀) (X : (hd.heap_39 w.params).In h₀) (N : News h₀ L s.heap news) (T : Top p loose mean mg mb h₀) 
  (F : Fr h₀ L s.heap fun y => if y = Str.ofString "ask" then some (.str q t1) else if y = Str.ofString "at" then some (.int i t2) else if y = Str.ofString "turn" then some (.int j t3) else if y = Str.ofString "asks" then some (.ref ak) else if y = Str.ofString "trie" then some (.ref x) else if y = Str.ofString "book" then some (.ref bk) else rest y)
  (hdp : dp + 8 < recursionLimit) (hun : un + 80 < cLine)
  (ret : ∀ h' tk', Fr h₀ L h' (fun y => if y = Str.ofString "ask" then some (.str q t1) else if y = Str.ofString "at" then some (.int i t2) else if y = Str.ofString "turn" then some (.int j t3) else if y = Str.ofString "asks" then some (.ref ak) else if y = Str.ofString "trie" then some (.ref x) else if y = Str.ofString "book" then some (.ref bk) else rest y) → News h₀ L h' news → Q .next { s with heap := h', toks := tk' }) :
  wpAny (model PySem.Challenge.rw_te0073_01.row.prog w) (ktrTop dp un gd (Str.ofString "law") lawScope L a ccd cl []) (exec (innerSt 2) (envX (Str.ofString "law") lawScope L a ccd cl)) Q E s := by
  with_unfolding_all (conv in innerSt 2 => whnf)
  obtain ⟨dx, ka, tp, u1, u2, u3, u4, u5, ta, tb, ob, vs, ks, n, nt, a1, a2, a3, a4, a5, a6, a7, a8, a9, b1, b2, b3⟩ := id I
  have hL := longest_cases (kvs.map (·.1)) q
  generalize hmv : (valueAt kvs q).isSome = mv
  rcases hL with hL | ⟨k, hL⟩ <;> cases mv
  all_goals repeat' (first | (k_unfold; (try dsimp only)) | walk1 | (dsimp only; walk1) | (leave1; try dsimp only) | fail "no step")
  all_goals first
    | (rename (_ != _) = true => hne; exact absurd hne (by simp))
    | exact ret _ _ (by assumption) (by assumption)
end
end partC12
section partL4
section
variable {prog : Program} {w : World} {A : Around} {E : Value → Shared → Prop} {s : Shared}
theorem eqBool_self (v : Value) {Q : Bool → Shared → Prop} (h : Q true s) : wpAny (model prog w) A (eqBool v v) Q E s := by
  unfold eqBool
  refine wpAny_holding ?_
  rw [if_pos (by simp)]
  wp_walk
  exact h
theorem ne_same {h₀ : Heap} {L : Addr} {news : List (Addr × Obj)} {l b : Addr} {xs ys : List Value} {n k : Nat} {Q : Value → Shared → Prop} (N : News h₀ L s.heap news) (h1 : (l, listOf xs.toArray n) ∈ news) (h2 : (b, listOf ys.toArray k) ∈ news) (e : xs = ys) (hu : A.units < cLine) (h : Q (.bool false) s) :
    wpAny (model prog w) A (compareOp .NotEq (.ref l) (.ref b)) Q E s := by
  subst e
  refine PySem.SeqAt.RcNeAt.lists (e := fun _ => true) (News.isList N h1) (News.isList N h2) rfl hu (fun j a1 a2 => fun prog w E Q hq => eqBool_self _ hq) prog w E Q ?_
  have : (List.range xs.toArray.size).all (fun _ => true) = true := by simp
  rw [this]; exact h
end
end partL4
section partC13
section
variable {w : World} {dp un : Nat} {gd : Option (List Code)} {cn : Str} {cs : Scope} {a : Addr} {ccd : Value} {cl : List (Str × Addr)} {outer : List Env} {A₀ : Around} {base h₀ : Heap} {L : Addr} {m : Str → Option Value} {p : Program} {loose : List Str} {mean : ExcName → Option Value} {mg mb : Str → Option Value} {news : List (Addr × Obj)} {s : Shared} {Q E : Value → Shared → Prop}
theorem book_item {prog : Program} {A : Around} {x bk : Addr} {tq : Tok} {news' : List (Addr × Obj)} {kvs : List (Str × Value)} {q : Str} {v : Value} {value slice : PySem.Expr} {Q : Value → Shared → Prop} (I : TI w news x bk kvs) (N : News h₀ L s.heap news') (hsub : ∀ p ∈ news, p ∈ news') (hv : valueAt kvs q = some v)
  (h : Q v { s with toks := s.toks + 1 }) (hp : prog = PySem.Challenge.rw_te0073_01.row.prog) (hs : subscripted slice false (.ref bk) (.str q tq) = operate [.ref bk, .str q tq] (getItem (.ref bk) (.str q tq)) := by with_unfolding_all rfl) (hg : ∀ r, letTemporaryGo value (.ref bk) r = pure () := by intro _; with_unfolding_all rfl) : wpAny (model prog w) A (subscriptTail value slice (.ref bk) (.str q tq)) Q E s := by
  subst hp
  obtain ⟨dx, ka, tp, t1, t2, t3, t4, t5, ta, tb, ob, vs, ks, n, nt, a1, a2, a3, a4, a5, a6, a7, a8, a9, b1, b2, b3⟩ := I
  exact kda_item (knd := PySem.strKind _ _) N (hsub _ a3) a4 (strKind_is _ _ _ _) hv h hs hg
theorem in_yes' {prog : Program} {A : Around} {x bk : Addr} {tq : Tok} {news' : List (Addr × Obj)} {kvs : List (Str × Value)} {q : Str} {Q : Value → Shared → Prop} (I : TI w news x bk kvs) (N : News h₀ L s.heap news') (hsub : ∀ p ∈ news, p ∈ news') (hm : (valueAt kvs q).isSome = true)
  (h : Q (.bool true) { s with toks := s.toks + 1 }) (hp : prog = PySem.Challenge.rw_te0073_01.row.prog) : wpAny (model prog w) A (compareOp .In (.str q tq) (.ref bk)) Q E s := in_yes (I.mono hsub) N hm h hp
theorem in_no' {prog : Program} {A : Around} {x bk : Addr} {tq : Tok} {news' : List (Addr × Obj)} {kvs : List (Str × Value)} {q : Str} {Q : Value → Shared → Prop} (I : TI w news x bk kvs) (N : News h₀ L s.heap news') (hsub : ∀ p ∈ news, p ∈ news') (hm : (valueAt kvs q).isSome = false)
  (h : Q (.bool false) { s with toks := s.toks + 1 }) (hp : prog = PySem.Challenge.rw_te0073_01.row.prog) : wpAny (model prog w) A (compareOp .In (.str q tq) (.ref bk)) Q E s := in_no (I.mono hsub) N hm h hp
local macro_rules | `(tactic| k_mem) => `(tactic| first | assumption | exact List.mem_cons_self | (apply List.mem_cons_of_mem; k_mem))
local macro_rules | `(tactic| walk_at "subscriptTail Name Name ref str") => `(tactic| (k_here; k_dflt (refine book_item (by assumption) (by assumption) (fun p hp => List.mem_cons_of_mem _ hp) (by assumption) ?_ (by rfl))))
local macro_rules | `(tactic| walk_at "compareOp In str ref") => `(tactic| (k_here; k_dflt (first | refine in_yes' (by assumption) (by assumption) (fun p hp => List.mem_cons_of_mem _ hp) (by assumption) ?_ (by rfl) | refine in_no' (by assumption) (by assumption) (fun p hp => List.mem_cons_of_mem _ hp) (by assumption) ?_ (by rfl))))
local macro_rules | `(tactic| walk_at "call ref") => `(tactic| (k_here; k_dflt ((refine' item_ti ?x0 ?k1 ?k2 ?k3 ?k4 ?k5 ?kK ?kd ?ku ?_; (case x0 => assumption); (case k1 => k_asm); (case k2 => k_asm); (case k3 => k_asm); (case k4 => k_asm); (case k5 => k_asm); (case kK => first | exact rfl | assumption); (case kd => ktr_room); (case ku => ktr_units)); intro D' n' h' tk' F' N' l1)))
local macro_rules | `(tactic| walk_at "compareOp NotEq ref ref") => `(tactic| refine Stop.out (P := wpAny _ _ _ _ _ _) ?_)
set_option maxHeartbeats 4000000 in
theorem if3_ok {x bk ak : Addr} {kvs : List (Str × Value)} {q : Str} {t1 t2 t3 : Tok} {i j : Int} {rest : Str → Option Value} {Q : Flow → Shared → Prop} (I : TI w news x bk kvs) (hq : q.length ≤ 1000)
  (B : Below A₀ h₀ [] h₀) (X : (hd.heap_39 w.params).In h₀) (N : News h₀ L s.heap news) (T : Top p loose mean mg mb h₀) 
  (F : Fr h₀ L s.heap fun y => if y = Str.ofString "ask" then some (.str q t1) else if y = Str.ofString "at" then some (.int i t2) else if y = Str.ofString "turn" then some (.int j t3) else if y = Str.ofString "asks" then some (.ref ak) else if y = Str.ofString "trie" then some (.ref x) else if y = Str.ofString "book" then some (.ref bk) else rest y)
  (hdp : dp + 8 < recursionLimit) (hun : un + 80 < cLine)
  (ret : ∀ h' tk', Fr h₀ L h' (fun y => if y = Str.ofString "ask" then some (.str q t1) else if y = Str.ofString "at" then some (.int i t2) else if y = Str.ofString "turn" then some (.int j t3) else if y = Str.ofString "asks" then some (.ref ak) else if y = Str.ofString "trie" then some (.ref x) else if y = Str.ofString "book" then some (.ref bk) else rest y) → News h₀ L h' news → Q .next { s with heap := h', toks := tk' }) :
  wpAny (model PySem.Challenge.rw_te0073_01.row.prog w) (ktrTop dp un gd (Str.ofString "law") lawScope L a ccd cl []) (exec (innerSt 3) (envX (Str.ofString "law") lawScope L a ccd cl)) Q E s := by
  with_unfolding_all (conv in innerSt 3 => whnf)
  obtain ⟨dx, ka, tp, u1, u2, u3, u4, u5, ta, tb, ob, vs, ks, n, nt, a1, a2, a3, a4, a5, a6, a7, a8, a9, b1, b2, b3⟩ := id I
  rcases hv : valueAt kvs q with _ | v
  · have hm : (valueAt kvs q).isSome = false := by rw [hv]; rfl
    repeat' (first | (k_unfold; (try dsimp only)) | walk1 | (dsimp only; walk1) | (leave1; try dsimp only) | fail "no step")
    refine Stop.go ?_
    rename News _ _ _ _ => N₁
    rename Fr _ _ _ _ => F₁
    refine ne_same (ys := []) N₁ (List.mem_cons_of_mem _ List.mem_cons_self) List.mem_cons_self (by rw [hv]; rfl) (by ktr_units) ?_
    repeat' (first | (k_unfold; (try dsimp only)) | walk1 | (dsimp only; walk1) | (leave1; try dsimp only) | fail "no step")
    exact ret _ _ F₁ (cb_drop N₁ fun p hp => List.mem_cons_of_mem _ (List.mem_cons_of_mem _ hp))
  · have hm : (valueAt kvs q).isSome = true := by rw [hv]; rfl
    repeat' (first | (k_unfold; (try dsimp only)) | walk1 | (dsimp only; walk1) | (leave1; try dsimp only) | fail "no step")
    refine Stop.go ?_
    rename News _ _ _ _ => N₁
    rename Fr _ _ _ _ => F₁
    refine ne_same (ys := [v]) N₁ (List.mem_cons_of_mem _ List.mem_cons_self) List.mem_cons_self (by rw [hv]; rfl) (by ktr_units) ?_
    repeat' (first | (k_unfold; (try dsimp only)) | walk1 | (dsimp only; walk1) | (leave1; try dsimp only) | fail "no step")
    exact ret _ _ F₁ (cb_drop N₁ fun p hp => List.mem_cons_of_mem _ (List.mem_cons_of_mem _ hp))
end
end partC13
section partC14
local macro_rules | `(tactic| walk_at "idle pad") => `(tactic| fail "idle")
local macro_rules | `(tactic| walk_at "idle pad") => `(tactic| fail "idle")
local macro_rules | `(tactic| walk_at "idle pad") => `(tactic| fail "idle")
local macro_rules | `(tactic| walk_at "idle pad") => `(tactic| fail "idle")
local macro_rules | `(tactic| walk_at "idle pad") => `(tactic| fail "idle")
local macro_rules | `(tactic| walk_at "idle pad") => `(tactic| fail "idle")
local macro_rules | `(tactic| walk_at "idle pad") => `(tactic| fail "idle")
local macro_rules | `(tactic| walk_at "idle pad") => `(tactic| fail "idle")
local macro_rules | `(tactic| walk_at "idle pad") => `(tactic| fail "idle")
local macro_rules | `(tactic| walk_at "idle pad") => `(tactic| fail "idle")
local macro_rules | `(tactic| walk_at "idle pad") => `(tactic| fail "idle")
local macro_rules | `(tactic| walk_at "idle pad") => `(tactic| fail "idle")
section
variable {w : World} {dp un : Nat} {gd : Option (List Code)} {cn : Str} {cs : Scope} {a : Addr} {ccd : Value} {cl : List (Str × Addr)} {outer : List Env} {A₀ : Around} {base h₀ : Heap} {L : Addr} {m : Str → Option Value} {p : Program} {loose : List Str} {mean : ExcName → Option Value} {mg mb : Str → Option Value} {news : List (Addr × Obj)} {s : Shared} {Q E : Value → Shared → Prop}
local macro_rules | `(tactic| walk_at "call builtin:len") => `(tactic| (k_here; k_dflt (refine len_news (by assumption) (by assumption) (by assumption) (by omega) ?_)))
local macro_rules | `(tactic| walk_at "subscriptTail Name Name ref int") => `(tactic| refine Stop.out (P := wpAny _ _ _ _ _ _) ?_)
local macro_rules | `(tactic| walk_at "subscriptTail Name BinOp ref int") => `(tactic| refine Stop.out (P := wpAny _ _ _ _ _ _) ?_)
local macro_rules | `(tactic| walk_at "execs cons") => `(tactic| refine Stop.out (P := wpAny _ _ _ _ _ _) ?_)
set_option maxHeartbeats 4000000 in
theorem turn_ok {x bk ak : Addr} {kvs : List (Str × Value)} {avs : List Value} {as : List Str} {n : Nat} {u : Option Value} {t2 t3 : Tok} {i : Nat} {j : Int} {rest : Str → Option Value} {Q : Flow → Shared → Prop} (I : TI w news x bk kvs)
  (ha : (ak, listOf avs.toArray n) ∈ news) (hS : StrsAre avs as) (hlen : ∀ q ∈ as, q.length ≤ 1000) (hfit : as.length < 1000) (hi : i < as.length) (hj : j = 0 ∨ j = 1)
  (B : Below A₀ h₀ [] h₀) (X : (hd.heap_39 w.params).In h₀) (N : News h₀ L s.heap news) (T : Top p loose mean mg mb h₀) 
  (F : Fr h₀ L s.heap fun y => if y = Str.ofString "ask" then u else if y = Str.ofString "at" then some (.int (i : Nat) t2) else if y = Str.ofString "turn" then some (.int j t3) else if y = Str.ofString "asks" then some (.ref ak) else if y = Str.ofString "trie" then some (.ref x) else if y = Str.ofString "book" then some (.ref bk) else rest y)
  (hdp : dp + 8 < recursionLimit) (hun : un + 80 < cLine)
  (ret : ∀ q t1 h' tk', Fr h₀ L h' (fun y => if y = Str.ofString "ask" then some (.str q t1) else if y = Str.ofString "at" then some (.int (i : Nat) t2) else if y = Str.ofString "turn" then some (.int j t3) else if y = Str.ofString "asks" then some (.ref ak) else if y = Str.ofString "trie" then some (.ref x) else if y = Str.ofString "book" then some (.ref bk) else rest y) → News h₀ L h' news → Q .next { s with heap := h', toks := tk' }) :
  wpAny (model PySem.Challenge.rw_te0073_01.row.prog w) (ktrTop dp un gd (Str.ofString "law") lawScope L a ccd cl []) (execs innerBody (envX (Str.ofString "law") lawScope L a ccd cl)) Q E s := by
  have key : ∀ q t1 h' tk', q.length ≤ 1000 → News h₀ L h' news → Fr h₀ L h' (fun y => if y = Str.ofString "ask" then some (.str q t1) else if y = Str.ofString "at" then some (.int (i : Nat) t2) else if y = Str.ofString "turn" then some (.int j t3) else if y = Str.ofString "asks" then some (.ref ak) else if y = Str.ofString "trie" then some (.ref x) else if y = Str.ofString "book" then some (.ref bk) else rest y) →
      wpAny (model PySem.Challenge.rw_te0073_01.row.prog w) (ktrTop dp un gd (Str.ofString "law") lawScope L a ccd cl []) (execs [innerSt 1, innerSt 2, innerSt 3] (envX (Str.ofString "law") lawScope L a ccd cl)) Q E { s with heap := h', toks := tk' } := by
    intro q t1 h' tk' hq N' F'
    refine wpAny_execs_cons ?_
    refine if1_ok I hq B X N' T F' hdp hun fun h1 k1 F1 N1 => ?_
    refine wpAny_execs_cons ?_
    refine if2_ok I hq B X N1 T F1 hdp hun fun h2 k2 F2 N2 => ?_
    refine wpAny_execs_cons ?_
    refine if3_ok I hq B X N2 T F2 hdp hun fun h3 k3 F3 N3 => ?_
    refine wpAny_pure ?_
    exact ret _ _ _ _ F3 N3
  with_unfolding_all (conv in innerBody => whnf)
  rcases hj with rfl | rfl
  · refine wpAny_execs_cons ?_
    repeat' (first | (k_unfold; (try dsimp only)) | walk1 | (dsimp only; walk1) | (leave1; try dsimp only) | fail "no step")
    refine Stop.go ?_
    refine item_news N ha hS (by omega) (by omega) (by omega) fun t' q hq => ?_
    repeat' (first | (k_unfold; (try dsimp only)) | walk1 | (dsimp only; walk1) | (leave1; try dsimp only) | fail "no step")
    refine Stop.go ?_
    rename News _ _ _ _ => N₁
    rename Fr _ _ _ _ => F₁
    exact key q _ _ _ (hlen _ (List.mem_of_getElem? hq)) (by assumption) (fr_eq F₁ ((fun y => if h1 : y = Str.ofString "ask" then (by subst h1; rfl) else if h2 : y = Str.ofString "at" then (by subst h2; rfl) else if h3 : y = Str.ofString "turn" then (by subst h3; rfl) else if h4 : y = Str.ofString "asks" then (by subst h4; rfl) else if h5 : y = Str.ofString "trie" then (by subst h5; rfl) else if h6 : y = Str.ofString "book" then (by subst h6; rfl) else (by simp [h1, beq_false_of_ne h1, h2, beq_false_of_ne h2, h3, beq_false_of_ne h3, h4, beq_false_of_ne h4, h5, beq_false_of_ne h5, h6, beq_false_of_ne h6, List.lookup]))))
  · refine wpAny_execs_cons ?_
    repeat' (first | (k_unfold; (try dsimp only)) | walk1 | (dsimp only; walk1) | (leave1; try dsimp only) | fail "no step")
    refine Stop.go ?_
    refine item_news N ha hS (by omega) (by omega) (by omega) fun t' q hq => ?_
    repeat' (first | (k_unfold; (try dsimp only)) | walk1 | (dsimp only; walk1) | (leave1; try dsimp only) | fail "no step")
    refine Stop.go ?_
    rename News _ _ _ _ => N₁
    rename Fr _ _ _ _ => F₁
    exact key q _ _ _ (hlen _ (List.mem_of_getElem? hq)) (by assumption) (fr_eq F₁ ((fun y => if h1 : y = Str.ofString "ask" then (by subst h1; rfl) else if h2 : y = Str.ofString "at" then (by subst h2; rfl) else if h3 : y = Str.ofString "turn" then (by subst h3; rfl) else if h4 : y = Str.ofString "asks" then (by subst h4; rfl) else if h5 : y = Str.ofString "trie" then (by subst h5; rfl) else if h6 : y = Str.ofString "book" then (by subst h6; rfl) else (by simp [h1, beq_false_of_ne h1, h2, beq_false_of_ne h2, h3, beq_false_of_ne h3, h4, beq_false_of_ne h4, h5, beq_false_of_ne h5, h6, beq_false_of_ne h6, List.lookup]))))
end
end partC14
section partC15
local macro_rules | `(tactic| walk_at "idle pad") => `(tactic| fail "idle")
local macro_rules | `(tactic| walk_at "idle pad") => `(tactic| fail "idle")
local macro_rules | `(tactic| walk_at "idle pad") => `(tactic| fail "idle")
local macro_rules | `(tactic| walk_at "idle pad") => `(tactic| fail "idle")
local macro_rules | `(tactic| walk_at "idle pad") => `(tactic| fail "idle")
local macro_rules | `(tactic| walk_at "idle pad") => `(tactic| fail "idle")
local macro_rules | `(tactic| walk_at "idle pad") => `(tactic| fail "idle")
local macro_rules | `(tactic| walk_at "idle pad") => `(tactic| fail "idle")
local macro_rules | `(tactic| walk_at "idle pad") => `(tactic| fail "idle")
local macro_rules | `(tactic| walk_at "idle pad") => `(tactic| fail "idle")
local macro_rules | `(tactic| walk_at "idle pad") => `(tactic| fail "idle")
local macro_rules | `(tactic| walk_at "idle pad") => `(tactic| fail "idle")
local macro_rules | `(tactic| walk_at "idle pad") => `(tactic| fail "idle")
local macro_rules | `(tactic| walk_at "idle pad") => `(tactic| fail "idle")
local macro_rules | `(tactic| walk_at "idle pad") => `(tactic| fail "idle")
local macro_rules | `(tactic| walk_at "idle pad") => `(tactic| fail "idle")
local macro_rules | `(tactic| walk_at "idle pad") => `(tactic| fail "idle")
local macro_rules | `(tactic| walk_at "idle pad") => `(tactic| fail "idle")
local macro_rules | `(tactic| walk_at "idle pad") => `(tactic| fail "idle")
local macro_rules | `(tactic| walk_at "idle pad") => `(tactic| fail "idle")
local macro_rules | `(tactic| walk_at "idle pad") => `(tactic| fail "idle")
local macro_rules | `(tactic| walk_at "idle pad") => `(tactic| fail "idle")
local macro_rules | `(tactic| walk_at "idle pad") => `(tactic| fail "idle")
local macro_rules | `(tactic| walk_at "idle pad") => `(tactic| fail "idle")
section
variable {w : World} {dp un : Nat} {gd : Option (List Code)} {cn : Str} {cs : Scope} {a : Addr} {ccd : Value} {cl : List (Str × Addr)} {outer : List Env} {A₀ : Around} {base h₀ : Heap} {L : Addr} {m : Str → Option Value} {p : Program} {loose : List Str} {mean : ExcName → Option Value} {mg mb : Str → Option Value} {news : List (Addr × Obj)} {s : Shared} {Q E : Value → Shared → Prop}
local macro_rules | `(tactic| walk_at "exec For Name Name cons nil") => `(tactic| (k_here; (rename Fr _ _ _ _ => lF'); (with_unfolding_all refine' For_invVF lF' ?k1 ?k2 ?_; (case k1 => exact rfl); (case k2 => exact rfl))))
local macro_rules | `(tactic| walk_at "exec For Name Call cons nil") => `(tactic| (k_here; (rename Fr _ _ _ _ => lF'); (with_unfolding_all refine' For_invVF lF' ?k1 ?k2 ?_; (case k1 => exact rfl); (case k2 => exact rfl))))
local macro_rules | `(tactic| walk_at "pyIter ref") => `(tactic| refine Stop.out (P := wpAny _ _ _ _ _ _) ?_)
local macro_rules | `(tactic| passes_own) => `(tactic| assumption)
local macro_rules | `(tactic| walk_at "call builtin:len") => `(tactic| (k_here; k_dflt (refine len_news (by assumption) (by assumption) (by assumption) (by omega) ?_)))
theorem book_len {prog : Program} {A : Around} {x bk : Addr} {kvs : List (Str × Value)} {Q : Value → Shared → Prop} (I : TI w news x bk kvs) (N : News h₀ L s.heap news) 
  (h : Q (.int kvs.length (s.toks + 1)) { s with toks := s.toks + 1 + 1 }) (hp : prog = PySem.Challenge.rw_te0073_01.row.prog) : wpAny (model prog w) A (call (.builtin "len") [.ref bk]) Q E s := by
  subst hp
  obtain ⟨dx, ka, tp, t1, t2, t3, t4, t5, ta, tb, ob, vs, ks, n, nt, a1, a2, a3, a4, a5, a6, a7, a8, a9, b1, b2, b3⟩ := I
  exact kda_len (knd := PySem.strKind _ _) N a3 a4 a5 (by omega) h
set_option maxHeartbeats 4000000 in
theorem loops_ok {x bk ak : Addr} {kvs : List (Str × Value)} {avs : List Value} {as : List Str} {n : Nat} {u1 u2 u3 : Option Value} {rest : Str → Option Value} {Q : Flow → Shared → Prop} (I : TI w news x bk kvs)
  (ha : (ak, listOf avs.toArray n) ∈ news) (hS : StrsAre avs as) (hlen : ∀ q ∈ as, q.length ≤ 1000) (hfit : as.length < 1000)
  (B : Below A₀ h₀ [] h₀) (X : (hd.heap_39 w.params).In h₀) (N : News h₀ L s.heap news) (T : Top p loose mean mg mb h₀) 
  (F : Fr h₀ L s.heap fun y => if y = Str.ofString "ask" then u1 else if y = Str.ofString "at" then u2 else if y = Str.ofString "turn" then u3 else if y = Str.ofString "asks" then some (.ref ak) else if y = Str.ofString "trie" then some (.ref x) else if y = Str.ofString "book" then some (.ref bk) else rest y)
  (hE : PassesOwn (model PySem.Challenge.rw_te0073_01.row.prog w) (ktrTop dp un gd (Str.ofString "law") lawScope L a ccd cl []) (envX (Str.ofString "law") lawScope L a ccd cl) E) (hdp : dp + 8 < recursionLimit) (hun : un + 80 < cLine)
  (ret : ∀ u1 u2 u3 h' tk', Fr h₀ L h' (fun y => if y = Str.ofString "ask" then u1 else if y = Str.ofString "at" then u2 else if y = Str.ofString "turn" then u3 else if y = Str.ofString "asks" then some (.ref ak) else if y = Str.ofString "trie" then some (.ref x) else if y = Str.ofString "book" then some (.ref bk) else rest y) → News h₀ L h' news → Q .next { s with heap := h', toks := tk' }) :
  wpAny (model PySem.Challenge.rw_te0073_01.row.prog w) (ktrTop dp un gd (Str.ofString "law") lawScope L a ccd cl []) (exec (lawSt 6) (envX (Str.ofString "law") lawScope L a ccd cl)) Q E s := by
  with_unfolding_all (conv in lawSt 6 => whnf)
  repeat' (first | (k_unfold; (try dsimp only)) | walk1 | (dsimp only; walk1) | (leave1; try dsimp only) | fail "no step")

  refine Stop.go ?_
  rename IsRange _ _ _ _ _ _ _ _ => hR
  rename Fr _ _ _ _ => F₁
  rename News _ _ _ _ => N₁
  refine iter_range_ro (n := 2) (fun i m₁ => ∃ u1 u2 u3, m₁ = fun y => if y = Str.ofString "ask" then u1 else if y = Str.ofString "at" then u2 else if y = Str.ofString "turn" then u3 else if y = Str.ofString "asks" then some (.ref ak) else if y = Str.ofString "trie" then some (.ref x) else if y = Str.ofString "book" then some (.ref bk) else rest y) rfl hR (by omega) (by omega) (by omega) F₁ N₁ ⟨_, _, _, rfl⟩ ?turn ?done
  case turn =>
    rintro i t m₁ h₁ tk₁ own hi ⟨v1, v2, v3, rfl⟩ F₂ N₂
    clear F₁ N₁ hR
    have hij : (0 + (i : Int)) = 0 ∨ (0 + (i : Int)) = 1 := by omega
    generalize (0 + (i : Int)) = j at *
    have ha₂ := List.mem_append_right own ha
    have I₂ := I.mono (fun p hp => List.mem_append_right own hp)
    repeat' (first | (k_unfold; (try dsimp only)) | walk1 | (dsimp only; walk1) | (leave1; try dsimp only) | fail "no step")
    refine Stop.go ?_
    rename IsRange _ _ _ _ _ _ _ _ => hR
    rename Fr _ _ _ _ => F₃
    rename News _ _ _ _ => N₃
    refine iter_range_ro (n := as.length) (fun i m₁ => ∃ u1 u2, m₁ = fun y => if y = Str.ofString "ask" then u1 else if y = Str.ofString "at" then u2 else if y = Str.ofString "turn" then some (.int j t) else if y = Str.ofString "asks" then some (.ref ak) else if y = Str.ofString "trie" then some (.ref x) else if y = Str.ofString "book" then some (.ref bk) else rest y) rfl hR (by omega) (by omega) (by omega) (fr_eq F₃ ((fun y => if h1 : y = Str.ofString "ask" then (by subst h1; rfl) else if h2 : y = Str.ofString "at" then (by subst h2; rfl) else if h3 : y = Str.ofString "turn" then (by subst h3; rfl) else if h4 : y = Str.ofString "asks" then (by subst h4; rfl) else if h5 : y = Str.ofString "trie" then (by subst h5; rfl) else if h6 : y = Str.ofString "book" then (by subst h6; rfl) else (by simp [h1, beq_false_of_ne h1, h2, beq_false_of_ne h2, h3, beq_false_of_ne h3, h4, beq_false_of_ne h4, h5, beq_false_of_ne h5, h6, beq_false_of_ne h6, List.lookup])))) N₃ ⟨_, _, rfl⟩ ?turn2 ?done2
    case turn2 =>
      rintro k t' m₂ h₂ tk₂ own' hk ⟨v1, v2, rfl⟩ F₄ N₄
      clear F₃ N₃ hR
      have e : (0 + (k : Int)) = (k : Int) := by omega
      rw [e] at F₄
      refine turn_ok (u := v1) (rest := rest) (I₂.mono fun p hp => List.mem_append_right own' hp) (List.mem_append_right own' ha₂) hS hlen hfit hk hij B X N₄ T (fr_eq F₄ ((fun y => if h1 : y = Str.ofString "ask" then (by subst h1; rfl) else if h2 : y = Str.ofString "at" then (by subst h2; rfl) else if h3 : y = Str.ofString "turn" then (by subst h3; rfl) else if h4 : y = Str.ofString "asks" then (by subst h4; rfl) else if h5 : y = Str.ofString "trie" then (by subst h5; rfl) else if h6 : y = Str.ofString "book" then (by subst h6; rfl) else (by simp [h1, beq_false_of_ne h1, h2, beq_false_of_ne h2, h3, beq_false_of_ne h3, h4, beq_false_of_ne h4, h5, beq_false_of_ne h5, h6, beq_false_of_ne h6, List.lookup])))) (by ktr_room) (by ktr_units) fun q t1 h' tk' F' N' => ?_
      exact InvEnd.intro F' N' (fun p hp => hp) ⟨_, _, rfl⟩
    case done2 =>
      rintro m₂ h₂ tk₂ ⟨v1, v2, rfl⟩ F₄ N₄
      clear F₃ N₃ hR
      dsimp only
      repeat' (first | (k_unfold; (try dsimp only)) | walk1 | (dsimp only; walk1) | (leave1; try dsimp only) | fail "no step")
      exact InvEnd.intro F₄ N₄ (fun p hp => hp) ⟨_, _, _, rfl⟩
  case done =>
    rintro m₁ h₁ tk₁ ⟨v1, v2, v3, rfl⟩ F₂ N₂
    clear F₁ N₁ hR
    exact ret _ _ _ _ _ F₂ N₂
local macro_rules | `(tactic| walk_at "call builtin:len") => `(tactic| (k_here; k_dflt (refine book_len (by assumption) (by assumption) ?_ (by rfl))))
local macro_rules | `(tactic| walk_at "call ref") => `(tactic| (k_here; (with_reducible show wpAny _ _ (call (Value.ref _) _ _) _ _ _); refine wpAny_call ?_; k_dflt (refine' code_def ?k1 ?k2 ?k3 ?k4 ?k5 ?kA ?kF ?kK ?k6 ?k7 ?k8 ?k9 ?kB ?_ ?c2 ?c3 ?c4 ?c5; (case kA => exact rfl); (case kF => exact rfl); (case kK => first | exact rfl | assumption); (case k1 => k_asm); (case k2 => k_asm); (case k3 => k_asm); (case k4 => k_asm); (case k5 => k_asm); (case k6 => k_is); (case k7 => k_is); (case k8 => ktr_room); (case k9 => first | exact BindsTo.of_eq rfl | exact binds_K (by k_in) rfl (by k_is) rfl rfl rfl); (case c5 => decide); (case kB => exact locs rfl); (case c2 => exact rfl); (case c3 => exact rfl); (case c4 => exact rfl); k_whole; intro g' L' h' FG' F' N' B' X' T'; (try dsimp only); (try k_lift B'); (try k_fold))))
set_option maxHeartbeats 4000000 in
theorem last_ok {x bk ak : Addr} {kvs : List (Str × Value)} {u1 u2 u3 : Option Value} {rest : Str → Option Value} {Q : Flow → Shared → Prop} (I : TI w news x bk kvs)
  (B : Below A₀ h₀ [] h₀) (X : (hd.heap_39 w.params).In h₀) (N : News h₀ L s.heap news) (T : Top p loose mean mg mb h₀) 
  (F : Fr h₀ L s.heap fun y => if y = Str.ofString "ask" then u1 else if y = Str.ofString "at" then u2 else if y = Str.ofString "turn" then u3 else if y = Str.ofString "asks" then some (.ref ak) else if y = Str.ofString "trie" then some (.ref x) else if y = Str.ofString "book" then some (.ref bk) else rest y)
  (hdp : dp + 8 < recursionLimit) (hun : un + 80 < cLine)
  (ret : ∀ m' h' tk', Fr h₀ L h' m' → News h₀ L h' news → Q (.ret (.bool true)) { s with heap := h', toks := tk' }) :
  wpAny (model PySem.Challenge.rw_te0073_01.row.prog w) (ktrTop dp un gd (Str.ofString "law") lawScope L a ccd cl []) (exec (lawSt 7) (envX (Str.ofString "law") lawScope L a ccd cl)) Q E s := by
  with_unfolding_all (conv in lawSt 7 => whnf)
  obtain ⟨dx, ka, tp, y1, y2, y3, y4, y5, ta, tb, ob, vs, ks, n, nt, a1, a2, a3, a4, a5, a6, a7, a8, a9, b1, b2, b3⟩ := id I
  repeat' (first | (k_unfold; (try dsimp only)) | walk1 | (dsimp only; walk1) | (leave1; try dsimp only) | fail "no step")
  rw [beq_self_eq_true]
  exact ret _ _ _ (by assumption) (by assumption)
end
end partC15
section partL5
section
variable {prog : Program} {w : World} {A : Around} {h₀ : Heap} {L : Addr} {m : Str → Option Value} {env : Env} {elt : Expr} {x : Str} {scope : Scope} {cl : List (Str × Addr)} {s : Shared} {S : List (Addr × Obj) → Prop} {P : Nat → Value → Prop} {Fin : List Value → List (Addr × Obj) → Prop} {news : List (Addr × Obj)}
theorem strs_app : ∀ {vs us : List Value} {ys zs : List Str}, StrsAre vs ys → StrsAre us zs → StrsAre (vs ++ us) (ys ++ zs)
  | _, _, _, _, .nil, h => h
  | _, _, _, _, .cons z u r, h => .cons z u (strs_app r h)
theorem comp_strs {n : Nat} (PS : Str → Prop)
    (turn : ∀ i v I oI C oC D m₂ ys h tk (E' : Value → Shared → Prop), i < n → P i v → LCg.NsObj oC m₂ → m₂ x = some v → Fr h₀ L h m → News h₀ L h ((I, oI) :: (C, oC) :: (D, LCg.lst ys) :: news) → LCg.Off3 I C D news → ((@Ne Nat I C) ∧ (@Ne Nat I D) ∧ (@Ne Nat C D)) → 
      wpAny (model prog w) A (eval elt (compEnvC scope cl C env)) (LCg.CompEnd h₀ L m { s with heap := h, toks := tk } I oI C oC D (LCg.lst ys) S (fun y news' => news' = news ∧ ∃ r t, y = .str r t ∧ PS r)) E' { s with heap := h, toks := tk })
    (fin : ∀ ys ts, StrsAre ys ts → ts.length = n → (∀ r ∈ ts, PS r) → Fin ys news) : LCg.CompRest prog w A h₀ L m env elt x scope cl s S P Fin n 0 [] news := by
  have key : ∀ (j i : Nat) (ys : List Value) (ts : List Str), i + j = n → ts.length = i → StrsAre ys ts → (∀ r ∈ ts, PS r) → LCg.CompRest prog w A h₀ L m env elt x scope cl s S P Fin j i ys news := by
    intro j
    induction j with
    | zero =>
      intro i ys ts hi ht hy hp
      exact LCg.CompRest.zero (fin ys ts hy (by omega) hp)
    | succ j ih =>
      intro i ys ts hi ht hy hp
      refine LCg.CompRest.succ ?_
      intro v I oI C oC D m₂ h tk E' hv hC hx F N off ne
      refine wpAny_mono (turn i v I oI C oC D m₂ ys h tk E' (by omega) hv hC hx F N off ne) (fun y s₂ hq => ?_) fun _ _ e => e
      obtain ⟨h', tk', nw, e, F', N', off', hS, hn, r, t', hy', hr⟩ := hq
      rw [hn] at N' off' hS
      refine ⟨h', tk', news, e, F', N', off', hS, ?_⟩
      rw [hy']
      refine ih (i + 1) _ (ts ++ [r]) (by omega) (by simp [ht]) (kct_snoc hy) ?_
      intro q hq
      rcases List.mem_append.mp hq with hq | hq
      · exact hp q hq
      · rw [List.mem_singleton.mp hq]; exact hr
  exact key n 0 [] [] (by omega) rfl .nil (fun r hr => nomatch hr)
end
end partL5
section partC16
local macro_rules | `(tactic| walk_at "idle pad") => `(tactic| fail "idle")
local macro_rules | `(tactic| walk_at "idle pad") => `(tactic| fail "idle")
local macro_rules | `(tactic| walk_at "idle pad") => `(tactic| fail "idle")
local macro_rules | `(tactic| walk_at "idle pad") => `(tactic| fail "idle")
local macro_rules | `(tactic| walk_at "idle pad") => `(tactic| fail "idle")
local macro_rules | `(tactic| walk_at "idle pad") => `(tactic| fail "idle")
local macro_rules | `(tactic| walk_at "idle pad") => `(tactic| fail "idle")
local macro_rules | `(tactic| walk_at "idle pad") => `(tactic| fail "idle")
local macro_rules | `(tactic| walk_at "idle pad") => `(tactic| fail "idle")
local macro_rules | `(tactic| walk_at "idle pad") => `(tactic| fail "idle")
local macro_rules | `(tactic| walk_at "idle pad") => `(tactic| fail "idle")
local macro_rules | `(tactic| walk_at "idle pad") => `(tactic| fail "idle")
local macro_rules | `(tactic| walk_at "idle pad") => `(tactic| fail "idle")
local macro_rules | `(tactic| walk_at "idle pad") => `(tactic| fail "idle")
local macro_rules | `(tactic| walk_at "idle pad") => `(tactic| fail "idle")
local macro_rules | `(tactic| walk_at "idle pad") => `(tactic| fail "idle")
local macro_rules | `(tactic| walk_at "idle pad") => `(tactic| fail "idle")
local macro_rules | `(tactic| walk_at "idle pad") => `(tactic| fail "idle")
local macro_rules | `(tactic| walk_at "idle pad") => `(tactic| fail "idle")
local macro_rules | `(tactic| walk_at "idle pad") => `(tactic| fail "idle")
local macro_rules | `(tactic| walk_at "idle pad") => `(tactic| fail "idle")
local macro_rules | `(tactic| walk_at "idle pad") => `(tactic| fail "idle")
local macro_rules | `(tactic| walk_at "idle pad") => `(tactic| fail "idle")
local macro_rules | `(tactic| walk_at "idle pad") => `(tactic| fail "idle")
local macro_rules | `(tactic| walk_at "idle pad") => `(tactic| fail "idle")
local macro_rules | `(tactic| walk_at "idle pad") => `(tactic| fail "idle")
local macro_rules | `(tactic| walk_at "idle pad") => `(tactic| fail "idle")
local macro_rules | `(tactic| walk_at "idle pad") => `(tactic| fail "idle")
local macro_rules | `(tactic| walk_at "idle pad") => `(tactic| fail "idle")
local macro_rules | `(tactic| walk_at "idle pad") => `(tactic| fail "idle")
local macro_rules | `(tactic| walk_at "idle pad") => `(tactic| fail "idle")
local macro_rules | `(tactic| walk_at "idle pad") => `(tactic| fail "idle")
local macro_rules | `(tactic| walk_at "idle pad") => `(tactic| fail "idle")
local macro_rules | `(tactic| walk_at "idle pad") => `(tactic| fail "idle")
local macro_rules | `(tactic| walk_at "idle pad") => `(tactic| fail "idle")
local macro_rules | `(tactic| walk_at "idle pad") => `(tactic| fail "idle")
section
variable {w : World} {dp un : Nat} {gd : Option (List Code)} {cn : Str} {cs : Scope} {a : Addr} {ccd : Value} {cl : List (Str × Addr)} {outer : List Env} {A₀ : Around} {base h₀ : Heap} {L : Addr} {m : Str → Option Value} {p : Program} {loose : List Str} {mean : ExcName → Option Value} {mg mb : Str → Option Value} {news : List (Addr × Obj)} {s : Shared} {Q E : Value → Shared → Prop}
theorem base_len {prog : Program} {A : Around} {sl : Addr} {vs : List Value} {ns : List Int} {Q : Value → Shared → Prop} (F : Fr h₀ L s.heap m) (hl : h₀.IsList sl vs.toArray) (hi : IntsAre vs ns) (hn : ¬ ((63 : Nat) : Int) < (ns.length : Int))
  (h : Q (.int ns.length (s.toks + 1)) { s with toks := s.toks + 1 + 1 }) : wpAny (model prog w) A (call (.builtin "len") [.ref sl]) Q E s := by
  have e : vs.toArray.size = ns.length := by rw [List.size_toArray]; exact hi.length
  refine Calls.call_len_list (items := vs.toArray) (let ⟨o, ho, r⟩ := hl; ⟨o, F.keep _ _ ho, r⟩) (by omega) ?_
  rw [e]; exact h
local macro_rules | `(tactic| walk_at "call builtin:len") => `(tactic| (k_here; k_dflt (refine base_len (by assumption) (by assumption) (by assumption) (by assumption) ?_)))
theorem base_item {prog : Program} {A : Around} {sl : Addr} {vs : List Value} {ns : List Int} {k : Int} {u : Tok} {value slice : PySem.Expr} {Q : Value → Shared → Prop} (F : Fr h₀ L s.heap m) (hl : h₀.IsList sl vs.toArray) (hi : IntsAre vs ns) (hn : ¬ ((63 : Nat) : Int) < (ns.length : Int))
  (h0 : 0 ≤ k) (h1 : k < (ns.length : Int)) (h : ∀ j t, Q (.int j t) s) (hs : subscripted slice false (.ref sl) (.int k u) = operate [.ref sl, .int k u] (getItem (.ref sl) (.int k u)) := by with_unfolding_all rfl) :
  wpAny (model prog w) A (subscriptTail value slice (.ref sl) (.int k u)) Q E s :=
  item_list_intsR (let ⟨o, ho, r⟩ := hl; ⟨o, F.keep _ _ ho, r⟩) hi h0 h1 (by omega) (fun t => h _ t) hs
local macro_rules | `(tactic| walk_at "subscriptTail Name Name ref int") => `(tactic| (k_here; k_dflt (refine base_item (by assumption) (by assumption) (by assumption) (by assumption) (by omega) (by omega) ?_); intro j' t'))
local macro_rules | `(tactic| walk_at "call ref") => `(tactic| (k_here; k_dflt ((refine' text_ok  ?k1 ?k2 ?k3 ?k4 ?k5 ?kK ?kd ?ku ?_; (case k1 => k_asm); (case k2 => k_asm); (case k3 => k_asm); (case k4 => k_asm); (case k5 => k_asm); (case kK => first | exact rfl | assumption); (case kd => ktr_room); (case ku => ktr_units)); intro x' t' h' tk' hx' F' N')))
local macro_rules | `(tactic| k_mem) => `(tactic| first | assumption | exact List.mem_cons_self | (apply List.mem_cons_of_mem; k_mem))
local macro_rules | `(tactic| walk_at "CompEnd") => `(tactic| fail "by hand")
local macro_rules | `(tactic| walk_at "CompSrc") => `(tactic| refine Stop.out ?_)
local macro_rules | `(tactic| passes_own) => `(tactic| assumption)
set_option maxHeartbeats 4000000 in
theorem texts_ok {cS cT sl : Addr} {oS : Obj} {vs : List Value} {ns : List Int} {Q : Flow → Shared → Prop} 
  (hS : (cS, oS) ∈ news) (hSd : oS.data = .cell (some (.ref sl))) (hl : h₀.IsList sl vs.toArray) (hi : IntsAre vs ns) (hn : ¬ ((63 : Nat) : Int) < (ns.length : Int))
  (B : Below A₀ h₀ [] h₀) (X : (hd.heap_39 w.params).In h₀) (N : News h₀ L s.heap news) (T : Top p loose mean mg mb h₀) 
  (F : Fr h₀ L s.heap fun _ => none)
  (hdp : dp + 8 < recursionLimit) (hun : un + 80 < cLine)
  (ret : ∀ D ys ts h' tk', StrsAre ys ts → ts.length ≤ 8 → (∀ r ∈ ts, r.length ≤ 4) → LCg.Off1 D news → Fr h₀ L h' (fun y => if y = Str.ofString "texts" then some (.ref D) else none) → News h₀ L h' ((D, LCg.lst ys) :: news) → Q .next { s with heap := h', toks := tk' }) :
  wpAny (model PySem.Challenge.rw_te0073_01.row.prog w) (ktrTop dp un gd (Str.ofString "law") lawScope L a ccd [(Str.ofString "text", cT), (Str.ofString "script", cS)] []) (exec (lawSt 0) (envX (Str.ofString "law") lawScope L a ccd [(Str.ofString "text", cT), (Str.ofString "script", cS)])) Q E s := by
  with_unfolding_all (conv in lawSt 0 => whnf)
  repeat' (first | (k_unfold; (try dsimp only)) | walk1 | (dsimp only; walk1) | (leave1; try dsimp only) | fail "no step")
  refine Stop.go ?_
  rename IsRange _ _ _ _ _ _ _ _ => hR
  rename Fr _ _ _ _ => F₁
  rename News _ _ _ _ => N₁
  obtain ⟨n, h8, hns, e⟩ : ∃ n : Nat, n ≤ 8 ∧ n ≤ ns.length ∧ (if (ns.length : Int) < 8 then (ns.length : Int) else 8) = (n : Int) := by
    by_cases h : (ns.length : Int) < 8
    · exact ⟨ns.length, by omega, by omega, by rw [if_pos h]⟩
    · exact ⟨8, by omega, by omega, by rw [if_neg h]; rfl⟩
  rw [e] at hR
  refine LCg.CompSrc.range (n := n) rfl F₁ N₁ hR (small_one (by omega) (by omega) (by omega) (by omega)) (by rw [rangeSize_nat]; omega) (by have := PySem.sizeLine_eq; omega) fun g => ?_
  refine comp_strs (fun r => r.length ≤ 4) (fun i v I oI C oC D m₂ ys h tk' E' hin hv hC hx F₂ N₂ off ne => ?_) (fun ys ts hys hts hr => ?_)
  · obtain ⟨t, rfl⟩ := hv
    clear F₁ N₁ hR
    repeat' (first | (k_unfold; (try dsimp only)) | walk1 | (dsimp only; walk1) | (leave1; try dsimp only) | fail "no step")
    exact LCg.CompEnd.intro (by assumption) (by assumption) news (fun p hp => hp) off trivial ⟨rfl, _, _, rfl, by assumption⟩
  · intro D h' tk' F₂ N₂ off
    exact ret D ys ts h' tk' hys (by omega) hr off F₂ N₂
end
end partC16
section partC17
section
variable {w : World} {dp un : Nat} {gd : Option (List Code)} {cn : Str} {cs : Scope} {a : Addr} {ccd : Value} {cl : List (Str × Addr)} {outer : List Env} {A₀ : Around} {base h₀ : Heap} {L : Addr} {m : Str → Option Value} {p : Program} {loose : List Str} {mean : ExcName → Option Value} {mg mb : Str → Option Value} {news : List (Addr × Obj)} {s : Shared} {Q E : Value → Shared → Prop}
local macro_rules | `(tactic| walk_at "call ref") => `(tactic| (k_here; (with_reducible show wpAny _ _ (call (Value.ref _) _ _) _ _ _); refine wpAny_call ?_; k_dflt (refine' code_def ?k1 ?k2 ?k3 ?k4 ?k5 ?kA ?kF ?kK ?k6 ?k7 ?k8 ?k9 ?kB ?_ ?c2 ?c3 ?c4 ?c5; (case kA => exact rfl); (case kF => exact rfl); (case kK => first | exact rfl | assumption); (case k1 => k_asm); (case k2 => k_asm); (case k3 => k_asm); (case k4 => k_asm); (case k5 => k_asm); (case k6 => k_is); (case k7 => k_is); (case k8 => ktr_room); (case k9 => first | exact BindsTo.of_eq rfl | exact binds_K (by k_in) rfl (by k_is) rfl rfl rfl); (case c5 => decide); (case kB => exact locs rfl); (case c2 => exact rfl); (case c3 => exact rfl); (case c4 => exact rfl); k_whole; intro g' L' h' FG' F' N' B' X' T'; (try dsimp only); (try k_lift B'); (try k_fold))))
set_option maxHeartbeats 4000000 in
theorem values_ok 
  (B : Below A₀ base outer h₀) (F : Fr h₀ L s.heap m) (X : (hd.heap_39 w.params).In h₀) (N : News h₀ L s.heap news) (T : Top p loose mean mg mb h₀) (hk : cs.kind = .function) (hdp : dp + 8 < recursionLimit) (hun : un + 80 < cLine)
  (ret : ∀ V vs n h' tk', vs.length = 4 → Fr h₀ L h' m → News h₀ L h' ((V, listOf (List.toArray vs) n) :: news) → (∀ p ∈ news, @LT.lt Nat _ p.1 V) → Q (.ref V) { s with heap := h', toks := tk' }) :
  wpAny (model PySem.Challenge.rw_te0073_01.row.prog w) (ktrTop dp un gd cn cs L a ccd cl outer) (call (.ref 86) []) Q E s := by
  refine wpAny_call ?_
  k_dflt (refine' code_def ?k1 ?k2 ?k3 ?k4 ?k5 ?kA ?kF ?kK ?k6 ?k7 ?k8 ?k9 ?kB ?_ ?c2 ?c3 ?c4 ?c5; (case kA => exact rfl); (case kF => exact rfl); (case kK => assumption); (case k1 => k_asm); (case k2 => k_asm); (case k3 => k_asm); (case k4 => k_asm); (case k5 => k_asm); (case k6 => k_is); (case k7 => k_is); (case k8 => ktr_room); (case k9 => first | exact BindsTo.of_eq rfl | exact binds_K (by k_in) rfl (by k_is) rfl rfl rfl); (case c5 => decide); (case kB => exact locs rfl); (case c2 => exact rfl); (case c3 => exact rfl); (case c4 => exact rfl); k_whole; intro g' L' h' FG' F' N' B' X' T'; (try dsimp only); (try k_lift B'); (try k_fold))
  repeat' (first | (k_unfold; (try dsimp only)) | walk1 | (dsimp only; walk1) | (leave1; try dsimp only) | fail "no step")
  exact ret _ [_, _, _, _] _ _ _ rfl (by assumption) (by assumption) (by assumption)
end
section
variable {w : World} {dp un : Nat} {gd : Option (List Code)} {cn : Str} {cs : Scope} {a : Addr} {ccd : Value} {cl : List (Str × Addr)} {outer : List Env} {A₀ : Around} {base h₀ : Heap} {L : Addr} {m : Str → Option Value} {p : Program} {loose : List Str} {mean : ExcName → Option Value} {mg mb : Str → Option Value} {news : List (Addr × Obj)} {s : Shared} {Q E : Value → Shared → Prop}
local macro_rules | `(tactic| passes_own) => `(tactic| assumption)
set_option maxHeartbeats 4000000 in
theorem book0_ok {m : Str → Option Value} {Q : Flow → Shared → Prop} 
  (B : Below A₀ h₀ [] h₀) (X : (hd.heap_39 w.params).In h₀) (N : News h₀ L s.heap news) (T : Top p loose mean mg mb h₀) 
  (F : Fr h₀ L s.heap m)
  (hdp : dp + 8 < recursionLimit) (hun : un + 80 < cLine)
  (ret : ∀ bk ob h' tk', ob.IsDictOf (PySem.strKind PySem.Challenge.rw_te0073_01.row.prog w) [] → (bk == sysModules) = false → (∀ p ∈ news, @LT.lt Nat _ p.1 bk) → Fr h₀ L h' (fun y => if y = Str.ofString "book" then some (.ref bk) else m y) → News h₀ L h' ((bk, ob) :: news) → Q .next { s with heap := h', toks := tk' }) :
  wpAny (model PySem.Challenge.rw_te0073_01.row.prog w) (ktrTop dp un gd (Str.ofString "law") lawScope L a ccd cl []) (exec (lawSt 1) (envX (Str.ofString "law") lawScope L a ccd cl)) Q E s := by
  with_unfolding_all (conv in lawSt 1 => whnf)
  repeat' (first | (k_unfold; (try dsimp only)) | walk1 | (dsimp only; walk1) | (leave1; try dsimp only) | fail "no step")
  exact ret _ _ _ _ (by assumption) (by assumption) (by assumption) (by assumption) (by assumption)
end
end partC17
section partC18
local macro_rules | `(tactic| walk_at "idle pad") => `(tactic| fail "idle")
local macro_rules | `(tactic| walk_at "idle pad") => `(tactic| fail "idle")
local macro_rules | `(tactic| walk_at "idle pad") => `(tactic| fail "idle")
local macro_rules | `(tactic| walk_at "idle pad") => `(tactic| fail "idle")
local macro_rules | `(tactic| walk_at "idle pad") => `(tactic| fail "idle")
local macro_rules | `(tactic| walk_at "idle pad") => `(tactic| fail "idle")
local macro_rules | `(tactic| walk_at "idle pad") => `(tactic| fail "idle")
local macro_rules | `(tactic| walk_at "idle pad") => `(tactic| fail "idle")
local macro_rules | `(tactic| walk_at "idle pad") => `(tactic| fail "idle")
local macro_rules | `(tactic| walk_at "idle pad") => `(tactic| fail "idle")
local macro_rules | `(tactic| walk_at "idle pad") => `(tactic| fail "idle")
local macro_rules | `(tactic| walk_at "idle pad") => `(tactic| fail "idle")
theorem stored_mem {kvs : List (Str × Value)} {k : Str} {v : Value} {q : Str} (h : q ∈ (stored kvs k v).map (·.1)) : q ∈ kvs.map (·.1) ∨ q = k := by
  unfold stored at h
  split at h
  · rw [List.map_map] at h
    obtain ⟨p, hp, rfl⟩ := List.mem_map.mp h
    by_cases e : p.1 = k
    · exact .inr (by simp [e])
    · exact .inl (List.mem_map.mpr ⟨p, hp, by simp [e]⟩)
  · simp at h
    rcases h with ⟨a, h⟩ | h
    · exact .inl (List.mem_map.mpr ⟨_, h, rfl⟩)
    · exact .inr h
section
variable {w : World} {dp un : Nat} {gd : Option (List Code)} {cn : Str} {cs : Scope} {a : Addr} {ccd : Value} {cl : List (Str × Addr)} {outer : List Env} {A₀ : Around} {base h₀ : Heap} {L : Addr} {m : Str → Option Value} {p : Program} {loose : List Str} {mean : ExcName → Option Value} {mg mb : Str → Option Value} {news : List (Addr × Obj)} {s : Shared} {Q E : Value → Shared → Prop}
local macro_rules | `(tactic| walk_at "exec For Name Name cons nil") => `(tactic| (k_here; (rename Fr _ _ _ _ => lF'); (with_unfolding_all refine' For_invVF lF' ?k1 ?k2 ?_; (case k1 => exact rfl); (case k2 => exact rfl))))
local macro_rules | `(tactic| walk_at "exec For Name Call cons nil") => `(tactic| (k_here; (rename Fr _ _ _ _ => lF'); (with_unfolding_all refine' For_invVF lF' ?k1 ?k2 ?_; (case k1 => exact rfl); (case k2 => exact rfl))))
local macro_rules | `(tactic| walk_at "pyIter ref") => `(tactic| refine Stop.out (P := wpAny _ _ _ _ _ _) ?_)
local macro_rules | `(tactic| passes_own) => `(tactic| assumption)
local macro_rules | `(tactic| k_mem) => `(tactic| first | assumption | exact List.mem_cons_self | (apply List.mem_cons_of_mem; k_mem))
local macro_rules | `(tactic| walk_at "call builtin:len") => `(tactic| (k_here; k_dflt (refine len_news (by assumption) (by k_mem) (by assumption) (by omega) ?_)))
local macro_rules | `(tactic| walk_at "call ref") => `(tactic| (k_here; k_dflt ((refine' values_ok  ?k1 ?k2 ?k3 ?k4 ?k5 ?kK ?kd ?ku ?_; (case k1 => k_asm); (case k2 => k_asm); (case k3 => k_asm); (case k4 => k_asm); (case k5 => k_asm); (case kK => first | exact rfl | assumption); (case kd => ktr_room); (case ku => ktr_units)); intro V' vs' n' h' tk' hV' F' N' l1)))
local macro_rules | `(tactic| walk_at "subscriptTail Name BinOp ref int") => `(tactic| refine Stop.out (P := wpAny _ _ _ _ _ _) ?_)
local macro_rules | `(tactic| walk_at "subscriptTail Name Name ref int") => `(tactic| refine Stop.out (P := wpAny _ _ _ _ _ _) ?_)
local macro_rules | `(tactic| walk_at "setItem ref str") => `(tactic| refine Stop.out (P := wpAny _ _ _ _ _ _) ?_)
set_option maxHeartbeats 4000000 in
theorem fill_ok {D bk : Addr} {ob : Obj} {ys : List Value} {ts : List Str} {u : Option Value} {Q : Flow → Shared → Prop} (hD : (D, LCg.lst ys) ∈ news) (hS : StrsAre ys ts) (h8 : ts.length ≤ 8) (h4 : ∀ r ∈ ts, r.length ≤ 4) 
  (ho : ob.IsDictOf (PySem.strKind PySem.Challenge.rw_te0073_01.row.prog w) []) (hlt : ∀ p ∈ news, @LT.lt Nat _ p.1 bk)
  (B : Below A₀ h₀ [] h₀) (X : (hd.heap_39 w.params).In h₀) (N : News h₀ L s.heap ((bk, ob) :: news)) (T : Top p loose mean mg mb h₀) 
  (F : Fr h₀ L s.heap fun y => if y = Str.ofString "k" then u else if y = Str.ofString "book" then some (.ref bk) else if y = Str.ofString "texts" then some (.ref D) else none)
  (hE : PassesOwn (model PySem.Challenge.rw_te0073_01.row.prog w) (ktrTop dp un gd (Str.ofString "law") lawScope L a ccd cl []) (envX (Str.ofString "law") lawScope L a ccd cl) E) (hdp : dp + 8 < recursionLimit) (hun : un + 80 < cLine)
  (ret : ∀ ob kvs u h' tk', ob.IsDictOf (PySem.strKind PySem.Challenge.rw_te0073_01.row.prog w) kvs → kvs.length ≤ 8 → (∀ r ∈ kvs.map (·.1), r.length ≤ 4) → Fr h₀ L h' (fun y => if y = Str.ofString "k" then u else if y = Str.ofString "book" then some (.ref bk) else if y = Str.ofString "texts" then some (.ref D) else none) → News h₀ L h' ((bk, ob) :: news) → Q .next { s with heap := h', toks := tk' }) :
  wpAny (model PySem.Challenge.rw_te0073_01.row.prog w) (ktrTop dp un gd (Str.ofString "law") lawScope L a ccd cl []) (exec (lawSt 2) (envX (Str.ofString "law") lawScope L a ccd cl)) Q E s := by
  with_unfolding_all (conv in lawSt 2 => whnf)
  have hD' : (D, listOf ys.toArray ys.length) ∈ news := hD
  repeat' (first | (k_unfold; (try dsimp only)) | walk1 | (dsimp only; walk1) | (leave1; try dsimp only) | fail "no step")
  refine Stop.go ?_
  rename IsRange _ _ _ _ _ _ _ _ => hR
  rename Fr _ _ _ _ => F₁
  rename News _ _ _ _ => N₁
  refine kpr_invN (n := ts.length) (fun i m₁ nx => ∃ ob kvs u, nx = (bk, ob) :: news ∧ ob.IsDictOf (PySem.strKind PySem.Challenge.rw_te0073_01.row.prog w) kvs ∧ kvs.length ≤ i ∧ (∀ r ∈ kvs.map (·.1), r.length ≤ 4) ∧ m₁ = fun y => if y = Str.ofString "k" then u else if y = Str.ofString "book" then some (.ref bk) else if y = Str.ofString "texts" then some (.ref D) else none)
    rfl hR (small_one (by omega) (by omega) (by omega) (by omega)) (by rw [rangeSize_nat]; omega) F₁ N₁ ⟨ob, [], _, rfl, ho, Nat.le_refl _, (fun r hr => nomatch hr), rfl⟩ ?turn ?done
  case turn =>
    rintro i k t m₁ nx h₁ tk₁ own hk hoff ⟨ob₁, kvs, u₁, rfl, ho₁, hl₁, h4₁, rfl⟩ F₂ N₂
    clear F₁ N₁ hR
    have hk' := mem_rangeKs (List.mem_of_getElem? hk)
    have hii : i < ts.length := by
      have := (List.getElem?_eq_some_iff.mp hk).1
      rwa [rangeKs_length] at this
    have hD₂ : (D, listOf ys.toArray ys.length) ∈ news ++ own := List.mem_append_left _ hD
    rw [List.cons_append] at N₂
    repeat' (first | (k_unfold; (try dsimp only)) | walk1 | (dsimp only; walk1) | (leave1; try dsimp only) | fail "no step")
    · rename _ = 4 => hV
      rename News _ _ _ _ => N₃
      rename Fr _ _ _ _ => F₃
      rename (∀ p ∈ (bk, ob₁) :: (news ++ own), _) => lV
      refine Stop.go ?_
      have hdiv : 0 ≤ Int.fdiv k 2 ∧ Int.fdiv k 2 < 4 := by
        rw [Int.fdiv_eq_ediv_of_nonneg _ (by omega)]; omega
      generalize Int.fdiv k 2 = q at *
      refine item_listR (News.isList N₃ List.mem_cons_self) hdiv.1 (by omega) (x := _) (by rw [List.getElem?_toArray]; exact List.getElem?_eq_getElem (by omega)) ?_
      repeat' (first | (k_unfold; (try dsimp only)) | walk1 | (dsimp only; walk1) | (leave1; try dsimp only) | fail "no step")
      refine Stop.go ?_
      refine item_news (k := k) N₃ (List.mem_cons_of_mem _ (List.mem_cons_of_mem _ hD₂)) hS (by omega) (by omega) (by omega) fun t' x' hx' => ?_
      repeat' (first | (k_unfold; (try dsimp only)) | walk1 | (dsimp only; walk1) | (leave1; try dsimp only) | fail "no step")
      refine Stop.go ?_
      have hoff' : ∀ p ∈ news ++ own, p.1 ≠ bk := fun p hp => by
        rcases List.mem_append.mp hp with hp | hp
        · exact Nat.ne_of_lt (hlt p hp)
        · exact hoff p hp bk (by simp)
      have hVb := Nat.ne_of_gt (lV (bk, ob₁) List.mem_cons_self)
      refine kda_set (knd := PySem.strKind _ _) F₃ N₃ (.tail hVb (.head hoff')) ho₁ (strKind_is _ _ _ _) (by have := PySem.sizeLine_eq; omega) fun h' o' F₄ N₄ hd' => ?_
      repeat' (first | (k_unfold; (try dsimp only)) | walk1 | (dsimp only; walk1) | (leave1; try dsimp only) | fail "no step")
      refine InvEndN.intro (fr_eq F₄ ((fun y => if h1 : y = Str.ofString "k" then (by subst h1; rfl) else if h2 : y = Str.ofString "book" then (by subst h2; rfl) else if h3 : y = Str.ofString "texts" then (by subst h3; rfl) else (by simp [h1, beq_false_of_ne h1, h2, beq_false_of_ne h2, h3, beq_false_of_ne h3, List.lookup])))) N₄ ⟨o', _, _, rfl, hd', Nat.le_trans (stored_length_le _ _ _) (by omega), ?_, rfl⟩ rfl ?_ ?_
      · intro r hr
        rcases stored_mem hr with hr | rfl
        · exact h4₁ r hr
        · exact h4 _ (List.mem_of_getElem? hx')
      · intro p hp
        rcases List.mem_cons.mp hp with rfl | hp
        · exact List.mem_cons_of_mem _ List.mem_cons_self
        · exact List.mem_cons_of_mem _ (List.mem_cons_of_mem _ (List.mem_append_left _ hp))
      · intro p hp
        exact List.mem_cons_of_mem _ (List.mem_cons_of_mem _ (List.mem_append_right _ hp))
    · refine InvEndN.intro (fr_eq F₂ ((fun y => if h1 : y = Str.ofString "k" then (by subst h1; rfl) else if h2 : y = Str.ofString "book" then (by subst h2; rfl) else if h3 : y = Str.ofString "texts" then (by subst h3; rfl) else (by simp [h1, beq_false_of_ne h1, h2, beq_false_of_ne h2, h3, beq_false_of_ne h3, List.lookup])))) N₂ ⟨ob₁, kvs, _, rfl, ho₁, by omega, h4₁, rfl⟩ rfl ?_ ?_
      · intro p hp
        rcases List.mem_cons.mp hp with rfl | hp
        · exact List.mem_cons_self
        · exact List.mem_cons_of_mem _ (List.mem_append_left _ hp)
      · intro p hp
        exact List.mem_cons_of_mem _ (List.mem_append_right _ hp)
  case done =>
    rintro m₁ nx h₁ tk₁ ⟨ob₁, kvs, u₁, rfl, ho₁, hl₁, h4₁, rfl⟩ F₂ N₂
    rw [rangeKs_length] at hl₁
    exact ret _ _ _ _ _ ho₁ (by omega) h4₁ F₂ N₂
end
end partC18
section partC19
local macro_rules | `(tactic| walk_at "idle pad") => `(tactic| fail "idle")
local macro_rules | `(tactic| walk_at "idle pad") => `(tactic| fail "idle")
local macro_rules | `(tactic| walk_at "idle pad") => `(tactic| fail "idle")
local macro_rules | `(tactic| walk_at "idle pad") => `(tactic| fail "idle")
local macro_rules | `(tactic| walk_at "idle pad") => `(tactic| fail "idle")
local macro_rules | `(tactic| walk_at "idle pad") => `(tactic| fail "idle")
local macro_rules | `(tactic| walk_at "idle pad") => `(tactic| fail "idle")
local macro_rules | `(tactic| walk_at "idle pad") => `(tactic| fail "idle")
local macro_rules | `(tactic| walk_at "idle pad") => `(tactic| fail "idle")
local macro_rules | `(tactic| walk_at "idle pad") => `(tactic| fail "idle")
local macro_rules | `(tactic| walk_at "idle pad") => `(tactic| fail "idle")
local macro_rules | `(tactic| walk_at "idle pad") => `(tactic| fail "idle")
local macro_rules | `(tactic| walk_at "idle pad") => `(tactic| fail "idle")
local macro_rules | `(tactic| walk_at "idle pad") => `(tactic| fail "idle")
local macro_rules | `(tactic| walk_at "idle pad") => `(tactic| fail "idle")
local macro_rules | `(tactic| walk_at "idle pad") => `(tactic| fail "idle")
local macro_rules | `(tactic| walk_at "idle pad") => `(tactic| fail "idle")
local macro_rules | `(tactic| walk_at "idle pad") => `(tactic| fail "idle")
local macro_rules | `(tactic| walk_at "idle pad") => `(tactic| fail "idle")
local macro_rules | `(tactic| walk_at "idle pad") => `(tactic| fail "idle")
local macro_rules | `(tactic| walk_at "idle pad") => `(tactic| fail "idle")
local macro_rules | `(tactic| walk_at "idle pad") => `(tactic| fail "idle")
local macro_rules | `(tactic| walk_at "idle pad") => `(tactic| fail "idle")
local macro_rules | `(tactic| walk_at "idle pad") => `(tactic| fail "idle")
section
variable {w : World} {dp un : Nat} {gd : Option (List Code)} {cn : Str} {cs : Scope} {a : Addr} {ccd : Value} {cl : List (Str × Addr)} {outer : List Env} {A₀ : Around} {base h₀ : Heap} {L : Addr} {m : Str → Option Value} {p : Program} {loose : List Str} {mean : ExcName → Option Value} {mg mb : Str → Option Value} {news : List (Addr × Obj)} {s : Shared} {Q E : Value → Shared → Prop}
local macro_rules | `(tactic| passes_own) => `(tactic| assumption)
local macro_rules | `(tactic| k_mem) => `(tactic| first | assumption | exact List.mem_cons_self | (apply List.mem_cons_of_mem; k_mem))
local macro_rules | `(tactic| walk_at "call ref") => `(tactic| refine Stop.out (P := wpAny _ _ _ _ _ _) ?_)
set_option maxHeartbeats 4000000 in
theorem make_ok {D bk : Addr} {ob : Obj} {kvs : List (Str × Value)} {u : Option Value} {Q : Flow → Shared → Prop} 
  (hbk : (bk, ob) ∈ news) (ho : ob.IsDictOf (PySem.strKind PySem.Challenge.rw_te0073_01.row.prog w) kvs) (hlo : (bk == sysModules) = false) (h8 : kvs.length ≤ 8) (h4 : ∀ r ∈ kvs.map (·.1), r.length ≤ 4)
  (B : Below A₀ h₀ [] h₀) (X : (hd.heap_39 w.params).In h₀) (N : News h₀ L s.heap news) (T : Top p loose mean mg mb h₀) 
  (F : Fr h₀ L s.heap fun y => if y = Str.ofString "k" then u else if y = Str.ofString "book" then some (.ref bk) else if y = Str.ofString "texts" then some (.ref D) else none)
  (hdp : dp + 8 < recursionLimit) (hun : un + 80 < cLine)
  (ret : ∀ x own h' tk', (∀ p ∈ own, ∀ q ∈ news, @LT.lt Nat _ q.1 p.1) → TI w (own ++ [(bk, ob)]) x bk kvs → Fr h₀ L h' (fun y => if y = Str.ofString "k" then u else if y = Str.ofString "trie" then some (.ref x) else if y = Str.ofString "book" then some (.ref bk) else if y = Str.ofString "texts" then some (.ref D) else none) → News h₀ L h' (own ++ news) → Q .next { s with heap := h', toks := tk' }) :
  wpAny (model PySem.Challenge.rw_te0073_01.row.prog w) (ktrTop dp un gd (Str.ofString "law") lawScope L a ccd cl []) (exec (lawSt 3) (envX (Str.ofString "law") lawScope L a ccd cl)) Q E s := by
  with_unfolding_all (conv in lawSt 3 => whnf)
  repeat' (first | (k_unfold; (try dsimp only)) | walk1 | (dsimp only; walk1) | (leave1; try dsimp only) | fail "no step")
  refine Stop.go ?_
  refine trie_ok hbk ho hlo (by omega) B F X N T (by rfl) hdp hun ?_
  intro x dx kv ka tp t1 t2 t3 t4 t5 ta tb vs ks n nt h' tk' c1 c2 c3 ⟨c4, c5, c6, c7, c8⟩ F' N'
  repeat' (first | (k_unfold; (try dsimp only)) | walk1 | (dsimp only; walk1) | (leave1; try dsimp only) | fail "no step")
  rename Fr _ _ _ _ => F₁
  rename News _ _ _ _ => N₁
  refine ret x [_, _, _, _, _] _ _ ?_ ?_ (fr_eq F₁ ((fun y => if h1 : y = Str.ofString "k" then (by subst h1; rfl) else if h2 : y = Str.ofString "trie" then (by subst h2; rfl) else if h3 : y = Str.ofString "book" then (by subst h3; rfl) else if h4 : y = Str.ofString "texts" then (by subst h4; rfl) else (by simp [h1, beq_false_of_ne h1, h2, beq_false_of_ne h2, h3, beq_false_of_ne h3, h4, beq_false_of_ne h4, List.lookup])))) N₁
  · intro p hp q hq
    have hq' : @LT.lt Nat _ q.1 dx := tb_ltOf c4 q hq
    simp only [List.mem_cons, List.not_mem_nil, or_false] at hp
    rcases hp with rfl | rfl | rfl | rfl | rfl <;> (dsimp only; omega)
  · exact ⟨dx, ka, tp, t1, t2, t3, t4, t5, ta, tb, ob, vs, ks, n, nt, by k_mem, by k_mem, List.mem_append_right _ List.mem_cons_self, ho, hlo, by k_mem, c1, c2, by k_mem, c3, by omega, fun k hk => Nat.le_trans (h4 k hk) (by omega)⟩
set_option maxHeartbeats 4000000 in
theorem asks_ok {D bk x : Addr} {u : Option Value} {Q : Flow → Shared → Prop} 
  (B : Below A₀ h₀ [] h₀) (X : (hd.heap_39 w.params).In h₀) (N : News h₀ L s.heap news) (T : Top p loose mean mg mb h₀) 
  (F : Fr h₀ L s.heap fun y => if y = Str.ofString "k" then u else if y = Str.ofString "trie" then some (.ref x) else if y = Str.ofString "book" then some (.ref bk) else if y = Str.ofString "texts" then some (.ref D) else none)
  (hdp : dp + 8 < recursionLimit) (hun : un + 80 < cLine)
  (ret : ∀ ak vs ss n h' tk', StrsAre vs ss → ss.length = 2 → (∀ q ∈ ss, q.length ≤ 5) → (∀ q ∈ news, @LT.lt Nat _ q.1 ak) → Fr h₀ L h' (fun y => if y = Str.ofString "asks" then some (.ref ak) else if y = Str.ofString "k" then u else if y = Str.ofString "trie" then some (.ref x) else if y = Str.ofString "book" then some (.ref bk) else if y = Str.ofString "texts" then some (.ref D) else none) → News h₀ L h' ((ak, listOf (List.toArray vs) n) :: news) → Q .next { s with heap := h', toks := tk' }) :
  wpAny (model PySem.Challenge.rw_te0073_01.row.prog w) (ktrTop dp un gd (Str.ofString "law") lawScope L a ccd cl []) (exec (lawSt 4) (envX (Str.ofString "law") lawScope L a ccd cl)) Q E s := by
  with_unfolding_all (conv in lawSt 4 => whnf)
  repeat' (first | (k_unfold; (try dsimp only)) | walk1 | (dsimp only; walk1) | (leave1; try dsimp only) | fail "no step")
  exact ret _ [_, _] [Str.ofString "", Str.ofString "a"] _ _ _ (.cons _ _ (.cons _ _ .nil)) rfl (by decide) (by assumption) (by assumption) (by assumption)
end
end partC19
section partL6
section
variable {prog : Program} {w : World} {A : Around} {E : Value → Shared → Prop} {s : Shared} {h₀ : Heap} {L : Addr} {m : Str → Option Value} {news : List (Addr × Obj)}
theorem iadd_news {l b : Addr} {xs ys : List Value} {n k : Nat} {g : Obj → List (Addr × Obj)} {Q : Value → Shared → Prop} (F : Fr h₀ L s.heap m) (N : News h₀ L s.heap news) (U : UpdF l (listOf xs.toArray n) news g) (hb : (b, listOf ys.toArray k) ∈ news)
    (hsz : xs.length + ys.length ≤ 1000)
    (h : ∀ h' e, Fr h₀ L h' m → News h₀ L h' (g (listOf (xs ++ ys).toArray e)) → Q (.ref l) { s with heap := h' }) : wpAny (model prog w) A (inplaceOp .Add (.ref l) (.ref b)) Q E s := by
  have hl9 := PySem.sizeLine_eq
  obtain ⟨pre, post, rfl, hg, a, c⟩ := U.split
  have hm := N (l, listOf xs.toArray n) (List.mem_append_right _ (.head _))
  have hB := N _ hb
  have ha' : s.TypeIs (.ref l) "list" := ⟨_, hm.1, rfl⟩
  have hb' : s.TypeIs (.ref b) "list" := ⟨_, hB.1, rfl⟩
  unfold inplaceOp
  refine wpAny_holding ?_
  have hfi : fillsInplaceSlot (.type "list") "add" (Operator.Add == .Add) = pure false := by
    unfold fillsInplaceSlot
    show (typeLookup (.type "list") (dunderI "add") >>= fun fi => pure (fi.isSome && !isSeqSlot fi)) = pure false
    rw [PySem.F.slot_list_iadd.lookup, pure_bind]
    rw [show isSeqSlot (some (.builtin "list.__iadd__")) = true by decide +kernel]; rfl
  refine wpAny_bind (wpAny_typeOf ha' (wpAny_bind (wpAny_of_eq hfi ?_)))
  show wpAny _ A (if false = true then _ else _) Q E s
  rw [if_neg Bool.false_ne_true]
  refine wpAny_bind (wpAny_binaryOp1_none (nm := "add") ha' hb' PySem.noFill_list_add ?_)
  refine wpAny_bind (wpAny_of_eq (PySem.seqSlot_of PySem.F.slot_list_iadd.lookup (by decide +kernel)) ?_)
  refine wpAny_bind (wpAny_rule ?_)
  refine call_meets PySem.F.slot_list_iadd ha' PySem.F.entry_list_iadd (PySem.F.args_list_iadd_2 _ _) (PySem.AutoSeq1.list___iadd___list_list_0 l xs.toArray n b ys.toArray k ?_ ?_ ?_) ⟨hm.1, hB.1, ?_⟩
  · intro z
    rw [Bool.and_eq_true] at z
    have z2 : xs.toArray.size + ys.toArray.size > sizeLine := of_decide_eq_true z.2
    simp at z2; omega
  · simp; omega
  · simp; omega
  · have hs := Heap.SameBut.update s.heap l (Obj.mapSeq fun x => x ++ ys.toArray)
    have e0 := get?_update_seq (h := s.heap) (a := l) (c := "list") (xs := xs.toArray) (n := n) hm.1 (fun x => x ++ ys.toArray)
    have e1 : xs.toArray ++ ys.toArray = (xs ++ ys).toArray := by simp
    rw [e1] at e0
    exact h _ _ (F.change hs hm.2.1 hm.2.2) (hg _ ▸ N.setIn a c hs e0)
theorem add_news {l b : Addr} {xs ys : List Value} {n k : Nat} {Q : Value → Shared → Prop} (F : Fr h₀ L s.heap m) (N : News h₀ L s.heap news) (hl : (l, listOf xs.toArray n) ∈ news) (hb : (b, listOf ys.toArray k) ∈ news)
    (hsz : xs.length + ys.length ≤ 1000)
    (h : ∀ D h', Fr h₀ L h' m → News h₀ L h' ((D, listOf (xs ++ ys).toArray 0) :: news) → (∀ p ∈ news, @LT.lt Nat _ p.1 D) → Q (.ref D) { s with heap := h' }) : wpAny (model prog w) A (binaryOp .Add (.ref l) (.ref b)) Q E s := by
  have hl9 := PySem.sizeLine_eq
  refine PySem.P.add_list (items := xs.toArray) (items2 := ys.toArray) (n := n) (n2 := k) (N _ hl).1 (N _ hb).1 ?_ (by simp; omega)
  have e1 : xs.toArray ++ ys.toArray = (xs ++ ys).toArray := by simp
  rw [e1]
  exact h _ _ (F.push _) (News.push F N _ rfl) (fun p hp => Heap.lt_size (N p hp).1)
end
section
variable {prog : Program} {w : World} {A : Around} {E : Value → Shared → Prop} {s : Shared} {env : Env} {h₀ : Heap} {target : Expr} {body : List Stmt} {Q : Flow → Shared → Prop}
theorem strs_at : ∀ {vs : List Value} {ss : List Str}, StrsAre vs ss → ∀ (i : Nat) (v : Value), vs[i]? = some v → ∃ q t, ss[i]? = some q ∧ v = .str q t
  | _, _, .nil, i, v, h => by simp at h
  | _, _, .cons y t r, 0, v, h => ⟨y, t, rfl, by simpa using h.symm⟩
  | _, _, .cons y t r, i + 1, v, h => strs_at r i v (by simpa using h)
def EndT (h₀ : Heap) (L : Addr) (own : List (Addr × Obj)) (J : (Str → Option Value) → List (Addr × Obj) → Prop) (s₁ : Shared) (f : Flow) (s₂ : Shared) : Prop :=
  f = .next ∧ ∃ h' tk m' nx, s₂ = { s₁ with heap := h', toks := tk } ∧ Fr h₀ L h' m' ∧ News h₀ L h' (own ++ nx) ∧ J m' nx
theorem iter_strs_T {D : Addr} {vs : List Value} {ss : List Str} {k : Nat} {m₀ : Str → Option Value} {news : List (Addr × Obj)} (J : Nat → (Str → Option Value) → List (Addr × Obj) → Prop)
    (hh : A.handled = none) (hD : (D, listOf vs.toArray k) ∈ news) (hS : StrsAre vs ss) (F : Fr h₀ env.locals s.heap m₀) (N : News h₀ env.locals s.heap news) (hj : J 0 m₀ news) (hadr : ∀ i m nx, J i m nx → nx.map (·.1) = news.map (·.1))
    (hgo : ∀ I (s' : Shared) v (Q' : Unit → Shared → Prop), Q' () s' → wpAny (model prog w) A (letOwnedTupleGo target (.ref I) v) Q' E s')
    (turn : ∀ i q t m₁ nx (s₁ : Shared) own, ss[i]? = some q → (∀ p ∈ own, p.1 = D ∨ ∀ p' ∈ news, p'.1 ≠ p.1) → J i m₁ nx → Fr h₀ env.locals s₁.heap m₁ → News h₀ env.locals s₁.heap (own ++ nx) →
      wpAny (model prog w) A (assign target env (.str q t)) (fun _ s₃ => wpAny (model prog w) A (execs body env) (EndT h₀ env.locals own (J (i + 1)) s₁) E s₃) E s₁)
    (done : ∀ m₁ nx h tk, J ss.length m₁ nx → Fr h₀ env.locals h m₁ → News h₀ env.locals h nx → Q .next { s with heap := h, toks := tk }) :
    wpAny (model prog w) A (pyIter (.ref D)) (fun it s₂ => LoopAtT prog w A h₀ env target body Q E it s₂) E s := by
  have hls : s.heap.IsList D vs.toArray := News.isList N hD
  have hlt : D < s.heap.objs.size := Heap.lt_size (N _ hD).1
  have hne : D ≠ s.heap.objs.size := Nat.ne_of_lt hlt
  have hnews : ∀ p ∈ news, p.1 ≠ s.heap.objs.size := fun p hp => Nat.ne_of_lt (Heap.lt_size (N p hp).1)
  have hnx : ∀ nx : List (Addr × Obj), nx.map (·.1) = news.map (·.1) → ∀ p ∈ nx, p.1 ≠ s.heap.objs.size := fun nx e p hp => by
    have h1 : p.1 ∈ nx.map (·.1) := List.mem_map.mpr ⟨p, hp, rfl⟩
    rw [e] at h1
    obtain ⟨q, hq, e2⟩ := List.mem_map.mp h1
    rw [← e2]; exact hnews q hq
  refine wpAny_pyIter_list hls ?_
  have W := Walks.list (prog := prog) (w := w) hh s.heap.objs.size D hne vs.toArray
  have hlen : vs.toArray.size = ss.length := by simp [hS.length]
  rw [hlen] at W
  refine ⟨_, _, _, ss.length, _, _, m₀, news, J, rfl, W, ?_, ?_, ?_, ⟨⟨_, Heap.get?_push_size _ rfl, rfl, rfl⟩, hls.at fun o e => Heap.get?_push_of_some _ e⟩, F.push _, (fun p hp => ⟨Heap.get?_push_of_some _ (N p hp).1, (N p hp).2⟩), (fun i s' v Q' _ h => hgo _ s' v Q' h), hj, ?_, ?_⟩
  · intro hm
    rcases List.mem_cons.mp hm with e | hm
    · exact absurd F.ns.lt (e ▸ Nat.lt_irrefl _)
    · exact (N _ hD).2.1 (List.mem_singleton.mp hm).symm
  · intro b hb
    rw [List.mem_singleton.mp hb]
    exact next_is_new F
  · intro p hp hI
    exact hnews p hp (List.mem_singleton.mp hI)
  · rintro i v m₁ nx s₁ own hin hP hJ hoff hown _ _ _ F₁ N₁
    obtain ⟨q, t, hq, rfl⟩ := strs_at hS i v (by simpa using hP)
    have hsep : ∀ p ∈ own, p.1 = D ∨ ∀ p' ∈ news, p'.1 ≠ p.1 := by
      intro p hp
      rcases List.mem_cons.mp (hown p hp) with h1 | h1
      · exact .inr fun p' hp' => by rw [h1]; exact hnews p' hp'
      · exact .inl (List.mem_singleton.mp h1)
    refine wpAny_mono (turn i q t m₁ nx s₁ own hq hsep hJ F₁ N₁) (fun _ s₃ h₃ => wpAny_mono h₃ (fun f s₂ p => ?_) fun _ _ e => e) fun _ _ e => e
    obtain ⟨rfl, h', tk, m', nx', e, F', N', hJ'⟩ := p
    exact ⟨rfl, h', tk, m', nx', e, F', N', (fun p hp hq => hnx nx' (hadr _ _ _ hJ') p hp (List.mem_singleton.mp hq)), hJ'⟩
  · rintro h' tk m' nx F' N' _ hJ
    exact done m' nx h' tk hJ F' N'
end
end partL6
section partC20
local macro_rules | `(tactic| walk_at "idle pad") => `(tactic| fail "idle")
local macro_rules | `(tactic| walk_at "idle pad") => `(tactic| fail "idle")
local macro_rules | `(tactic| walk_at "idle pad") => `(tactic| fail "idle")
local macro_rules | `(tactic| walk_at "idle pad") => `(tactic| fail "idle")
local macro_rules | `(tactic| walk_at "idle pad") => `(tactic| fail "idle")
local macro_rules | `(tactic| walk_at "idle pad") => `(tactic| fail "idle")
local macro_rules | `(tactic| walk_at "idle pad") => `(tactic| fail "idle")
local macro_rules | `(tactic| walk_at "idle pad") => `(tactic| fail "idle")
local macro_rules | `(tactic| walk_at "idle pad") => `(tactic| fail "idle")
local macro_rules | `(tactic| walk_at "idle pad") => `(tactic| fail "idle")
local macro_rules | `(tactic| walk_at "idle pad") => `(tactic| fail "idle")
local macro_rules | `(tactic| walk_at "idle pad") => `(tactic| fail "idle")
local macro_rules | `(tactic| walk_at "idle pad") => `(tactic| fail "idle")
local macro_rules | `(tactic| walk_at "idle pad") => `(tactic| fail "idle")
local macro_rules | `(tactic| walk_at "idle pad") => `(tactic| fail "idle")
local macro_rules | `(tactic| walk_at "idle pad") => `(tactic| fail "idle")
local macro_rules | `(tactic| walk_at "idle pad") => `(tactic| fail "idle")
local macro_rules | `(tactic| walk_at "idle pad") => `(tactic| fail "idle")
local macro_rules | `(tactic| walk_at "idle pad") => `(tactic| fail "idle")
local macro_rules | `(tactic| walk_at "idle pad") => `(tactic| fail "idle")
local macro_rules | `(tactic| walk_at "idle pad") => `(tactic| fail "idle")
local macro_rules | `(tactic| walk_at "idle pad") => `(tactic| fail "idle")
local macro_rules | `(tactic| walk_at "idle pad") => `(tactic| fail "idle")
local macro_rules | `(tactic| walk_at "idle pad") => `(tactic| fail "idle")
local macro_rules | `(tactic| walk_at "idle pad") => `(tactic| fail "idle")
local macro_rules | `(tactic| walk_at "idle pad") => `(tactic| fail "idle")
local macro_rules | `(tactic| walk_at "idle pad") => `(tactic| fail "idle")
local macro_rules | `(tactic| walk_at "idle pad") => `(tactic| fail "idle")
local macro_rules | `(tactic| walk_at "idle pad") => `(tactic| fail "idle")
local macro_rules | `(tactic| walk_at "idle pad") => `(tactic| fail "idle")
local macro_rules | `(tactic| walk_at "idle pad") => `(tactic| fail "idle")
local macro_rules | `(tactic| walk_at "idle pad") => `(tactic| fail "idle")
local macro_rules | `(tactic| walk_at "idle pad") => `(tactic| fail "idle")
local macro_rules | `(tactic| walk_at "idle pad") => `(tactic| fail "idle")
local macro_rules | `(tactic| walk_at "idle pad") => `(tactic| fail "idle")
local macro_rules | `(tactic| walk_at "idle pad") => `(tactic| fail "idle")
section
variable {w : World} {dp un : Nat} {gd : Option (List Code)} {cn : Str} {cs : Scope} {a : Addr} {ccd : Value} {cl : List (Str × Addr)} {outer : List Env} {A₀ : Around} {base h₀ : Heap} {L : Addr} {m : Str → Option Value} {p : Program} {loose : List Str} {mean : ExcName → Option Value} {mg mb : Str → Option Value} {news : List (Addr × Obj)} {s : Shared} {Q E : Value → Shared → Prop}
local macro_rules | `(tactic| passes_own) => `(tactic| assumption)
local macro_rules | `(tactic| k_mem) => `(tactic| first | assumption | exact List.mem_cons_self | (apply List.mem_cons_of_mem; k_mem))
local macro_rules | `(tactic| walk_at "exec For Name Name cons nil") => `(tactic| (k_here; (rename Fr _ _ _ _ => lF'); (refine For_invTF lF' ?_ (fun _ => rfl))))
local macro_rules | `(tactic| walk_at "pyIter ref") => `(tactic| refine Stop.out (P := wpAny _ _ _ _ _ _) ?_)
local macro_rules | `(tactic| walk_at "CompSrc") => `(tactic| refine Stop.out ?_)
local macro_rules | `(tactic| walk_at "CompEnd") => `(tactic| fail "by hand")
local macro_rules | `(tactic| walk_at "storeName") => `(tactic| refine Stop.out (P := wpAny _ _ _ _ _ _) ?_)
local macro_rules | `(tactic| walk_at "binaryOp Add ref ref") => `(tactic| refine Stop.out (P := wpAny _ _ _ _ _ _) ?_)
local macro_rules | `(tactic| walk_at "inplaceOp Add ref ref") => `(tactic| refine Stop.out (P := wpAny _ _ _ _ _ _) ?_)
set_option maxHeartbeats 4000000 in
theorem grow_ok {cS cT D bk x ak : Addr} {oT : Obj} {vT : Option Value} {avs ys : List Value} {as ts : List Str} {n : Nat} {u : Option Value} {base : List (Addr × Obj)} {Q : Flow → Shared → Prop} 
  (hT : oT.data = .cell vT) (hA : StrsAre avs as) (h2 : as.length = 2) (h5 : ∀ q ∈ as, q.length ≤ 5) (hD : (D, LCg.lst ys) ∈ base) (hS : StrsAre ys ts) (h8 : ts.length ≤ 8) (h4 : ∀ r ∈ ts, r.length ≤ 4) 
  (d1 : @Ne Nat ak cT) (d2 : ∀ p ∈ base, @Ne Nat p.1 ak) (d3 : ∀ p ∈ base, @Ne Nat p.1 cT)
  (B : Below A₀ h₀ [] h₀) (X : (hd.heap_39 w.params).In h₀) (N : News h₀ L s.heap ((ak, listOf (List.toArray avs) n) :: (cT, oT) :: base)) (T : Top p loose mean mg mb h₀) 
  (F : Fr h₀ L s.heap fun y => if y = Str.ofString "asks" then some (.ref ak) else if y = Str.ofString "k" then u else if y = Str.ofString "trie" then some (.ref x) else if y = Str.ofString "book" then some (.ref bk) else if y = Str.ofString "texts" then some (.ref D) else none)
  (hE : PassesOwn (model PySem.Challenge.rw_te0073_01.row.prog w) (ktrTop dp un gd (Str.ofString "law") lawScope L a ccd [(Str.ofString "text", cT), (Str.ofString "script", cS)] []) (envX (Str.ofString "law") lawScope L a ccd [(Str.ofString "text", cT), (Str.ofString "script", cS)]) E) (hdp : dp + 8 < recursionLimit) (hun : un + 80 < cLine)
  (ret : ∀ avs as n h' tk', StrsAre avs as → as.length ≤ 60 → (∀ q ∈ as, q.length ≤ 5) → Fr h₀ L h' (fun y => if y = Str.ofString "asks" then some (.ref ak) else if y = Str.ofString "k" then u else if y = Str.ofString "trie" then some (.ref x) else if y = Str.ofString "book" then some (.ref bk) else if y = Str.ofString "texts" then some (.ref D) else none) → News h₀ L h' ((ak, listOf (List.toArray avs) n) :: base) → Q .next { s with heap := h', toks := tk' }) :
  wpAny (model PySem.Challenge.rw_te0073_01.row.prog w) (ktrTop dp un gd (Str.ofString "law") lawScope L a ccd [(Str.ofString "text", cT), (Str.ofString "script", cS)] []) (exec (lawSt 5) (envX (Str.ofString "law") lawScope L a ccd [(Str.ofString "text", cT), (Str.ofString "script", cS)])) Q E s := by
  with_unfolding_all (conv in lawSt 5 => whnf)
  have hD' : (D, listOf ys.toArray ys.length) ∈ base := hD
  repeat' (first | (k_unfold; (try dsimp only)) | walk1 | (dsimp only; walk1) | (leave1; try dsimp only) | fail "no step")
  refine Stop.go ?_
  rename Fr _ _ _ _ => F₁
  rename News _ _ _ _ => N₁
  refine iter_strs_T (fun i m₁ nx => ∃ vs ss n oT v₀, nx = (ak, listOf (List.toArray vs) n) :: (cT, oT) :: base ∧ oT.data = .cell v₀ ∧ StrsAre vs ss ∧ ss.length ≤ 2 + 6 * i ∧ (∀ q ∈ ss, q.length ≤ 5) ∧ m₁ = fun y => if y = Str.ofString "asks" then some (.ref ak) else if y = Str.ofString "k" then u else if y = Str.ofString "trie" then some (.ref x) else if y = Str.ofString "book" then some (.ref bk) else if y = Str.ofString "texts" then some (.ref D) else none)
    rfl (List.mem_cons_of_mem _ (List.mem_cons_of_mem _ hD')) hS F₁ N₁ ⟨avs, as, n, oT, vT, rfl, hT, hA, by omega, h5, rfl⟩ (by rintro i m nx ⟨_, _, _, _, _, rfl, _⟩; rfl) (fun I s' v Q' h => wpAny_pure h) ?turn ?done
  case turn =>
    rintro i q t m₁ nx s₁ own hq hsep ⟨vs, ss, n₁, oT₁, v₀, rfl, hT₁, hs₁, hl₁, h5₁, rfl⟩ F₂ N₂
    clear F₁ N₁
    have o1 : ∀ p ∈ base ++ own, @Ne Nat p.1 ak := fun p hp => by
      rcases List.mem_append.mp hp with hp | hp
      · exact d2 p hp
      · rcases hsep p hp with e | e
        · rw [e]; exact d2 _ hD
        · exact Ne.symm (e (ak, _) List.mem_cons_self)
    have o2 : ∀ p ∈ base ++ own, @Ne Nat p.1 cT := fun p hp => by
      rcases List.mem_append.mp hp with hp | hp
      · exact d3 p hp
      · rcases hsep p hp with e | e
        · rw [e]; exact d3 _ hD
        · exact Ne.symm (e (cT, _) (List.mem_cons_of_mem _ List.mem_cons_self))
    have hi8 : i < ts.length := (List.getElem?_eq_some_iff.mp hq).1
    have hq4 := h4 q (List.mem_of_getElem? hq)
    replace N₂ : News h₀ (envX (Str.ofString "law") lawScope L a ccd [(Str.ofString "text", cT), (Str.ofString "script", cS)]).locals s₁.heap ((ak, listOf (List.toArray vs) n₁) :: (cT, oT₁) :: (base ++ own)) := cb_drop N₂ (fun p hp => by
      simp only [List.mem_append, List.mem_cons] at hp ⊢; rcases hp with h | h | h | h <;> simp [h])
    repeat' (first | (k_unfold; (try dsimp only)) | walk1 | (dsimp only; walk1) | (leave1; try dsimp only) | fail "no step")
    refine Stop.go ?_
    refine storeX_C F₂ N₂ rfl (.tail d1 (.head o2)) hT₁ (fun h₃ oT₂ F₃ N₃ hT₂ => ?_) rfl rfl
    clear F₂ N₂ hT₁
    repeat' (first | (k_unfold; (try dsimp only)) | walk1 | (dsimp only; walk1) | (leave1; try dsimp only) | fail "no step")
    refine wpAny_loadName_local rfl rfl F₃.ns rfl ?_
    repeat' (first | (k_unfold; (try dsimp only)) | walk1 | (dsimp only; walk1) | (leave1; try dsimp only) | fail "no step")
    refine Stop.go ?_
    rename IsRange _ _ _ _ _ _ _ _ => hR
    rename Fr _ _ _ _ => F₁
    rename News _ _ _ _ => N₁
    refine LCg.CompSrc.range (n := q.length + 1) rfl F₁ N₁ hR (small_one (by omega) (by omega) (by omega) (by omega)) (by rw [rangeSize_nat]; omega) (by have := PySem.sizeLine_eq; omega) fun g => ?_
    refine comp_strs (fun r => r.length ≤ 4) (fun i v I oI C oC D m₂ ys h tk' E' hin hv hC hx F₂ N₂ off ne => ?_) (fun us rs hus hrs hr => ?_)
    · obtain ⟨t, rfl⟩ := hv
      clear F₁ N₁ hR
      repeat' (first | (k_unfold; (try dsimp only)) | walk1 | (dsimp only; walk1) | (leave1; try dsimp only) | fail "no step")
      rename Str.length (Txt.slice _ _ _) ≤ _ => hsl
      exact LCg.CompEnd.intro (by assumption) (by assumption) _ (fun p hp => hp) off trivial ⟨rfl, _, _, rfl, by omega⟩
    · intro D2 h' tk' F₂ N₂ off
      clear F₁ N₁ hR
      repeat' (first | (k_unfold; (try dsimp only)) | walk1 | (dsimp only; walk1) | (leave1; try dsimp only) | fail "no step")
      refine Stop.go ?_
      rename_i tB _ hcat _ _ F₅ N₅ _
      refine add_news (n := us.length) (k := 0) (ys := [.str (q ++ Str.ofString "b") tB]) F₅ N₅ (List.mem_cons_of_mem _ List.mem_cons_self) List.mem_cons_self (by have := hus.length; simp; omega) fun D4 h₄ F₆ N₆ l₆ => ?_
      clear F₅ N₅
      repeat' (first | (k_unfold; (try dsimp only)) | walk1 | (dsimp only; walk1) | (leave1; try dsimp only) | fail "no step")
      refine Stop.go ?_
      have hD4 : @Ne Nat D4 ak := Ne.symm (Nat.ne_of_lt (l₆ (ak, listOf (List.toArray vs) n₁) (by k_mem)))
      have N₇ := cb_drop (news := (D4, _) :: (ak, listOf (List.toArray vs) n₁) :: (cT, oT₂) :: (base ++ own)) N₆ (fun p hp => by
        rcases List.mem_cons.mp hp with rfl | hp
        · exact List.mem_cons_self
        · exact List.mem_cons_of_mem _ (List.mem_cons_of_mem _ (List.mem_cons_of_mem _ hp)))
      clear N₆
      refine iadd_news F₆ N₇ (.tail hD4 (.head fun p hp => by
        rcases List.mem_cons.mp hp with rfl | hp
        · exact Ne.symm d1
        · exact o1 p hp)) List.mem_cons_self (by have := hus.length; have := hs₁.length; simp; omega) fun h₅ e₅ F₈ N₈ => ?_
      repeat' (first | (k_unfold; (try dsimp only)) | walk1 | (dsimp only; walk1) | (leave1; try dsimp only) | fail "no step")
      refine Stop.go ?_
      refine storeX_L F₈ N₈ (fun h₆ F₉ N₉ => ?_) rfl rfl
      repeat' (first | (k_unfold; (try dsimp only)) | walk1 | (dsimp only; walk1) | (leave1; try dsimp only) | fail "no step")
      have hb1 : (Str.ofString "b").length = 1 := by decide
      have hnew : ∀ r ∈ ss ++ (rs ++ [q ++ Str.ofString "b"]), r.length ≤ 5 := by
        intro r hr9
        rcases List.mem_append.mp hr9 with h | h
        · exact h5₁ r h
        · rcases List.mem_append.mp h with h | h
          · exact Nat.le_trans (hr r h) (by omega)
          · rw [List.mem_singleton.mp h]; omega
      refine ⟨rfl, _, _, _, (ak, listOf (List.toArray (vs ++ (us ++ [Value.str (q ++ Str.ofString "b") tB]))) e₅) :: (cT, oT₂) :: base, rfl, fr_eq F₉ ((fun y => if h1 : y = Str.ofString "asks" then (by subst h1; rfl) else if h2 : y = Str.ofString "k" then (by subst h2; rfl) else if h3 : y = Str.ofString "trie" then (by subst h3; rfl) else if h4 : y = Str.ofString "book" then (by subst h4; rfl) else if h5 : y = Str.ofString "texts" then (by subst h5; rfl) else (by simp [h1, beq_false_of_ne h1, h2, beq_false_of_ne h2, h3, beq_false_of_ne h3, h4, beq_false_of_ne h4, h5, beq_false_of_ne h5, List.lookup]))), cb_drop N₉ ?_, ⟨_, ss ++ (rs ++ [q ++ Str.ofString "b"]), e₅, oT₂, _, rfl, hT₂, strs_app hs₁ (kct_snoc hus), by simp only [List.length_append, List.length_singleton]; omega, hnew, rfl⟩⟩
      intro p hp
      simp only [List.mem_append, List.mem_cons] at hp ⊢
      rcases hp with h | h | h | h <;> simp [h]
  case done =>
    rintro m₁ nx h₁ tk₁ ⟨vs, ss, n₁, oT₁, v₀, rfl, hT₁, hs₁, hl₁, h5₁, rfl⟩ F₂ N₂
    exact ret _ _ _ _ _ hs₁ (by omega) h5₁ F₂ (cb_drop N₂ fun p hp => by
      rcases List.mem_cons.mp hp with rfl | hp
      · exact List.mem_cons_self
      · exact List.mem_cons_of_mem _ (List.mem_cons_of_mem _ hp))
end
end partC20
section partC21
section
variable {w : World} {dp un : Nat} {gd : Option (List Code)} {cn : Str} {cs : Scope} {a : Addr} {ccd : Value} {cl : List (Str × Addr)} {outer : List Env} {A₀ : Around} {base h₀ : Heap} {L : Addr} {m : Str → Option Value} {p : Program} {loose : List Str} {mean : ExcName → Option Value} {mg mb : Str → Option Value} {news : List (Addr × Obj)} {s : Shared} {Q E : Value → Shared → Prop}
set_option maxHeartbeats 4000000 in
theorem law_core {cS cT sl : Addr} {oS oT : Obj} {vT : Option Value} {vs : List Value} {ns : List Int} {Q : Flow → Shared → Prop} 
  (hSd : oS.data = .cell (some (.ref sl))) (hTd : oT.data = .cell vT) (hST : @Ne Nat cS cT) (hl : h₀.IsList sl vs.toArray) (hi : IntsAre vs ns) (hn : ¬ ((63 : Nat) : Int) < (ns.length : Int))
  (B : Below A₀ h₀ [] h₀) (X : (hd.heap_39 w.params).In h₀) (N : News h₀ L s.heap [(cT, oT), (cS, oS)]) (T : Top p loose mean mg mb h₀) (F : Fr h₀ L s.heap fun _ => none)
  (hE : PassesOwn (model PySem.Challenge.rw_te0073_01.row.prog w) (ktrTop dp un gd (Str.ofString "law") lawScope L a ccd [(Str.ofString "text", cT), (Str.ofString "script", cS)] []) (envX (Str.ofString "law") lawScope L a ccd [(Str.ofString "text", cT), (Str.ofString "script", cS)]) E) (hdp : dp + 8 < recursionLimit) (hun : un + 80 < cLine)
  (ret : ∀ m' news' h' tk', Fr h₀ L h' m' → News h₀ L h' news' → Q (.ret (.bool true)) { s with heap := h', toks := tk' }) :
  wpAny (model PySem.Challenge.rw_te0073_01.row.prog w) (ktrTop dp un gd (Str.ofString "law") lawScope L a ccd [(Str.ofString "text", cT), (Str.ofString "script", cS)] []) (execs [lawSt 0, lawSt 1, lawSt 2, lawSt 3, lawSt 4, lawSt 5, lawSt 6, lawSt 7] (envX (Str.ofString "law") lawScope L a ccd [(Str.ofString "text", cT), (Str.ofString "script", cS)])) Q E s := by
  refine wpAny_execs_cons ?_
  refine texts_ok (List.mem_cons_of_mem _ List.mem_cons_self) hSd hl hi hn B X N T F hdp hun fun D ys ts h1 k1 hys h8 h4 off F1 N1 => ?_
  have hDT : @Ne Nat D cT := Ne.symm off.1
  refine wpAny_execs_cons ?_
  refine book0_ok B X N1 T F1 hdp hun fun bk ob h2 k2 ho hlo hlt F2 N2 => ?_
  refine wpAny_execs_cons ?_
  refine fill_ok (u := none) (D := D) List.mem_cons_self hys h8 h4 ho hlt B X N2 T (fr_eq F2 ((fun y => if h1 : y = Str.ofString "k" then (by subst h1; rfl) else if h2 : y = Str.ofString "book" then (by subst h2; rfl) else if h3 : y = Str.ofString "texts" then (by subst h3; rfl) else (by simp [h1, beq_false_of_ne h1, h2, beq_false_of_ne h2, h3, beq_false_of_ne h3, List.lookup])))) hE hdp hun fun ob' kvs u h3 k3 ho' hk8 hk4 F3 N3 => ?_
  refine wpAny_execs_cons ?_
  refine make_ok List.mem_cons_self ho' hlo hk8 hk4 B X N3 T F3 hdp hun fun x own h5 k5 hown I F5 N5 => ?_
  refine wpAny_execs_cons ?_
  refine asks_ok B X N5 T F5 hdp hun fun ak avs as n h6 k6 hA hA2 hA5 hak F6 N6 => ?_
  refine wpAny_execs_cons ?_
  have hTm : (cT, oT) ∈ (bk, ob') :: (D, LCg.lst ys) :: [(cT, oT), (cS, oS)] := List.mem_cons_of_mem _ (List.mem_cons_of_mem _ List.mem_cons_self)
  refine grow_ok (n := n) (base := own ++ [(bk, ob'), (D, LCg.lst ys), (cS, oS)]) hTd hA hA2 (fun q hq => hA5 q hq) (List.mem_append_right _ (List.mem_cons_of_mem _ List.mem_cons_self)) hys h8 h4 ?d1 ?d2 ?d3 B X (cb_drop N6 ?sub) T F6 hE hdp hun fun avs' as' n' h7 k7 hA' hA60 hA5' F7 N7 => ?_
  case d1 => exact Ne.symm (Nat.ne_of_lt (hak (cT, oT) (List.mem_append_right _ hTm)))
  case d2 =>
    intro p hp
    refine Nat.ne_of_lt (hak p ?_)
    simp only [List.mem_append, List.mem_cons] at hp ⊢
    rcases hp with h | h | h | h | h <;> simp [h]
  case d3 =>
    intro p hp
    rcases List.mem_append.mp hp with hp | hp
    · exact Ne.symm (Nat.ne_of_lt (hown p hp (cT, oT) hTm))
    · simp only [List.mem_cons, List.not_mem_nil, or_false] at hp
      rcases hp with rfl | rfl | rfl
      · exact Ne.symm (Nat.ne_of_lt (hlt (cT, oT) (List.mem_cons_of_mem _ List.mem_cons_self)))
      · exact hDT
      · exact hST
  case sub =>
    intro p hp
    simp only [List.mem_append, List.mem_cons] at hp ⊢
    rcases hp with h | h | h | h | h | h | h <;> simp [h]
  have I' : TI w ((ak, listOf (List.toArray avs') n') :: (own ++ [(bk, ob'), (D, LCg.lst ys), (cS, oS)])) x bk kvs := I.mono fun p hp => by
    simp only [List.mem_append, List.mem_cons] at hp ⊢
    rcases hp with h | h | h <;> simp [h]
  refine wpAny_execs_cons ?_
  refine loops_ok (u1 := none) (u2 := none) (u3 := none) (rest := fun y => if y = Str.ofString "k" then u else if y = Str.ofString "texts" then some (.ref D) else none) I' List.mem_cons_self hA' (fun q hq => Nat.le_trans (hA5' q hq) (by omega)) (by omega) B X N7 T (fr_eq F7 ((fun y => if h1 : y = Str.ofString "ask" then (by subst h1; rfl) else if h2 : y = Str.ofString "at" then (by subst h2; rfl) else if h3 : y = Str.ofString "turn" then (by subst h3; rfl) else if h4 : y = Str.ofString "asks" then (by subst h4; rfl) else if h5 : y = Str.ofString "trie" then (by subst h5; rfl) else if h6 : y = Str.ofString "book" then (by subst h6; rfl) else if h7 : y = Str.ofString "k" then (by subst h7; rfl) else if h8 : y = Str.ofString "texts" then (by subst h8; rfl) else (by simp [h1, beq_false_of_ne h1, h2, beq_false_of_ne h2, h3, beq_false_of_ne h3, h4, beq_false_of_ne h4, h5, beq_false_of_ne h5, h6, beq_false_of_ne h6, h7, beq_false_of_ne h7, h8, beq_false_of_ne h8, List.lookup])))) hE hdp hun fun u1 u2 u3 h8 k8 F8 N8 => ?_
  refine wpAny_execs_cons ?_
  refine last_ok I' B X N8 T F8 hdp hun fun m' h9 k9 F9 N9 => ?_
  exact ret _ _ _ _ F9 N9
end
end partC21
end Mine
section
open Mine
local macro_rules | `(tactic| walk_at "execs cons") => `(tactic| refine Stop.out (P := wpAny _ _ _ _ _ _) ?_)
set_option maxHeartbeats 8000000 in
theorem PySem.Challenge.cw_te0073_01_holds : PySem.Challenge.rw_te0073_01.Holds :=
  Mine.hd (by
  k_go0
  all_goals try k_fold
  repeat' (first | (k_unfold; (try dsimp only)) | walk1 | (dsimp only; walk1) | (leave1; try dsimp only) | fail "no step")
  refine Stop.go ?_
  rename News _ _ _ _ => N0
  rename Fr _ _ _ _ => F0
  rename Top _ _ _ _ _ _ => T0
  rename Below _ _ _ _ => B0
  rename IntsAre _ _ => I0
  rename Heap.IsList _ _ _ => L0
  refine' law_core (dp := callerA.depth + 1) (cS := _) (cT := _) ?hSd ?hTd ?hST L0 I0 ?hn B0 ?X N0 T0 ?F ?hE ?hdp ?hun ?ret
  case hSd => with_unfolding_all assumption
  case hTd => with_unfolding_all assumption
  case hST => exact Nat.ne_of_lt (Nat.lt_succ_self _)
  case hn => assumption
  case X => assumption
  case F => exact fr_eq F0 (fun y => rfl)
  case hE => with_unfolding_all exact PySem.PassesOwn.leaving
  case hdp => decide
  case hun => decide
  case ret =>
    intro m' news' h' tk' F' N'
    k_steps)
end

import PyProof.Rows.All
import Wide.All
import OpenK.AllK
import Wide.FinOn
import PyProof.CompObj
import PyProof.EqAt
import PyProof.Rows.StrNews
import KE.KDictSum
import KE.KEqSeq
import KE.KSortAsk
import Lean
import PySem.Challenge.RW_dj5002_01
set_option Elab.async false
section
open PySem PySem.W PyProof.Rows
set_option maxRecDepth 100000 in
set_option maxHeartbeats 8000000 in
open_top hd for PySem.Challenge.rw_dj5002_01
end
-- part Bs
section
open PySem PySem.W PySem.Calls PyProof.Rows
set_option Elab.async false
set_option maxRecDepth 100000
namespace Mine

abbrev PG : Program := PySem.Challenge.rw_dj5002_01.row.prog

/-- entering a def of the written part, from any heap; the base is the heap at the call -/
theorem enter {prog : Program} {w : World} {A : Around} {s : Shared} {K : Frag} {p : Program} {loose : List Str} {mg mb : Str → Option Value} {R : Result → Shared → Prop}
    {name qual : Str} {params : Arguments} {body : List Stmt} {scope : Scope} {dV kV doc pm cdv ct oc : Value} {an od : Option Addr} {osl : Array (Option Value)} {f : Addr} {args : Args} {binds : List (Str × Value)}
    (X : K.In s.heap) (T : TopRead p loose mg mb s.heap)
    (ho : K.lookup f = some ⟨oc, od, .func (fnOf name qual params body scope dV kV doc pm an cdv ct), osl⟩) (hcd : codeIn K cdv qual = true) (hroom : A.depth < recursionLimit)
    (hbind : BindsTo s (fnOf name qual params body scope dV kV doc pm an cdv ct) args binds) (hloc : ∀ y ∈ binds, scope.names.lookup y.1 = some .local)
    (h : ∀ L h₁ m tk, (∀ y, m y = binds.reverse.lookup y) → Fr s.heap L h₁ m →
      wpAny (model prog w) (A.deeper (envOf qual scope L f cdv)) (execs body (envOf qual scope L f cdv))
        (fun fl s' => R (.ok (.ret (match fl with | .ret v => v | _ => .none))) s') (fun _ _ => False)
        { s with heap := h₁, toks := tk })
    (hco : scope.isCoroutine = false) (hgen : scope.isGenerator = false) (hk : scope.kind = .function)
    (hcell : ∀ x ∈ scope.names, x.2 ≠ .cell) : codeAny (model prog w) A (.call (.ref f) args) R s := by
  refine codeAny_call_def (fd := fnOf name qual params body scope dV kV doc pm an cdv ct) (body := body) (binds := binds) hroom (X _ _ ho) rfl T.nolimit (codeRec_of X hcd) rfl hbind hcell hloc (fun h₁ hns hk₁ => ?_) hco hgen hk
  exact wpAny_mono (h s.heap.objs.size h₁ _ _ (fun _ => rfl) ⟨hns, hk₁, Nat.le_refl _⟩) (fun _ _ x => x) (fun _ _ x => x.elim)

theorem binds_peek {K : Frag} {s : Shared} {fd : FuncData} {args : Args} {binds : List (Str × Value)} (X : K.In s.heap) (h : ∀ S, peek K S (bindArgs fd args) = some binds) : BindsTo s fd args binds := by
  intro M A E Q hq
  exact (Looks.of_peek X (h _)).here hq

theorem upd_eq {m : Str → Option Value} {y : Str} {v : Option Value} : (fun z => if z = y then v else m z) y = v := if_pos rfl
theorem upd_ne {m : Str → Option Value} {x y : Str} {v r : Option Value} (h : (x == y) = false) (e : m x = r) : (fun z => if z = y then v else m z) x = r := by
  show (if x = y then v else m x) = r
  rw [if_neg (by simpa using h)]; exact e

end Mine
end

-- part F1
section
open PySem PySem.W PySem.Calls PyProof.Rows
set_option Elab.async false
set_option maxRecDepth 100000
set_option maxHeartbeats 8000000
set_option pp.maxSteps 300
set_option pp.deepTerms false
namespace Mine
theorem warmF1 : (∀ P, _root_.hd.heap_39 P = _root_.hd.heap_39 P) ∧ PySem.Challenge.rw_dj5002_01 = PySem.Challenge.rw_dj5002_01 := by
  k_fill
  exact ⟨fun _ => rfl, rfl⟩
local macro_rules | `(tactic| walk_at "look") => `(tactic| first | with_reducible assumption | exact upd_eq | (refine upd_ne (by decide) ?_; walk_at "look"))
local macro_rules | `(tactic| walk_at "eval Name") => `(tactic| (k_here; k_dflt (refine' nameX_L ?F ?v ?_ ?a ?b; (case F => k_asm); (case a => rfl); (case b => rfl); (case v => walk_at "look"); k_whole)))
local macro_rules | `(tactic| walk_at "loadName") => `(tactic| (k_here; k_dflt (refine' ldn ?F ?v ?_ ?a ?b; (case F => k_asm); (case a => rfl); (case b => rfl); (case v => walk_at "look"); k_whole)))
local macro_rules | `(tactic| walk_at "toWhile") => `(tactic| repeat (first | (k_unfold; (try dsimp only)) | ((fail_if_success (with_reducible show wpAny _ _ (exec (Stmt.While _ _ _ _) _) _ _ _)); walk1) | ((fail_if_success (with_reducible show wpAny _ _ (exec (Stmt.While _ _ _ _) _) _ _ _)); dsimp only; walk1)))
local macro_rules | `(tactic| walk_at "steps") => `(tactic| repeat (first | (k_unfold; (try dsimp only)) | walk1 | (dsimp only; walk1)))

theorem filter_lt_len {ns : List Int} {x : Int} {k : Nat} (hk : k ≤ ns.length) (h1 : ∀ j, j < k → ∀ y, ns[j]? = some y → y < x) (h2 : ∀ j, k ≤ j → ∀ y, ns[j]? = some y → x ≤ y) :
    (ns.filter (· < x)).length = k := by
  have e : ns = ns.take k ++ ns.drop k := (List.take_append_drop k ns).symm
  rw [e, List.filter_append]
  have a : (ns.take k).filter (· < x) = ns.take k := List.filter_eq_self.mpr fun y hy => by
    obtain ⟨j, hj⟩ := List.getElem?_of_mem hy
    rw [List.getElem?_take] at hj
    split at hj
    · simpa using h1 j (by assumption) y hj
    · cases hj
  have b : (ns.drop k).filter (· < x) = [] := List.filter_eq_nil_iff.mpr fun y hy => by
    obtain ⟨j, hj⟩ := List.getElem?_of_mem hy
    rw [List.getElem?_drop] at hj
    have := h2 (k + j) (by omega) y hj
    simp; omega
  rw [a, b]; simp; omega

theorem bis {w : World} {A : Around} {s : Shared} {p : Program} {loose : List Str} {mg mb : Str → Option Value} {R : Result → Shared → Prop} {l : Addr} {vs : List Value} {ns : List Int} {x : Int} {t : Tok}
   (X : (hd.heap_39 w.params).In s.heap) (T : TopRead p loose mg mb s.heap) (hA : A.handled = none) (hd : A.depth < recursionLimit)
   (hl : s.heap.IsList l vs.toArray) (hi : IntsAre vs ns) (hlen : ns.length < 64) (hs : ns.Pairwise (· ≤ ·))
   (h : ∀ h' tk u, s.heap.StaysIn h' → R (.ok (.ret (.int ((ns.filter (· < x)).length : Int) u))) { s with heap := h', toks := tk }) :
   codeAny (model PG w) A (.call (.ref 23) ⟨[.ref l, .int x t], []⟩) R s := by
  refine' enter X T ?k1 ?k2 ?k3 ?k4 ?k5 ?_ ?c1 ?c2 ?c3 ?c4
  case k1 => k_is
  case k2 => k_is
  case k3 => exact hd
  case k4 => exact binds_peek X (fun _ => by with_unfolding_all rfl)
  case k5 => exact locs rfl
  case c1 => rfl
  case c2 => rfl
  case c3 => rfl
  case c4 => decide
  intro L h₁ m tk0 hm F
  have N : News s.heap L h₁ [] := News.nil
  have ma : m "a" = some (.ref l) := (hm _).trans rfl
  have mx : m "x" = some (.int x t) := (hm _).trans rfl
  obtain ⟨ulo, mlo⟩ : ∃ u, m "lo" = some (.int 0 u) := ⟨_, (hm _).trans rfl⟩
  have mhi : m "hi" = some .none := (hm _).trans rfl
  have mkey : m "key" = some .none := (hm _).trans rfl
  clear hm
  walk_at "toWhile"
  (with_reducible rename Fr _ _ _ _ => F2)
  refine While_inv (fun n m _ => ∃ lo hi u v, m "a" = some (.ref l) ∧ m "x" = some (.int x t) ∧ m "lo" = some (.int lo u) ∧ m "hi" = some (.int hi v) ∧ 0 ≤ lo ∧ lo ≤ hi ∧ hi ≤ (ns.length : Int) ∧
    (n : Int) = hi - lo ∧ (∀ j : Nat, (j : Int) < lo → ∀ y, ns[j]? = some y → y < x) ∧ (∀ j : Nat, hi ≤ (j : Int) → ∀ y, ns[j]? = some y → x ≤ y)) (n₀ := ns.length) F2 News.nil ?_ ?_
  · refine ⟨0, ns.length, _, _, by walk_at "look", by walk_at "look", by walk_at "look", by walk_at "look", Int.le_refl _, by omega, Int.le_refl _, by omega, fun j hj => absurd hj (by omega), fun j hj y hy => ?_⟩
    have := (List.getElem?_eq_some_iff.mp hy).1
    omega
  · intro n m₁ news₁ h₁ tk₁ F₁ _ J
    obtain ⟨lo, hi', u, v, m1, m2, m3, m4, j1, j2, j3, j4, j5, j6⟩ := J
    have mono : ∀ i j : Nat, i ≤ j → ∀ y z, ns[i]? = some y → ns[j]? = some z → y ≤ z := by
      intro i j hij y z hy hz
      obtain ⟨a1, rfl⟩ := List.getElem?_eq_some_iff.mp hy
      obtain ⟨a2, rfl⟩ := List.getElem?_eq_some_iff.mp hz
      rcases Nat.lt_or_eq_of_le hij with q | rfl
      · exact List.pairwise_iff_getElem.mp hs i j a1 a2 q
      · exact Int.le_refl _
    have fm : (lo + hi').fdiv 2 = (lo + hi') / 2 := Int.fdiv_eq_ediv_of_nonneg _ (by omega)
    have gd : lo < hi' → ns[((lo + hi') / 2).toNat]? = some (ns.getD ((lo + hi') / 2).toNat 0) := fun hlt => by
      have : ((lo + hi') / 2).toNat < ns.length := by omega
      rw [List.getD_eq_getElem?_getD, List.getElem?_eq_getElem this]; rfl
    walk_at "steps"
    · rename (ns.getD _ 0 < x) => hx
      rw [fm] at hx
      refine WhileStep.intro (by k_asm) (by k_asm) (n' := (hi' - ((lo + hi') / 2 + 1)).toNat) (by omega) ⟨(lo + hi') / 2 + 1, hi', _, _, by walk_at "look", by walk_at "look", by rw [← fm]; walk_at "look", by walk_at "look", by omega, by omega, by omega, by omega, fun j hj y hy => ?_, j6⟩
      exact Int.lt_of_le_of_lt (mono j _ (by omega) y _ hy (gd (by assumption))) hx
    · walk_at "steps"
      rename (¬ ns.getD _ 0 < x) => hx
      rw [fm] at hx
      refine WhileStep.intro (by k_asm) (by k_asm) (n' := (((lo + hi') / 2) - lo).toNat) (by omega) ⟨lo, (lo + hi') / 2, _, _, by walk_at "look", by walk_at "look", by walk_at "look", by rw [← fm]; walk_at "look", by omega, by omega, by omega, by omega, j5, fun j hj y hy => ?_⟩
      exact Int.le_trans (Int.not_lt.mp hx) (mono _ j (by omega) _ y (gd (by assumption)) hy)
    · dsimp only
      walk_at "steps"
      dsimp only
      have e := filter_lt_len (x := x) (k := lo.toNat) (ns := ns) (by omega) (fun j hj => j5 j (by omega)) (fun j hj => j6 j (by omega))
      have := h h₁ tk₁ u F₁.keep
      rw [e] at this
      have e2 : (lo.toNat : Int) = lo := by omega
      rw [e2] at this
      exact this
end Mine
end

-- part F2
section
open PySem PySem.W PySem.Calls PyProof.Rows
set_option Elab.async false
set_option maxRecDepth 100000
set_option maxHeartbeats 8000000
set_option pp.maxSteps 300
set_option pp.deepTerms false
namespace Mine
theorem warmF2 : (∀ P, _root_.hd.heap_39 P = _root_.hd.heap_39 P) ∧ PySem.Challenge.rw_dj5002_01 = PySem.Challenge.rw_dj5002_01 := by
  k_fill
  exact ⟨fun _ => rfl, rfl⟩
local macro_rules | `(tactic| walk_at "look") => `(tactic| first | with_reducible assumption | exact upd_eq | (refine upd_ne (by decide) ?_; walk_at "look"))
local macro_rules | `(tactic| walk_at "eval Name") => `(tactic| (k_here; k_dflt (refine' nameX_L ?F ?v ?_ ?a ?b; (case F => k_asm); (case a => rfl); (case b => rfl); (case v => walk_at "look"); k_whole)))
local macro_rules | `(tactic| walk_at "loadName") => `(tactic| (k_here; k_dflt (refine' ldn ?F ?v ?_ ?a ?b; (case F => k_asm); (case a => rfl); (case b => rfl); (case v => walk_at "look"); k_whole)))
local macro_rules | `(tactic| walk_at "steps") => `(tactic| repeat (first | (k_unfold; (try dsimp only)) | walk1 | (dsimp only; walk1)))

/-- a text of one sign -/
abbrev CS (c : Nat) : Str := ⟨#[c]⟩
/-- the rising places of a sign -/
def posI (last : List Nat) (c : Nat) : List Int := ((List.range last.length).filter fun j => last[j]? == some c).map Int.ofNat
def lessI (last : List Nat) (c : Nat) : Int := ((last.filter (· < c)).length : Nat)
/-- a place's way back -/
def bef (last : List Nat) (c : Nat) (a : Int) : Int := lessI last c + (((posI last c).filter (· < a)).length : Nat)

theorem posI_sorted (last : List Nat) (c : Nat) : (posI last c).Pairwise (· ≤ ·) := by
  unfold posI
  rw [List.pairwise_map]
  refine (List.pairwise_lt_range.filter _).imp fun h => ?_
  exact Int.ofNat_le.mpr (Nat.le_of_lt h)
theorem posI_length (last : List Nat) (c : Nat) : (posI last c).length ≤ last.length := by
  unfold posI
  rw [List.length_map]
  exact Nat.le_trans (List.length_filter_le _ _) (by simp)

theorem MapOf.keep {K : Type} [DecidableEq K] {prog : Program} {w : World} {knd : PySem.KeyKind prog w K} {h h' : Heap} {a : Addr} {f : K → Option Value} (x : h.MapOf knd a f) (k : h.StaysIn h') : h'.MapOf knd a f :=
  let ⟨o, es, ep, ho, r⟩ := x; ⟨o, es, ep, k _ _ ho, r⟩
theorem IsList.keep {h h' : Heap} {a : Addr} {v : Array Value} (x : h.IsList a v) (k : h.StaysIn h') : h'.IsList a v := x.at fun o e => k _ o e

/-- what the heap holds of the row that is kept -/
structure FM (w : World) (h : Heap) (dp dl dk : Addr) (last sa : List Nat) : Prop where
  pm : ∃ fp, h.MapOf (PySem.strKind PG w) dp fp ∧ (∀ c ∈ last, ∃ l vs, fp (CS c) = some (.ref l) ∧ h.IsList l vs.toArray ∧ IntsAre vs (posI last c)) ∧ (∀ c, c ∉ last → fp (CS c) = none)
  lm : ∃ fl, h.MapOf (PySem.strKind PG w) dl fl ∧ ∀ c ∈ last, ∃ u, fl (CS c) = some (.int (lessI last c) u)
  km : ∃ fk, h.MapOf (PySem.intKind PG w) dk fk ∧ ∀ (i : Nat) q, sa[i]? = some q → if q % 4 = 0 then ∃ u, fk (i : Int) = some (.int (q : Int) u) else fk (i : Int) = none
  np : (dp == sysModules) = false
  nl : (dl == sysModules) = false
  nk : (dk == sysModules) = false
theorem FM.keep {w : World} {h h' : Heap} {dp dl dk : Addr} {last sa : List Nat} (x : FM w h dp dl dk last sa) (k : h.StaysIn h') : FM w h' dp dl dk last sa where
  pm := let ⟨fp, a, b, c⟩ := x.pm; ⟨fp, MapOf.keep a k, fun q hq => let ⟨l, vs, e1, e2, e3⟩ := b q hq; ⟨l, vs, e1, IsList.keep e2 k, e3⟩, c⟩
  lm := let ⟨fp, a, b⟩ := x.lm; ⟨fp, MapOf.keep a k, b⟩
  km := let ⟨fp, a, b⟩ := x.km; ⟨fp, MapOf.keep a k, b⟩
  np := x.np
  nl := x.nl
  nk := x.nk

theorem item_dict {K : Type} [DecidableEq K] {prog : Program} {w : World} {knd : PySem.KeyKind prog w K} {A : Around} {E : Value → Shared → Prop} {s : Shared} {value slice : Expr} {d : Addr} {key v : Value} {k : K} {f : K → Option Value} {Q : Value → Shared → Prop}
    (hm : s.heap.MapOf knd d f) (hkey : knd.is k key = true) (hv : f k = some v) (h : Q v { s with toks := s.toks + 1 })
    (hs : subscripted slice false (.ref d) key = operate [.ref d, key] (getItem (.ref d) key) := by with_unfolding_all rfl) (hg : ∀ r, letTemporaryGo value (.ref d) r = pure () := by intro _; with_unfolding_all rfl) :
    wpAny (model prog w) A (subscriptTail value slice (.ref d) key) Q E s :=
  subscriptTail_builtin hm.typeIs slot_dict_getitem.lookup (wpAny_getItem_of hkey hm hv h) hs hg

theorem bef_call {w : World} {A : Around} {s : Shared} {p : Program} {loose : List Str} {mg mb : Str → Option Value} {R : Result → Shared → Prop} {dp dl dk : Addr} {last sa : List Nat} {c : Nat} {at' : Int} {t t' : Tok}
   (X : (hd.heap_39 w.params).In s.heap) (T : TopRead p loose mg mb s.heap) (hA : A.handled = none) (hd : A.depth + 1 < recursionLimit)
   (Y : FM w s.heap dp dl dk last sa) (hlen : last.length < 64) (hc : c ∈ last)
   (h : ∀ h' tk u, s.heap.StaysIn h' → R (.ok (.ret (.int (bef last c at') u))) { s with heap := h', toks := tk }) :
   codeAny (model PG w) A (.call (.ref 30) ⟨[.ref dp, .ref dl, .str (CS c) t, .int at' t'], []⟩) R s := by
  refine' enter X T ?k1 ?k2 ?k3 ?k4 ?k5 ?_ ?c1 ?c2 ?c3 ?c4
  case k1 => k_is
  case k2 => k_is
  case k3 => omega
  case k4 => exact binds_peek X (fun _ => by with_unfolding_all rfl)
  case k5 => exact locs rfl
  case c1 => rfl
  case c2 => rfl
  case c3 => rfl
  case c4 => decide
  intro L h₁ m tk0 hm F
  have N : News s.heap L h₁ [] := News.nil
  have m1 : m "places" = some (.ref dp) := (hm _).trans rfl
  have m2 : m "less" = some (.ref dl) := (hm _).trans rfl
  have m3 : m "sign" = some (.str (CS c) t) := (hm _).trans rfl
  have m4 : m "at" = some (.int at' t') := (hm _).trans rfl
  clear hm
  obtain ⟨fl, fl1, fl2⟩ := (Y.keep F.keep).lm
  obtain ⟨u, fl3⟩ := fl2 c hc
  obtain ⟨fp, fp1, fp2, _⟩ := (Y.keep F.keep).pm
  obtain ⟨l, vs, fp3, fp4, fp5⟩ := fp2 c hc
  walk_at "steps"
  refine item_dict fl1 (strKind_is _ _ _ _) fl3 ?_
  walk_at "steps"
  refine item_dict fp1 (strKind_is _ _ _ _) fp3 ?_
  walk_at "steps"
  refine wpAny_call (bis (X.keeps F.keep) (T.keeps F.keep) hA hd fp4 fp5 (Nat.lt_of_le_of_lt (posI_length _ _) hlen) (posI_sorted _ _) fun h' tk u k' => ?_)
  dsimp only
  walk_at "steps"
  exact h _ _ _ fun b o e => k' b o (F.keep b o e)
end Mine
end

-- part Lp
section
open PySem PySem.W PySem.Calls PyProof.Rows
set_option Elab.async false
set_option maxRecDepth 100000
set_option maxHeartbeats 8000000
set_option pp.maxSteps 300
set_option pp.deepTerms false
namespace Mine

section
variable {prog : Program} {w : World} {A : Around} {E : Value → Shared → Prop} {s : Shared} {env : Env} {h₀ : Heap} {x : Str} {body : List Stmt} {Q : Flow → Shared → Prop}

/-- a loop over a range by steps of c -/
theorem range_loop {r : Addr} {a₀ b₀ c₀ : Int} {t₀ u₀ v₀ : Tok} {n : Nat} {m₀ : Str → Option Value} {news : List (Addr × Obj)} (J : Nat → (Str → Option Value) → List (Addr × Obj) → Prop)
    (hh : A.handled = none) (hr : IsRange s.heap r a₀ b₀ c₀ t₀ u₀ v₀) (hsmall : Builtin.Range.small a₀ b₀ c₀ = true) (hn : Builtin.Range.rangeSize a₀ b₀ c₀ = (n : Int)) (F : Fr h₀ env.locals s.heap m₀) (N : News h₀ env.locals s.heap news) (hj : J 0 m₀ news)
    (turn : ∀ (i : Nat) m₁ news₁ h tk t own, i < n → news₁.map (·.1) = news.map (·.1) → OwnOff own (news.map (·.1)) → J i m₁ news₁ →
      Fr h₀ env.locals h (fun y => if y = x then some (.int (a₀ + (i : Int) * c₀) t) else m₁ y) → News h₀ env.locals h (news₁ ++ own) →
      wpAny (model prog w) A (execs body env) (InvPostN h₀ env.locals (J (i + 1)) own (news.map (·.1)) { s with heap := h, toks := tk } Q) E { s with heap := h, toks := tk })
    (done : ∀ m₁ news₁ h tk, J n m₁ news₁ → Fr h₀ env.locals h m₁ → News h₀ env.locals h news₁ → Q .next { s with heap := h, toks := tk }) :
    wpAny (model prog w) A (pyIter (.ref r)) (fun it s₂ => LoopAtV prog w A h₀ env x body Q E it s₂) E s := by
  refine wpAny_pyIter_range hr hsmall ?_
  have W : Walks prog w A s.heap.objs.size [s.heap.objs.size] [s.heap.objs.size] n (fun i v => i < n ∧ ∃ t, v = .int (a₀ + i * c₀) t)
      (fun i h => IsRangeIter h s.heap.objs.size (a₀ + (i : Nat) * c₀) ((n : Int) - (i : Nat)) c₀) := (Walks.range hh _ a₀ c₀ n).bound
  refine loop_invN J W ?_ ?_ ?_ ?_ (by show IsRangeIter _ _ _ _ _; rw [hn]; simpa using Heap.get?_push_size _ rfl) (F.push _) (fun p hp => ⟨Heap.get?_push_of_some _ (N p hp).1, (N p hp).2⟩) hj ?_ ?_
  · intro hm
    exact absurd F.ns.lt ((List.mem_singleton.mp hm) ▸ Nat.lt_irrefl _)
  · intro b hb
    rw [List.mem_singleton.mp hb]
    exact next_is_new F
  · intro p hp hI
    exact absurd (Heap.lt_size (N p hp).1) ((List.mem_singleton.mp hI) ▸ Nat.lt_irrefl _)
  · intro p hp hI
    exact absurd (Heap.lt_size (N p hp).1) ((List.mem_singleton.mp hI) ▸ Nat.lt_irrefl _)
  · rintro i v m₁ nx h tk own hi ⟨_, t, rfl⟩ ha hoff hJ F₁ N₁
    exact turn i m₁ nx h tk t own hi ha hoff hJ F₁ N₁
  · exact done
end

theorem rangeSize_upNat (b : Nat) : Builtin.Range.rangeSize 0 (b : Int) 1 = (b : Int) := by
  rw [rangeSize_one]; split <;> omega
end Mine
end

-- part F3
section
open PySem PySem.W PySem.Calls PyProof.Rows
set_option Elab.async false
set_option maxRecDepth 100000
set_option maxHeartbeats 8000000
set_option pp.maxSteps 300
set_option pp.deepTerms false
namespace Mine
theorem warmF3 : (∀ P, _root_.hd.heap_39 P = _root_.hd.heap_39 P) ∧ PySem.Challenge.rw_dj5002_01 = PySem.Challenge.rw_dj5002_01 := by
  k_fill
  exact ⟨fun _ => rfl, rfl⟩
local macro_rules | `(tactic| walk_at "look") => `(tactic| first | with_reducible assumption | exact upd_eq | (refine upd_ne (by decide) ?_; walk_at "look") | exact if_pos rfl | (refine Eq.trans (if_neg (by decide)) ?_; walk_at "look"))
local macro_rules | `(tactic| walk_at "eval Name") => `(tactic| (k_here; k_dflt (refine' nameX_L ?F ?v ?_ ?a ?b; (case F => k_asm); (case a => rfl); (case b => rfl); (case v => walk_at "look"); k_whole)))
local macro_rules | `(tactic| walk_at "loadName") => `(tactic| (k_here; k_dflt (refine' ldn ?F ?v ?_ ?a ?b; (case F => k_asm); (case a => rfl); (case b => rfl); (case v => walk_at "look"); k_whole)))
local macro_rules | `(tactic| walk_at "stop") => `(tactic| first
  | (with_reducible show InvPostN _ _ _ _ _ _ _ _ _)
  | (with_reducible show InvEndN _ _ _ _ _ _ _)
  | (with_reducible show wpAny _ _ (pyIter _) _ _ _)
  | (with_reducible show wpAny _ _ (exec (Stmt.For _ _ _ _ _) _) _ _ _)
  | (with_reducible show wpAny _ _ (exec (Stmt.While _ _ _ _) _) _ _ _)
  | (with_reducible show wpAny _ _ (call (Value.ref _) _ _) _ _ _)
  | (with_reducible show wpAny _ _ (subscriptTail _ _ (Value.str _ _) (Value.int _ _)) _ _ _)
  | (with_reducible show wpAny _ _ (compareOp CmpOp.NotIn _ (Value.ref _)) _ _ _))
local macro_rules | `(tactic| walk_at "steps") => `(tactic| repeat (first | (k_unfold; (try dsimp only)) | ((fail_if_success walk_at "stop"); walk1) | ((fail_if_success walk_at "stop"); dsimp only; (fail_if_success walk_at "stop"); walk1)))

theorem item_cs {prog : Program} {w : World} {A : Around} {E : Value → Shared → Prop} {s : Shared} {value slice : Expr} {x : Str} {t u : Tok} {i : Int} {c : Nat} {Q : Value → Shared → Prop}
    (h0 : 0 ≤ i) (h1 : i < 9223372036854775808) (hx : x.cps[i.toNat]? = some c) (h : Q (.str (CS c) s.toks) { s with toks := s.toks + 1 })
    (hs : subscripted slice false (.str x t) (.int i u) = operate [.str x t, .int i u] (getItem (.str x t) (.int i u)) := by with_unfolding_all rfl)
    (ht : ∀ r, letTemporaryGo value (.str x t) r = pure () := by intro _; with_unfolding_all rfl) :
    wpAny (model prog w) A (subscriptTail value slice (.str x t) (.int i u)) Q E s := by
  have hlt : i.toNat < x.cps.size := (Array.getElem?_eq_some_iff.mp hx).1
  refine subscriptTail_builtin (typeIs_str s x t) F.slot_str_getitem.lookup (PySem.P.getItem_str (c := c) ?_ ?_ h) hs ht
  · have a1 : ¬ i < -9223372036854775808 := by omega
    have a2 : ¬ i ≥ 9223372036854775808 := by omega
    show (decide (i < -9223372036854775808) || decide (i ≥ 9223372036854775808)) = false
    simp [a1, a2]
  · have e : seqIndex? i x.length = some i.toNat := by
      unfold seqIndex?
      have hl : x.length = x.cps.size := rfl
      have g1 : ¬ i < 0 := by omega
      have g2 : (decide (0 ≤ i) && decide (i < (x.cps.size : Int))) = true := by simp; omega
      simp only [hl, if_neg g1, g2, if_true]
    rw [e]; exact hx

/-- the stretch of a word, from its last letter on -/
def srch (last : List Nat) (n : Nat) : List Nat → Int × Int
  | [] => (0, n)
  | c :: wd => (bef last c (srch last n wd).1, bef last c (srch last n wd).2)

theorem srch_call {w : World} {A : Around} {s : Shared} {p : Program} {loose : List Str} {mg mb : Str → Option Value} {R : Result → Shared → Prop} {dp dl dk : Addr} {last sa wd : List Nat} {n : Nat} {t t' : Tok}
   (X : (hd.heap_39 w.params).In s.heap) (T : TopRead p loose mg mb s.heap) (hA : A.handled = none) (hd : A.depth + 2 < recursionLimit)
   (Y : FM w s.heap dp dl dk last sa) (hlen : last.length < 64) (hwd : wd.length < 64)
   (h : ∀ h' tk v a b u₁ u₂, s.heap.StaysIn h' → h'.IsTuple v #[.int a u₁, .int b u₂] → (a, b) = (if ∀ c ∈ wd, c ∈ last then srch last n wd else (0, 0)) → R (.ok (.ret (.ref v))) { s with heap := h', toks := tk }) :
   codeAny (model PG w) A (.call (.ref 37) ⟨[.ref dp, .ref dl, .int n t, .str ⟨wd.toArray⟩ t'], []⟩) R s := by
  refine' enter X T ?k1 ?k2 ?k3 ?k4 ?k5 ?_ ?c1 ?c2 ?c3 ?c4
  case k1 => k_is
  case k2 => k_is
  case k3 => omega
  case k4 => exact binds_peek X (fun _ => by with_unfolding_all rfl)
  case k5 => exact locs rfl
  case c1 => rfl
  case c2 => rfl
  case c3 => rfl
  case c4 => decide
  intro L h₁ m tk0 hm F
  have N : News s.heap L h₁ [] := News.nil
  have m1 : m "places" = some (.ref dp) := (hm _).trans rfl
  have m2 : m "less" = some (.ref dl) := (hm _).trans rfl
  have m3 : m "size" = some (.int n t) := (hm _).trans rfl
  have m4 : m "word" = some (.str ⟨wd.toArray⟩ t') := (hm _).trans rfl
  clear hm
  walk_at "steps"
  refine For_invV s.heap rfl rfl ?_
  walk_at "steps"
  have hwl : Str.length ⟨wd.toArray⟩ = wd.length := by show wd.toArray.size = _; simp
  refine PySem.P.len_str (by rw [hwl]; omega) ?_
  rw [hwl]
  walk_at "steps"
  obtain ⟨fp, fp1, fp2, fp3⟩ := Y.pm
  (with_reducible rename IsRange _ _ _ _ _ _ _ _ => hR)
  (with_reducible rename Fr _ _ _ _ => F2)
  (with_reducible rename News _ _ _ _ => N2)
  refine range_loop (n := wd.length) (fun i m news => news = [] ∧ m "places" = some (.ref dp) ∧ m "less" = some (.ref dl) ∧ m "word" = some (.str ⟨wd.toArray⟩ t') ∧
    (∃ u, m "lo" = some (.int (srch last n (wd.drop (wd.length - i))).1 u)) ∧ (∃ u, m "hi" = some (.int (srch last n (wd.drop (wd.length - i))).2 u)) ∧ ∀ c ∈ wd.drop (wd.length - i), c ∈ last) hA hR (small_down (by omega) (by omega) (by omega) (by omega)) ?_ F2 N2 ?_ ?_ ?_
  · rw [rangeSize_downNat]; omega
  · refine ⟨rfl, by walk_at "look", by walk_at "look", by walk_at "look", ?_, ?_, ?_⟩
    · rw [Nat.sub_zero, List.drop_length]; exact ⟨_, by walk_at "look"⟩
    · rw [Nat.sub_zero, List.drop_length]
      show ∃ u, _ = some (Value.int (n : Int) u)
      exact ⟨_, by walk_at "look"⟩
    · simp
  · rintro i m₁ news₁ h₁ tk tt own hi _ hoff ⟨rfl, j1, j2, j3, ⟨u1, j4⟩, ⟨u2, j5⟩, j6⟩ F₁ N₁
    have hk : ((wd.length : Int) - 1 + (i : Int) * -1) = ((wd.length - 1 - i : Nat) : Int) := by omega
    have hlt : wd.length - 1 - i < wd.length := by omega
    have hdrop : wd.drop (wd.length - (i + 1)) = wd[wd.length - 1 - i] :: wd.drop (wd.length - i) := by
      have e1 : wd.length - (i + 1) = wd.length - 1 - i := by omega
      have e2 : wd.length - i = wd.length - 1 - i + 1 := by omega
      rw [e1, e2, List.drop_eq_getElem_cons hlt]
    generalize hc : wd[wd.length - 1 - i] = c at hdrop
    have hcx : (⟨wd.toArray⟩ : Str).cps[((wd.length : Int) - 1 + (i : Int) * -1).toNat]? = some c := by
      rw [hk]; simp [hlt, hc]
    walk_at "steps"
    refine item_cs (c := c) (by omega) (by omega) hcx ?_
    walk_at "steps"
    refine wpAny_notIn_of (strKind_is _ _ _ _) Y.np (MapOf.keep fp1 F₁.keep) ?_
    by_cases hcl : c ∈ last
    · obtain ⟨l, vs, fp4, _, _⟩ := fp2 c hcl
      rw [show (fp (CS c)).isSome = true from by rw [fp4]; rfl]
      dsimp only [Bool.not_true]
      walk_at "steps"
      refine item_cs (c := c) (by omega) (by omega) hcx ?_
      walk_at "steps"
      (with_reducible rename Fr _ _ _ _ => F3)
      (with_reducible rename News _ _ _ _ => N3)
      refine wpAny_call (bef_call (X.keeps F3.keep) (T.keeps F3.keep) hA hd (Y.keep F3.keep) hlen hcl fun h₄ tk₄ u₄ k₄ => ?_)
      have F4 := Fr.kept F3 k₄
      have N4 := News.grown N3 k₄
      dsimp only
      walk_at "steps"
      refine item_cs (c := c) (by omega) (by omega) hcx ?_
      walk_at "steps"
      (with_reducible rename Fr _ _ _ _ => F5)
      (with_reducible rename News _ _ _ _ => N5)
      refine wpAny_call (bef_call (X.keeps F5.keep) (T.keeps F5.keep) hA hd (Y.keep F5.keep) hlen hcl fun h₆ tk₆ u₆ k₆ => ?_)
      have F6 := Fr.kept F5 k₆
      have N6 := News.grown N5 k₆
      dsimp only
      walk_at "steps"
      (with_reducible rename Fr _ _ _ _ => F7)
      (with_reducible rename News _ _ _ _ => N7)
      refine InvEndN.intro (nx := []) F7 N7 ⟨rfl, by walk_at "look", by walk_at "look", by walk_at "look", ?_, ?_, ?_⟩ rfl (fun _ hp => nomatch hp) (fun p hp => List.mem_append_right _ hp)
      · rw [hdrop]; exact ⟨_, by walk_at "look"⟩
      · rw [hdrop]; exact ⟨_, by walk_at "look"⟩
      · rw [hdrop]
        intro c' hc'
        rcases List.mem_cons.mp hc' with rfl | q
        · exact hcl
        · exact j6 _ q
    · rw [show (fp (CS c)).isSome = false from by rw [fp3 c hcl]; rfl]
      dsimp only [Bool.not_false]
      walk_at "steps"
      (with_reducible rename Fr _ _ _ _ => F3)
      (with_reducible rename News _ _ _ _ => N3)
      refine h _ _ _ 0 0 _ _ F3.keep ⟨_, (N3 _ (.head _)).1, rfl, _, rfl⟩ ?_
      rw [if_neg]
      intro q
      exact hcl (q c (hc ▸ List.getElem_mem hlt))
  · rintro m₁ news₁ h₁ tk ⟨rfl, j1, j2, j3, ⟨u1, j4⟩, ⟨u2, j5⟩, j6⟩ F₁ N₁
    walk_at "steps"
    (with_reducible rename Fr _ _ _ _ => F3)
    (with_reducible rename News _ _ _ _ => N3)
    refine h _ _ _ _ _ _ _ F3.keep ⟨_, (N3 _ (.head _)).1, rfl, _, rfl⟩ ?_
    rw [Nat.sub_self, List.drop_zero] at j6 ⊢
    rw [if_pos j6]
end Mine
end

-- part F4
section
open PySem PySem.W PySem.Calls PyProof.Rows
set_option Elab.async false
set_option maxRecDepth 100000
set_option maxHeartbeats 8000000
set_option pp.maxSteps 300
set_option pp.deepTerms false
namespace Mine
theorem warmF4 : (∀ P, _root_.hd.heap_39 P = _root_.hd.heap_39 P) ∧ PySem.Challenge.rw_dj5002_01 = PySem.Challenge.rw_dj5002_01 := by
  k_fill
  exact ⟨fun _ => rfl, rfl⟩
local macro_rules | `(tactic| walk_at "look") => `(tactic| first | with_reducible assumption | exact upd_eq | (refine upd_ne (by decide) ?_; walk_at "look") | exact if_pos rfl | (refine Eq.trans (if_neg (by decide)) ?_; walk_at "look"))
local macro_rules | `(tactic| walk_at "eval Name") => `(tactic| (k_here; k_dflt (refine' nameX_L ?F ?v ?_ ?a ?b; (case F => k_asm); (case a => rfl); (case b => rfl); (case v => walk_at "look"); k_whole)))
local macro_rules | `(tactic| walk_at "loadName") => `(tactic| (k_here; k_dflt (refine' ldn ?F ?v ?_ ?a ?b; (case F => k_asm); (case a => rfl); (case b => rfl); (case v => walk_at "look"); k_whole)))
local macro_rules | `(tactic| walk_at "stop") => `(tactic| first
  | (with_reducible show InvPostN _ _ _ _ _ _ _ _ _)
  | (with_reducible show InvEndN _ _ _ _ _ _ _)
  | (with_reducible show wpAny _ _ (pyIter _) _ _ _)
  | (with_reducible show wpAny _ _ (exec (Stmt.For _ _ _ _ _) _) _ _ _)
  | (with_reducible show wpAny _ _ (exec (Stmt.While _ _ _ _) _) _ _ _)
  | (with_reducible show wpAny _ _ (call (Value.ref _) _ _) _ _ _)
  | (with_reducible show wpAny _ _ (subscriptTail _ _ (Value.str _ _) (Value.int _ _)) _ _ _)
  | (with_reducible show wpAny _ _ (compareOp CmpOp.NotIn _ (Value.ref _)) _ _ _))
local macro_rules | `(tactic| walk_at "steps") => `(tactic| repeat (first | (k_unfold; (try dsimp only)) | ((fail_if_success walk_at "stop"); walk1) | ((fail_if_success walk_at "stop"); dsimp only; (fail_if_success walk_at "stop"); walk1)))


theorem where_call {w : World} {A : Around} {s : Shared} {p : Program} {loose : List Str} {mg mb : Str → Option Value} {R : Result → Shared → Prop} {dp dl dk : Addr} {last sa : List Nat} {r q : Nat} {t t' : Tok}
   (X : (hd.heap_39 w.params).In s.heap) (T : TopRead p loose mg mb s.heap) (hA : A.handled = none) (hd : A.depth + 2 < recursionLimit)
   (Y : FM w s.heap dp dl dk last sa) (hlen : last.length < 64) (hsa : sa.length = last.length) (hq : sa[r]? = some q)
   (hLF : ∀ r q c : Nat, sa[r]? = some (q + 1) → last[r]? = some c → ∃ r' : Nat, sa[r']? = some q ∧ bef last c (r : Int) = (r' : Int))
   (h : ∀ h' tk u, s.heap.StaysIn h' → R (.ok (.ret (.int (q : Int) u))) { s with heap := h', toks := tk }) :
   codeAny (model PG w) A (.call (.ref 44) ⟨[.str ⟨last.toArray⟩ t, .ref dp, .ref dl, .ref dk, .int r t'], []⟩) R s := by
  refine' enter X T ?k1 ?k2 ?k3 ?k4 ?k5 ?_ ?c1 ?c2 ?c3 ?c4
  case k1 => k_is
  case k2 => k_is
  case k3 => omega
  case k4 => exact binds_peek X (fun _ => by with_unfolding_all rfl)
  case k5 => exact locs rfl
  case c1 => rfl
  case c2 => rfl
  case c3 => rfl
  case c4 => decide
  intro L h₁ m tk0 hm F
  have N : News s.heap L h₁ [] := News.nil
  have m0 : m "last" = some (.str ⟨last.toArray⟩ t) := (hm _).trans rfl
  have m1 : m "places" = some (.ref dp) := (hm _).trans rfl
  have m2 : m "less" = some (.ref dl) := (hm _).trans rfl
  have m3 : m "kept" = some (.ref dk) := (hm _).trans rfl
  have m4 : m "row" = some (.int r t') := (hm _).trans rfl
  clear hm
  walk_at "steps"
  obtain ⟨fk, fk1, fk2⟩ := Y.km
  (with_reducible rename Fr _ _ _ _ => F2)
  refine While_inv (fun n m _ => ∃ (r' q' : Nat) (sp : Int) (u v : Tok), m "last" = some (.str ⟨last.toArray⟩ t) ∧ m "places" = some (.ref dp) ∧ m "less" = some (.ref dl) ∧ m "kept" = some (.ref dk) ∧ m "row" = some (.int r' u) ∧ m "steps" = some (.int sp v) ∧
    sa[r']? = some q' ∧ 0 ≤ sp ∧ (q' : Int) + sp = q ∧ ((q' % 4 : Nat) : Int) + sp ≤ 3 ∧ q' = n) (n₀ := q) F2 News.nil ?_ ?_
  · exact ⟨r, q, 0, _, _, by walk_at "look", by walk_at "look", by walk_at "look", by walk_at "look", by walk_at "look", by walk_at "look", hq, by omega, by omega, by omega, rfl⟩
  · rintro n m₁ news₁ h₁ tk₁ F₁ N₁ ⟨r', q', sp, u, v, j0, j1, j2, j3, j4, j5, j6, j7, j8, j9, rfl⟩
    walk_at "steps"
    refine wpAny_notIn_of (intKind_is _ _ _ _) Y.nk (MapOf.keep fk1 F₁.keep) ?_
    have hk := fk2 _ _ j6
    have hr' : r' < sa.length := (List.getElem?_eq_some_iff.mp j6).1
    by_cases h4 : q' % 4 = 0
    · rw [if_pos h4] at hk
      obtain ⟨u', hk⟩ := hk
      rw [show (fk r').isSome = true from by rw [hk]; rfl]
      dsimp only [Bool.not_true]
      walk_at "steps"
      refine item_dict (MapOf.keep fk1 F₁.keep) (intKind_is _ _ _ _) hk ?_
      walk_at "steps"
      rw [show (q' : Int) + sp = q from j8]
      exact h _ _ _ F₁.keep
    · rw [if_neg h4] at hk
      rw [show (fk r').isSome = false from by rw [hk]; rfl]
      dsimp only [Bool.not_false]
      obtain ⟨q'', rfl⟩ : ∃ z, q' = z + 1 := ⟨q' - 1, by omega⟩
      have hr2 : r' < last.length := by omega
      have hcl : last[r'] ∈ last := List.getElem_mem hr2
      obtain ⟨r'', e1, e2⟩ := hLF r' q'' last[r'] j6 (by simp [hr2])
      walk_at "steps"
      · exfalso
        rename sp = 3 => h3
        omega
      · walk_at "steps"
        refine item_cs (c := last[r']) (by omega) (by omega) (by simp [hr2]) ?_
        walk_at "steps"
        (with_reducible rename Fr _ _ _ _ => F5)
        (with_reducible rename News _ _ _ _ => N5)
        refine wpAny_call (bef_call (X.keeps F5.keep) (T.keeps F5.keep) hA hd (Y.keep F5.keep) hlen hcl fun h₆ tk₆ u₆ k₆ => ?_)
        have F6 := Fr.kept F5 k₆
        have N6 := News.grown N5 k₆
        rw [e2]
        dsimp only
        walk_at "steps"
        exact WhileStep.intro (by k_asm) (by k_asm) (n' := q'') (Nat.lt_succ_self _) ⟨r'', q'', sp + 1, _, _, by walk_at "look", by walk_at "look", by walk_at "look", by walk_at "look", by walk_at "look", by walk_at "look", e1, by omega, by omega, by omega, rfl⟩
end Mine
end

-- part Cp
section
open PySem PySem.W PySem.Calls PyProof.Rows
set_option Elab.async false
set_option maxRecDepth 100000
set_option maxHeartbeats 8000000
set_option pp.maxSteps 300
set_option pp.deepTerms false
namespace Mine

section
variable {prog : Program} {w : World} {A : Around} {E : Value → Shared → Prop} {s : Shared} {env : Env} {h₀ : Heap} {L : Addr} {m : Str → Option Value} {news : List (Addr × Obj)}
  {scope : Scope} {cl : List (Str × Addr)} {x : Str} {ifs : List Expr} {elt : Expr} {p : Value → Bool} {F : Value → Value → Prop} {Q : Value → Shared → Prop}

/-- what a block asks of its source, over frame and ledger -/
def LcTurns (prog : Program) (w : World) (A : Around) (env : Env) (scope : Scope) (cl : List (Str × Addr)) (x : Str) (ifs : List Expr) (elt : Expr) (p : Value → Bool) (F : Value → Value → Prop) (P : Nat → Value → Prop) (n : Nat) (s : Shared) : Prop :=
  (∀ C i v s₃ m₃ E', i < n → P i v → Fr s.heap C s₃.heap m₃ → m₃ x = some v →
    wpAny (model prog w) A (forIn ifs true fun c r => if r = true then do let ok ← isTrue c (compEnvC scope cl C env) (eval c (compEnvC scope cl C env)); pure (ForInStep.yield ok) else pure (ForInStep.yield r))
      (fun ok s₄ => ok = p v ∧ Keeps s₃ s₄) E' s₃) ∧
  (∀ C i v s₃ m₃ E', i < n → P i v → p v = true → Fr s.heap C s₃.heap m₃ → m₃ x = some v →
    wpAny (model prog w) A (eval elt (compEnvC scope cl C env)) (fun y s₄ => F v y ∧ Keeps s₃ s₄) E' s₃)

theorem lc_src {I : Addr} {fp : List Addr} {n : Nat} {P : Nat → Value → Prop} {St : Nat → Heap → Prop} {oI : Obj} (hI : I = s.heap.objs.size)
    (W : Walks prog w A I fp [I] n (fun i v => i < n ∧ P i v) St) (hsz : n ≤ sizeLine) (hst : St 0 (s.heap.push oI)) (hfp : ∀ b ∈ fp, b < s.heap.objs.size + 1)
    (F0 : Fr h₀ L s.heap m) (N0 : News h₀ L s.heap news) (ht : LcTurns prog w A env scope cl x ifs elt p F P n s)
    (done : ∀ D h' tk k ys (vs : List Value), Fr h₀ L h' m → News h₀ L h' ((D, listOf ys k) :: news) → (∀ q ∈ news, q.1 ≠ D) → vs.length = n → (∀ (j : Nat) (v : Value), vs[j]? = some v → P j v) → Paired F (vs.filter p) ys.toList → s.heap.StaysIn h' → Q (.ref D) { s with heap := h', toks := tk }) :
    ∃ I' fp' wr n' P' St', Value.ref I = .ref I' ∧ Walks prog w A I' fp' wr n' P' St' ∧ n' ≤ sizeLine ∧ St' 0 (s.heap.push oI) ∧ (∀ b ∈ fp', b < (s.heap.push oI).objs.size) ∧
      QuietOnC prog w A env scope cl x ifs elt wr P' p F { s with heap := s.heap.push oI } ∧
      (∀ D h' tk ys (vs : List Value), (s.heap.push oI).get? D = none → h'.IsList D ys → h'.PlainList D ys → vs.length = n' → (∀ (j : Nat) (v : Value), vs[j]? = some v → P' j v) → Paired F (vs.filter p) ys.toList →
        (∀ b o, b ∉ wr → (s.heap.push oI).get? b = some o → h'.get? b = some o) → Q (.ref D) { s with heap := h', toks := tk }) := by
  have hsize : (s.heap.push oI).objs.size = s.heap.objs.size + 1 := Heap.size_push _ _
  have old : ∀ b o, s.heap.get? b = some o → b ∉ [I] := fun b o e q => by
    rw [List.mem_singleton.mp q, hI] at e
    exact Nat.lt_irrefl _ (Heap.lt_size e)
  have fr : ∀ C h m₃, s.heap.objs.size + 1 ≤ C → h.Ns C m₃ → (∀ b o, b ∉ [I] → (s.heap.push oI).get? b = some o → h.get? b = some o) → Fr s.heap C h m₃ := fun C h m₃ hC hn hk =>
    ⟨hn, fun b o e => hk b o (old b o e) (Heap.get?_push_of_some _ e), Nat.le_of_succ_le hC⟩
  refine ⟨I, fp, [I], n, _, St, rfl, W, hsz, hst, fun b hb => by rw [hsize]; exact hfp b hb, ⟨?_, ?_⟩, ?_⟩
  · intro C i v s₃ m₃ E' hC hP hn hm hk _
    exact ht.1 C i v s₃ m₃ E' hP.1 hP.2 (fr C _ _ (by rw [hsize] at hC; exact hC) hn hk) hm
  · intro C i v s₃ m₃ E' hC hP hpv hn hm hk _
    exact ht.2 C i v s₃ m₃ E' hP.1 hP.2 hpv (fr C _ _ (by rw [hsize] at hC; exact hC) hn hk) hm
  · intro D h' tk ys vs hD _ hpl hlen hP hF hk
    have keep : s.heap.StaysIn h' := fun b o e => hk b o (old b o e) (Heap.get?_push_of_some _ e)
    obtain ⟨k, hDo⟩ := hpl
    have hDs : s.heap.get? D = none := by
      cases e : s.heap.get? D with
      | none => rfl
      | some o => rw [Heap.get?_push_of_some _ e] at hD; cases hD
    refine done D h' tk k ys vs (Fr.kept F0 keep) ?_ ?_ hlen (fun j v e => (hP j v e).2) hF keep
    · intro q hq
      rcases List.mem_cons.mp hq with rfl | hq
      · refine ⟨hDo, ?_, ?_⟩
        · rintro rfl
          obtain ⟨o, _, _, ho, _⟩ := F0.ns
          rw [hDs] at ho; cases ho
        · cases e : h₀.get? D with
          | none => rfl
          | some o => rw [F0.keep _ _ e] at hDs; cases hDs
      · exact ⟨keep _ _ (N0 q hq).1, (N0 q hq).2⟩
    · rintro q hq rfl
      have := (N0 q hq).1
      rw [hDs] at this; cases this

theorem lcR {r : Addr} {a₀ b₀ : Int} {t₀ u₀ v₀ : Tok} {n : Nat} (hh : A.handled = none) (hr : IsRange s.heap r a₀ b₀ 1 t₀ u₀ v₀) (hsmall : Builtin.Range.small a₀ b₀ 1 = true) (hn : Builtin.Range.rangeSize a₀ b₀ 1 = (n : Int)) (hsz : n ≤ sizeLine)
    (F0 : Fr h₀ L s.heap m) (N0 : News h₀ L s.heap news) (ht : LcTurns prog w A env scope cl x ifs elt p F (fun i v => ∃ t, v = .int (a₀ + (i : Int)) t) n s)
    (done : ∀ D h' tk k ys (vs : List Value), Fr h₀ L h' m → News h₀ L h' ((D, listOf ys k) :: news) → (∀ q ∈ news, q.1 ≠ D) → vs.length = n → (∀ (j : Nat) (v : Value), vs[j]? = some v → ∃ t, v = .int (a₀ + (j : Int)) t) → Paired F (vs.filter p) ys.toList → s.heap.StaysIn h' → Q (.ref D) { s with heap := h', toks := tk }) :
    wpAny (model prog w) A (pyIter (.ref r)) (fun it s₂ => ∃ I fp wr n P St, it = .ref I ∧ Walks prog w A I fp wr n P St ∧ n ≤ sizeLine ∧ St 0 s₂.heap ∧ (∀ b ∈ fp, b < s₂.heap.objs.size) ∧
      QuietOnC prog w A env scope cl x ifs elt wr P p F s₂ ∧
      (∀ D h' tk ys (vs : List Value), s₂.heap.get? D = none → h'.IsList D ys → h'.PlainList D ys → vs.length = n → (∀ (j : Nat) (v : Value), vs[j]? = some v → P j v) → Paired F (vs.filter p) ys.toList →
        (∀ b o, b ∉ wr → s₂.heap.get? b = some o → h'.get? b = some o) → Q (.ref D) { s₂ with heap := h', toks := tk })) E s := by
  refine wpAny_pyIter_range hr hsmall ?_
  have W : Walks prog w A s.heap.objs.size [s.heap.objs.size] [s.heap.objs.size] n (fun i v => i < n ∧ ∃ t, v = .int (a₀ + (i : Int)) t)
      (fun i h => IsRangeIter h s.heap.objs.size (a₀ + (i : Nat) * 1) ((n : Int) - (i : Nat)) 1) := by
    have W := (Walks.range (prog := prog) (w := w) hh s.heap.objs.size a₀ 1 n).bound
    simp only [Int.mul_one] at W ⊢
    exact W
  refine lc_src rfl W hsz ?_ (fun b hb => by rw [List.mem_singleton.mp hb]; exact Nat.lt_succ_self _) F0 N0 ht done
  show IsRangeIter _ _ _ _ _
  rw [hn]; simpa using Heap.get?_push_size _ rfl

theorem lcL {ax : Addr} {items : Array Value} (hh : A.handled = none) (hl : s.heap.IsList ax items) (hsz : items.size ≤ sizeLine)
    (F0 : Fr h₀ L s.heap m) (N0 : News h₀ L s.heap news) (ht : LcTurns prog w A env scope cl x ifs elt p F (fun i v => items[i]? = some v) items.size s)
    (done : ∀ D h' tk k ys (vs : List Value), Fr h₀ L h' m → News h₀ L h' ((D, listOf ys k) :: news) → (∀ q ∈ news, q.1 ≠ D) → vs.length = items.size → (∀ (j : Nat) (v : Value), vs[j]? = some v → items[j]? = some v) → Paired F (vs.filter p) ys.toList → s.heap.StaysIn h' → Q (.ref D) { s with heap := h', toks := tk }) :
    wpAny (model prog w) A (pyIter (.ref ax)) (fun it s₂ => ∃ I fp wr n P St, it = .ref I ∧ Walks prog w A I fp wr n P St ∧ n ≤ sizeLine ∧ St 0 s₂.heap ∧ (∀ b ∈ fp, b < s₂.heap.objs.size) ∧
      QuietOnC prog w A env scope cl x ifs elt wr P p F s₂ ∧
      (∀ D h' tk ys (vs : List Value), s₂.heap.get? D = none → h'.IsList D ys → h'.PlainList D ys → vs.length = n → (∀ (j : Nat) (v : Value), vs[j]? = some v → P j v) → Paired F (vs.filter p) ys.toList →
        (∀ b o, b ∉ wr → s₂.heap.get? b = some o → h'.get? b = some o) → Q (.ref D) { s₂ with heap := h', toks := tk })) E s := by
  refine wpAny_pyIter_list hl ?_
  obtain ⟨ol, hol, hr⟩ := id hl
  have hlt : ax < s.heap.objs.size := Heap.lt_size hol
  refine lc_src rfl (Walks.list (prog := prog) (w := w) hh s.heap.objs.size ax (Nat.ne_of_lt hlt) items).bound hsz ?_ (fun b hb => ?_) F0 N0 ht done
  · exact ⟨⟨_, Heap.get?_push_size _ rfl, rfl, rfl⟩, hl.at fun o e => Heap.get?_push_of_some _ e⟩
  · rcases List.mem_cons.mp hb with rfl | hb
    · exact Nat.lt_succ_self _
    · rw [List.mem_singleton.mp hb]; exact Nat.lt_succ_of_lt hlt

theorem lcS {y : Str} {ty : Tok} (hh : A.handled = none) (hsz : y.cps.size ≤ sizeLine)
    (F0 : Fr h₀ L s.heap m) (N0 : News h₀ L s.heap news) (ht : LcTurns prog w A env scope cl x ifs elt p F (SignAt y) y.cps.size s)
    (done : ∀ D h' tk k ys (vs : List Value), Fr h₀ L h' m → News h₀ L h' ((D, listOf ys k) :: news) → (∀ q ∈ news, q.1 ≠ D) → vs.length = y.cps.size → (∀ (j : Nat) (v : Value), vs[j]? = some v → SignAt y j v) → Paired F (vs.filter p) ys.toList → s.heap.StaysIn h' → Q (.ref D) { s with heap := h', toks := tk }) :
    wpAny (model prog w) A (pyIter (.str y ty)) (fun it s₂ => ∃ I fp wr n P St, it = .ref I ∧ Walks prog w A I fp wr n P St ∧ n ≤ sizeLine ∧ St 0 s₂.heap ∧ (∀ b ∈ fp, b < s₂.heap.objs.size) ∧
      QuietOnC prog w A env scope cl x ifs elt wr P p F s₂ ∧
      (∀ D h' tk ys (vs : List Value), s₂.heap.get? D = none → h'.IsList D ys → h'.PlainList D ys → vs.length = n → (∀ (j : Nat) (v : Value), vs[j]? = some v → P j v) → Paired F (vs.filter p) ys.toList →
        (∀ b o, b ∉ wr → s₂.heap.get? b = some o → h'.get? b = some o) → Q (.ref D) { s₂ with heap := h', toks := tk })) E s := by
  refine wpAny_pyIter_str fun o St W hst => ?_
  refine lc_src rfl (W A hh).bound hsz hst (fun b hb => by rw [List.mem_singleton.mp hb]; exact Nat.lt_succ_self _) F0 N0 ht done
end

/-- a block over no test -/
theorem lc_plain {prog : Program} {w : World} {A : Around} {s : Shared} {env : Env} {scope : Scope} {cl : List (Str × Addr)} {x : Str} {elt : Expr} {F : Value → Value → Prop} {P : Nat → Value → Prop} {n : Nat}
    (h : ∀ C i v s₃ m₃ E', i < n → P i v → Fr s.heap C s₃.heap m₃ → m₃ x = some v → wpAny (model prog w) A (eval elt (compEnvC scope cl C env)) (fun y s₄ => F v y ∧ Keeps s₃ s₄) E' s₃) :
    LcTurns prog w A env scope cl x [] elt (fun _ => true) F P n s :=
  ⟨fun _ _ _ s₃ _ _ _ _ _ _ => wpAny_tests_nil ⟨rfl, s₃.heap, s₃.toks, rfl, fun _ _ e => e⟩, fun C i v s₃ m₃ E' hi hP _ => h C i v s₃ m₃ E' hi hP⟩
end Mine
end

-- part Nm
section
open PySem PySem.W PySem.Calls PyProof.Rows
set_option Elab.async false
set_option maxRecDepth 100000
namespace Mine
section
variable {M : Model} {A : Around} {E : Value → Shared → Prop} {s : Shared} {K : Frag} {h₀ : Heap} {C : Addr} {m mg mb : Str → Option Value} {p : Program} {loose : List Str} {env : Env}
  {x : Str} {pos : Pos} {v : Value} {Q : Value → Shared → Prop} {c : Addr} {o : Obj}
theorem nmL (F : Fr h₀ C s.heap m) (hL : env.locals = C) (hk : env.scope.kind = .function) (hx : env.kindOf x = some .local) (hd : (x == ("__debug__" : Str)) = false) (hv : m x = some v) (h : Q v s) :
    wpAny M A (eval (.Name x pos) env) Q E s := wpAny_Name (wpAny_loadName_local hk hx (hL ▸ F.ns) hv h) hd
theorem nmC (F : Fr h₀ C s.heap m) (hk : env.scope.kind = .function) (hx : env.kindOf x = some .cell) (hc : env.cells.lookup x = some c) (ho : h₀.get? c = some o) (hd : o.data = .cell (some v)) (hb : (x == ("__debug__" : Str)) = false) (h : Q v s) :
    wpAny M A (eval (.Name x pos) env) Q E s := wpAny_Name (wpAny_loadName_cell hk hx hc ⟨o, F.keep _ _ ho, hd⟩ h) hb
theorem nmK (F : Fr h₀ C s.heap m) (X : K.In h₀) (T : TopRead p loose mg mb h₀) (hg : env.globals = mainGlobals) (hk : env.scope.kind = .function) (hx : env.kindOf x = some .globalImplicit) (hd : (x == ("__debug__" : Str)) = false) (e : nsIn K mainGlobals x = some (some v)) (h : Q v s) :
    wpAny M A (eval (.Name x pos) env) Q E s := Name_function_global hk hx (loadGlobal_global (env := env) (by rw [hg]; exact T.g.keeps F.keep) (mg_of X T.g e) h) hd
theorem nmB (F : Fr h₀ C s.heap m) (X : K.In h₀) (T : TopRead p loose mg mb h₀) (hg : env.globals = mainGlobals) (hb : env.builtins = builtinsNs) (hk : env.scope.kind = .function) (hx : env.kindOf x = some .globalImplicit) (hd : (x == ("__debug__" : Str)) = false)
    (e : nsIn K mainGlobals x = some none) (hv : bootBuiltins x = some v) (hn : x ≠ "__name__") (h : Q v s) :
    wpAny M A (eval (.Name x pos) env) Q E s :=
  Name_function_global hk hx (loadGlobal_builtin (env := env) (by rw [hg]; exact T.g.keeps F.keep) (mg_none_of X T.g e) (by rw [hb]; exact T.b.keeps F.keep) ((T.builtins x hn).trans hv) h) hd
end
theorem Keeps.intro' {s : Shared} {h' : Heap} {tk : Nat} (k : s.heap.StaysIn h') : Keeps s { s with heap := h', toks := tk } := ⟨h', tk, rfl, k⟩
end Mine
end

-- part St
section
open PySem PySem.W PySem.Calls PyProof.Rows PySem.Builtin PySem.Builtin.Str
set_option maxRecDepth 100000
namespace Mine
theorem str_ext {a b : Str} (h : a.cps.toList = b.cps.toList) : a = b := by
  cases a; cases b; simp at h; simp [h]
theorem str_len (l : List Nat) : Str.length ⟨l.toArray⟩ = l.length := by show l.toArray.size = _; simp
theorem join_cs (l : List Nat) : Txt.join "" (l.map fun c => (⟨#[c]⟩ : Str)) = ⟨l.toArray⟩ := by
  show glued _ _ = _
  rw [StrLaws.glued_eq_join]
  induction l with
  | nil => rfl
  | cons c r ih =>
    cases r with
    | nil => rfl
    | cons d r =>
      show (⟨#[c]⟩ : Str) ++ "" ++ Str.join "" ((d :: r).map fun c => (⟨#[c]⟩ : Str)) = _
      rw [ih]
      apply str_ext
      show (#[c] ++ (Str.ofString "").cps ++ (d :: r).toArray).toList = _
      rw [show (Str.ofString "").cps = #[] from by decide]
      simp
theorem str_app (a b : List Nat) : (⟨a.toArray⟩ : Str) ++ (⟨b.toArray⟩ : Str) = ⟨(a ++ b).toArray⟩ := by
  apply str_ext
  show (a.toArray ++ b.toArray).toList = _
  simp
theorem idx_hi (lo : Option Int) (len : Nat) {j : Int} (h : (len : Int) ≤ j) : strSliceIndices lo (some j) 1 len = strSliceIndices lo (some (len : Int)) 1 len := by
  have a1 : ¬ j < 0 := by omega
  have a2 : ¬ ((len : Int) < 0) := by omega
  have e1 : max (0 : Int) (min j (len : Int)) = len := by omega
  have e2 : max (0 : Int) (min (len : Int) (len : Int)) = len := by omega
  simp [strSliceIndices, a1, a2, e1]
theorem idx_lo (hi : Option Int) (len : Nat) {i : Int} (h : (len : Int) ≤ i) : strSliceIndices (some i) hi 1 len = strSliceIndices (some (len : Int)) hi 1 len := by
  have a1 : ¬ i < 0 := by omega
  have a2 : ¬ ((len : Int) < 0) := by omega
  have e1 : max (0 : Int) (min i (len : Int)) = len := by omega
  have e2 : max (0 : Int) (min (len : Int) (len : Int)) = len := by omega
  simp [strSliceIndices, a1, a2, e1]
theorem slice_hi (x : Str) (lo : Option Int) {j : Int} (h : (x.length : Int) ≤ j) : Txt.slice x lo (some j) = Txt.slice x lo (some (x.length : Int)) := by
  unfold Txt.slice
  rw [idx_hi lo x.length h]
theorem slice_lo (x : Str) (hi : Option Int) {i : Int} (h : (x.length : Int) ≤ i) : Txt.slice x (some i) hi = Txt.slice x (some (x.length : Int)) hi := by
  unfold Txt.slice
  rw [idx_lo hi x.length h]
theorem slice_from (l : List Nat) (p : Nat) : Txt.slice ⟨l.toArray⟩ (some (p : Int)) none = ⟨(l.drop p).toArray⟩ := by
  have hl := str_len l
  have key : ∀ q : Nat, q ≤ l.length → Txt.slice ⟨l.toArray⟩ (some (q : Int)) none = ⟨(l.drop q).toArray⟩ := fun q h => by
    show StrLaws.sliceText _ _ _ = _
    rw [StrLaws.sliceText_from ⟨by omega, by simp; omega⟩]
    apply str_ext
    show (l.drop (q : Int).toNat).take ((l.length : Int) - (q : Int)).toNat = l.drop q
    rw [show (q : Int).toNat = q from rfl, show ((l.length : Int) - (q : Int)).toNat = l.length - q by omega]
    exact List.take_of_length_le (by simp)
  by_cases h : p ≤ l.length
  · exact key p h
  · rw [slice_lo _ _ (by rw [hl]; omega), hl, key _ (Nat.le_refl _)]
    apply str_ext
    simp; omega
theorem slice_ft (l : List Nat) (i j : Nat) (h : i ≤ l.length) (hj : i ≤ j) : Txt.slice ⟨l.toArray⟩ (some (i : Int)) (some (j : Int)) = ⟨((l.drop i).take (j - i)).toArray⟩ := by
  have hl := str_len l
  have key : ∀ q : Nat, i ≤ q → q ≤ l.length → Txt.slice ⟨l.toArray⟩ (some (i : Int)) (some (q : Int)) = ⟨((l.drop i).take (q - i)).toArray⟩ := fun q h1 h2 => by
    show StrLaws.sliceText _ _ _ = _
    rw [StrLaws.sliceText_nat _ h1 (by rw [hl]; exact h2)]
  by_cases h2 : j ≤ l.length
  · exact key j hj h2
  · rw [slice_hi _ _ (by rw [hl]; omega), hl, key _ h (Nat.le_refl _)]
    apply str_ext
    show (l.drop i).take (l.length - i) = (l.drop i).take (j - i)
    rw [List.take_of_length_le (by simp), List.take_of_length_le (by simp; omega)]
theorem slice_to (l : List Nat) (p : Nat) : Txt.slice ⟨l.toArray⟩ none (some (p : Int)) = ⟨(l.take p).toArray⟩ := by
  have := slice_ft l 0 p (Nat.zero_le _) (Nat.zero_le _)
  rw [List.drop_zero, Nat.sub_zero] at this
  rw [← this]
  show StrLaws.sliceText _ _ _ = StrLaws.sliceText _ _ _
  unfold StrLaws.sliceText
  rw [StrLaws.sliceIdx_none_lo]
  rfl
end Mine
end

-- part La
section
open PySem PySem.W PySem.Calls PyProof.Rows
set_option Elab.async false
set_option maxRecDepth 100000
set_option maxHeartbeats 8000000
set_option pp.maxSteps 300
set_option pp.deepTerms false
namespace Mine
theorem warmLa : (∀ P, _root_.hd.heap_39 P = _root_.hd.heap_39 P) ∧ PySem.Challenge.rw_dj5002_01 = PySem.Challenge.rw_dj5002_01 := by
  k_fill
  exact ⟨fun _ => rfl, rfl⟩
local macro_rules | `(tactic| walk_at "look") => `(tactic| first | with_reducible assumption | exact upd_eq | (refine upd_ne (by decide) ?_; walk_at "look") | exact if_pos rfl | (refine Eq.trans (if_neg (by decide)) ?_; walk_at "look"))
local macro_rules | `(tactic| walk_at "eval Name") => `(tactic| (k_here; k_dflt (first
  | (refine' nmL ?F ?e ?a ?b ?d ?v ?_; (case F => k_asm); (case e => rfl); (case a => rfl); (case b => rfl); (case d => decide); (case v => walk_at "look"); k_whole)
  | (refine' nmC ?F ?a ?b ?c ?o ?d ?e ?_; (case F => k_asm); (case a => rfl); (case b => rfl); (case c => rfl); (case o => exact News.get (by k_asm) (by k_mem)); (case d => k_asm); (case e => decide); k_whole)
  | (refine' nmB ?F ?X ?T ?g ?bb ?a ?b ?d ?e ?v ?n ?_; (case F => k_asm); (case X => k_asm); (case T => k_asm); (case g => rfl); (case bb => rfl); (case a => rfl); (case b => rfl); (case d => decide); (case e => k_is); (case v => boot_fast); (case n => decide); k_whole)
  | (refine' nmK ?F ?X ?T ?g ?a ?b ?d ?e ?_; (case F => k_asm); (case X => k_asm); (case T => k_asm); (case g => rfl); (case a => rfl); (case b => rfl); (case d => decide); (case e => k_is); k_whole))))
local macro_rules | `(tactic| walk_at "loadName") => `(tactic| (k_here; k_dflt (refine' ldn ?F ?v ?_ ?a ?b; (case F => k_asm); (case a => rfl); (case b => rfl); (case v => walk_at "look"); k_whole)))
local macro_rules | `(tactic| walk_at "stop") => `(tactic| first
  | (with_reducible show InvPostN _ _ _ _ _ _ _ _ _)
  | (with_reducible show InvEndN _ _ _ _ _ _ _)
  | (with_reducible show wpAny _ _ (eval (Expr.ListComp _ _ _ _) _) _ _ _)
  | (with_reducible show wpAny _ _ (pyIter _) _ _ _)
  | (with_reducible show wpAny _ _ (exec (Stmt.For _ _ _ _ _) _) _ _ _)
  | (with_reducible show wpAny _ _ (exec (Stmt.While _ _ _ _) _) _ _ _)
  | (with_reducible show wpAny _ _ (call (Value.ref _) _ _) _ _ _)
  | (with_reducible show wpAny _ _ (call (Value.builtin "sorted") _ _) _ _ _)
  | (with_reducible show wpAny _ _ (call (Value.builtin "str.join") _ _) _ _ _)
  | (with_reducible show wpAny _ _ (subscriptTail _ _ (Value.str _ _) (Value.int _ _)) _ _ _)
  | (with_reducible show wpAny _ _ (compareOp CmpOp.NotIn _ (Value.ref _)) _ _ _))
local macro_rules | `(tactic| walk_at "steps") => `(tactic| repeat (first | (k_unfold; (try dsimp only)) | ((fail_if_success walk_at "stop"); walk1) | ((fail_if_success walk_at "stop"); dsimp only; (fail_if_success walk_at "stop"); walk1)))
local macro_rules | `(tactic| walk_at "rest") => `(tactic| (with_reducible show wpAny _ _ (execs _ _) _ _ _))
local macro_rules | `(tactic| walk_at "stmt") => `(tactic| repeat ((fail_if_success walk_at "rest"); first | (k_unfold; (try dsimp only)) | ((fail_if_success walk_at "stop"); walk1) | ((fail_if_success walk_at "stop"); dsimp only; (fail_if_success walk_at "stop"); walk1)))
local macro_rules | `(tactic| walk_at "one") => `(tactic| first | (k_unfold; (try dsimp only)) | ((fail_if_success walk_at "stop"); walk1) | ((fail_if_success walk_at "stop"); dsimp only; (fail_if_success walk_at "stop"); walk1))

def lawParts : List Stmt × Scope := match PySem.Challenge.pw_dj5002_01.main.body.reverse with
  | .FunctionDef _ _ b _ _ _ sc _ _ _ :: _ => (b, sc)
  | _ => ([], default)
def lawBody : List Stmt := lawParts.1
def lawScope : Scope := lawParts.2
/-- the law's own frame: its cells lie behind it -/
abbrev lawEnv (L fa : Addr) (cd : Value) : Env := envX "law" lawScope L fa cd
  [("word", L+1+1+1+1+1+1+1+1), ("less", L+1+1+1+1+1+1+1), ("places", L+1+1+1+1+1+1), ("kept", L+1+1+1+1+1), ("last", L+1+1+1+1), ("whole", L+1+1+1), ("letters", L+1+1), ("size", L+1)]

def letN (sz : Nat) : List Nat := (List.range sz).map (97 + ·)
def txtN (sz : Nat) (xs : List Int) : List Nat := xs.map fun x => 97 + x.natAbs % sz

theorem letters_is (k : Nat) : Txt.slice "abcd" none (some (2 + (k : Int).fmod 3)) = ⟨(letN (2 + k % 3)).toArray⟩ := by
  have e : (k : Int).fmod 3 = ((k % 3 : Nat) : Int) := by rw [Int.fmod_eq_emod_of_nonneg _ (by decide)]; omega
  rw [e]
  have h : k % 3 = 0 ∨ k % 3 = 1 ∨ k % 3 = 2 := by omega
  rcases h with h | h | h <;> rw [h] <;> decide +kernel

def FirstPost (g : Heap) (L : Addr) (m : Str → Option Value) (news : List (Addr × Obj)) (s : Shared) (f : Flow) (s' : Shared) : Prop :=
  f = Flow.next ∧ ∃ (k : Nat) (u : Tok) (h' : Heap) (tk : Nat), s' = { s with heap := h', toks := tk } ∧ Fr g L h' (fun y => if y = Str.ofString "first" then some (.int (k : Int) u) else m y) ∧ News g L h' news

theorem seg1 {w : World} {A : Around} {E : Value → Shared → Prop} {s : Shared} {g : Heap} {p : Program} {loose : List Str} {mg mb : Str → Option Value} {Q : Flow → Shared → Prop} {L fa : Addr} {cd : Value} {m : Str → Option Value} {o1 o2 o3 o4 o5 o6 o7 o8 : Obj} {l : Addr} {vs : List Value} {ns : List Int} (X : (hd.heap_39 w.params).In g) (T : TopRead p loose mg mb g) (hA : A.handled = none)
    (hl : g.IsList l vs.toArray) (hI : IntsAre vs ns) (hn : ns.length ≤ 63)
    (F : Fr g L s.heap m) (N : News g L s.heap [(L+1+1+1+1+1+1+1+1, o8), (L+1+1+1+1+1+1+1, o7), (L+1+1+1+1+1+1, o6), (L+1+1+1+1+1, o5), (L+1+1+1+1, o4), (L+1+1+1, o3), (L+1+1, o2), (L+1, o1)])
    (ms : m "script" = some (.ref l)) (d1 : o1.data = .cell none) (d2 : o2.data = .cell none)
    (hK : ∀ h' tk m' o1 o2 (sz : Nat) u1 u2, 2 ≤ sz → sz ≤ 4 → Fr g L h' m' → News g L h' [(L+1+1+1+1+1+1+1+1, o8), (L+1+1+1+1+1+1+1, o7), (L+1+1+1+1+1+1, o6), (L+1+1+1+1+1, o5), (L+1+1+1+1, o4), (L+1+1+1, o3), (L+1+1, o2), (L+1, o1)] → m' "script" = some (.ref l) → o1.data = .cell (some (.int (sz : Int) u1)) → o2.data = .cell (some (.str ⟨(letN sz).toArray⟩ u2)) →
      wpAny (model PG w) A (execs (lawBody.drop 3) (lawEnv L fa cd)) Q E { s with heap := h', toks := tk }) :
    wpAny (model PG w) A (execs (lawBody.drop 0) (lawEnv L fa cd)) Q E s := by
  have e1 : lawBody.drop 0 = _ :: _ := rfl
  have e2 : lawScope = Scope.mk _ _ _ _ _ := rfl
  unfold lawEnv
  rw [e1, e2]
  clear e1 e2
  refine wpAny_execs_cons (wpAny_mono (Q := FirstPost g L m [(L+1+1+1+1+1+1+1+1, o8), (L+1+1+1+1+1+1+1, o7), (L+1+1+1+1+1+1, o6), (L+1+1+1+1+1, o5), (L+1+1+1+1, o4), (L+1+1+1, o3), (L+1+1, o2), (L+1, o1)] s) (E := E) ?_ ?_ fun _ _ e => e)
  · cases ns with
    | nil =>
      walk_at "steps"
      exact ⟨rfl, 1, _, _, _, rfl, by k_asm, by k_asm⟩
    | cons n0 nr =>
      walk_at "steps"
      · exact ⟨rfl, 1, _, _, _, rfl, by k_asm, by k_asm⟩
      · walk_at "steps"
        have e : ((n0.natAbs : Nat) : Int) = if (n0 :: nr).getD (Int.toNat 0) 0 < 0 then -(n0 :: nr).getD (Int.toNat 0) 0 else (n0 :: nr).getD (Int.toNat 0) 0 := by
          show ((n0.natAbs : Nat) : Int) = if n0 < 0 then -n0 else n0
          split <;> omega
        (with_reducible rename Fr _ _ _ _ => F7)
        rw [← e] at F7
        exact ⟨rfl, n0.natAbs, _, _, _, rfl, F7, by k_asm⟩
  · rintro f s' ⟨rfl, k, u, h', tk, rfl, F1, N1⟩
    dsimp only
    refine wpAny_execs_cons ?_
    walk_at "stmt"
    (with_reducible rename (Obj.data _ = Data.cell (some (Value.int _ _))) => di')
    refine wpAny_execs_cons ?_
    walk_at "stmt"
    (with_reducible rename (Obj.data _ = Data.cell (some (Value.str _ _))) => dl')
    rw [letters_is] at dl'
    have hsz : 2 + (k : Int).fmod 3 = ((2 + k % 3 : Nat) : Int) := by rw [Int.fmod_eq_emod_of_nonneg _ (by decide)]; omega
    rw [hsz] at di'
    exact hK _ _ _ _ _ (2 + k % 3) _ _ (by omega) (by omega) (by k_asm) (by k_asm) (by walk_at "look") di' dl'
end Mine
end

-- part L2
section
open PySem PySem.W PySem.Calls PyProof.Rows
set_option Elab.async false
set_option maxRecDepth 100000
set_option maxHeartbeats 8000000
set_option pp.maxSteps 300
set_option pp.deepTerms false
namespace Mine
theorem warmL2 : (∀ P, _root_.hd.heap_39 P = _root_.hd.heap_39 P) ∧ PySem.Challenge.rw_dj5002_01 = PySem.Challenge.rw_dj5002_01 := by
  k_fill
  exact ⟨fun _ => rfl, rfl⟩
local macro_rules | `(tactic| walk_at "look") => `(tactic| first | with_reducible assumption | exact upd_eq | (refine upd_ne (by decide) ?_; walk_at "look") | exact if_pos rfl | (refine Eq.trans (if_neg (by decide)) ?_; walk_at "look"))
local macro_rules | `(tactic| walk_at "eval Name") => `(tactic| (k_here; k_dflt (first
  | (refine' nmL ?F ?e ?a ?b ?d ?v ?_; (case F => k_asm); (case e => rfl); (case a => rfl); (case b => rfl); (case d => decide); (case v => walk_at "look"); k_whole)
  | (refine' nmC ?F ?a ?b ?c ?o ?d ?e ?_; (case F => k_asm); (case a => rfl); (case b => rfl); (case c => rfl); (case o => exact News.get (by k_asm) (by k_mem)); (case d => k_asm); (case e => decide); k_whole)
  | (refine' nmB ?F ?X ?T ?g ?bb ?a ?b ?d ?e ?v ?n ?_; (case F => k_asm); (case X => k_asm); (case T => k_asm); (case g => rfl); (case bb => rfl); (case a => rfl); (case b => rfl); (case d => decide); (case e => k_is); (case v => boot_fast); (case n => decide); k_whole)
  | (refine' nmK ?F ?X ?T ?g ?a ?b ?d ?e ?_; (case F => k_asm); (case X => k_asm); (case T => k_asm); (case g => rfl); (case a => rfl); (case b => rfl); (case d => decide); (case e => k_is); k_whole))))
local macro_rules | `(tactic| walk_at "loadName") => `(tactic| (k_here; k_dflt (refine' ldn ?F ?v ?_ ?a ?b; (case F => k_asm); (case a => rfl); (case b => rfl); (case v => walk_at "look"); k_whole)))
local macro_rules | `(tactic| walk_at "stop") => `(tactic| first
  | (with_reducible show InvPostN _ _ _ _ _ _ _ _ _)
  | (with_reducible show InvEndN _ _ _ _ _ _ _)
  | (with_reducible show wpAny _ _ (eval (Expr.ListComp _ _ _ _) _) _ _ _)
  | (with_reducible show wpAny _ _ (pyIter _) _ _ _)
  | (with_reducible show wpAny _ _ (exec (Stmt.For _ _ _ _ _) _) _ _ _)
  | (with_reducible show wpAny _ _ (exec (Stmt.While _ _ _ _) _) _ _ _)
  | (with_reducible show wpAny _ _ (call (Value.ref _) _ _) _ _ _)
  | (with_reducible show wpAny _ _ (call (Value.builtin "sorted") _ _) _ _ _)
  | (with_reducible show wpAny _ _ (call (Value.builtin "str.join") _ _) _ _ _)
  | (with_reducible show wpAny _ _ (subscriptTail _ _ (Value.str _ _) (Value.int _ _)) _ _ _)
  | (with_reducible show wpAny _ _ (compareOp CmpOp.NotIn _ (Value.ref _)) _ _ _))
local macro_rules | `(tactic| walk_at "steps") => `(tactic| repeat (first | (k_unfold; (try dsimp only)) | ((fail_if_success walk_at "stop"); walk1) | ((fail_if_success walk_at "stop"); dsimp only; (fail_if_success walk_at "stop"); walk1)))
local macro_rules | `(tactic| walk_at "rest") => `(tactic| (with_reducible show wpAny _ _ (execs _ _) _ _ _))
local macro_rules | `(tactic| walk_at "stmt") => `(tactic| repeat ((fail_if_success walk_at "rest"); first | (k_unfold; (try dsimp only)) | ((fail_if_success walk_at "stop"); walk1) | ((fail_if_success walk_at "stop"); dsimp only; (fail_if_success walk_at "stop"); walk1)))
local macro_rules | `(tactic| walk_at "one") => `(tactic| first | (k_unfold; (try dsimp only)) | ((fail_if_success walk_at "stop"); walk1) | ((fail_if_success walk_at "stop"); dsimp only; (fail_if_success walk_at "stop"); walk1))

theorem txt_strs {sz : Nat} {xs : List Int} {ws vs4 : List Value} {ys : Array Value} (hI : IntsAre ws xs) (hlen : vs4.length = ws.toArray.size) (hP : ∀ (j : Nat) (v : Value), vs4[j]? = some v → ws.toArray[j]? = some v)
    (hF : Paired (fun v y => ∃ n t u, v = Value.int n t ∧ y = Value.str (CS (97 + n.natAbs % sz)) u) (vs4.filter fun _ => true) ys.toList) : StrsAre ys.toList ((txtN sz xs).map CS) := by
  have e : vs4 = ws := by
    apply List.ext_getElem?
    intro j
    cases h : vs4[j]? with
    | some v => have := hP j v h; rw [List.getElem?_toArray] at this; exact this.symm
    | none =>
      have h1 := List.getElem?_eq_none_iff.mp h
      rw [hlen, List.size_toArray] at h1
      exact (List.getElem?_eq_none h1).symm
  subst e
  rw [List.filter_eq_self.mpr (fun _ _ => rfl)] at hF
  have key : ∀ (vs : List Value) (xs : List Int), IntsAre vs xs → ∀ zs : List Value, Paired (fun v y => ∃ n t u, v = Value.int n t ∧ y = Value.str (CS (97 + n.natAbs % sz)) u) vs zs → StrsAre zs ((txtN sz xs).map CS) := by
    intro vs xs h
    induction h with
    | nil => intro zs hz; cases hz; exact .nil
    | cons a t r ih =>
      intro zs hz
      cases hz with
      | cons h1 h2 =>
        obtain ⟨n, t', u, e1, rfl⟩ := h1
        cases e1
        exact .cons _ _ (ih _ h2)
  exact key _ _ hI _ hF

theorem sum_cs (l : List Nat) : ((l.map CS).map Str.length).sum = l.length := by
  induction l with
  | nil => rfl
  | cons c r ih => simp only [List.map_cons, List.sum_cons, ih, List.length_cons]; show 1 + _ = _; omega

theorem seg2 {w : World} {A : Around} {E : Value → Shared → Prop} {s : Shared} {g : Heap} {p : Program} {loose : List Str} {mg mb : Str → Option Value} {Q : Flow → Shared → Prop} {L fa : Addr} {cd : Value} {m : Str → Option Value} {o1 o2 o3 o4 o5 o6 o7 o8 : Obj} {l : Addr} {vs : List Value} {ns : List Int} {sz : Nat} {u1 u2 : Tok} (X : (hd.heap_39 w.params).In g) (T : TopRead p loose mg mb g) (hA : A.handled = none)
    (hl : g.IsList l vs.toArray) (hI : IntsAre vs ns) (hn : ns.length ≤ 63)
    (F : Fr g L s.heap m) (N : News g L s.heap [(L+1+1+1+1+1+1+1+1, o8), (L+1+1+1+1+1+1+1, o7), (L+1+1+1+1+1+1, o6), (L+1+1+1+1+1, o5), (L+1+1+1+1, o4), (L+1+1+1, o3), (L+1+1, o2), (L+1, o1)]) (hs2 : 2 ≤ sz) (hs4 : sz ≤ 4)
    (ms : m "script" = some (.ref l)) (d1 : o1.data = .cell (some (.int (sz : Int) u1))) (d2 : o2.data = .cell (some (.str ⟨(letN sz).toArray⟩ u2)))
    (hK : ∀ h' tk m' (xs : List Int) u3, 4 ≤ xs.length → xs.length ≤ 16 → Fr g L h' m' → News g L h' [(L+1+1+1+1+1+1+1+1, o8), (L+1+1+1+1+1+1+1, o7), (L+1+1+1+1+1+1, o6), (L+1+1+1+1+1, o5), (L+1+1+1+1, o4), (L+1+1+1, o3), (L+1+1, o2), (L+1, o1)] → m' "script" = some (.ref l) → m' "text" = some (.str ⟨(txtN sz xs).toArray⟩ u3) →
      wpAny (model PG w) A (execs (lawBody.drop 4) (lawEnv L fa cd)) Q E { s with heap := h', toks := tk }) :
    wpAny (model PG w) A (execs (lawBody.drop 3) (lawEnv L fa cd)) Q E s := by
  have e1 : lawBody.drop 3 = _ :: _ := rfl
  have e2 : lawScope = Scope.mk _ _ _ _ _ := rfl
  unfold lawEnv
  rw [e1, e2]
  clear e1 e2
  refine wpAny_execs_cons ?_
  walk_at "stmt"
  have hxs : (List.take (min 13 ns.length - 1) (List.drop 1 ns) ++ [0, 1, 1, 0]).length ≤ 16 := by simp; omega
  have hxs4 : 4 ≤ (List.take (min 13 ns.length - 1) (List.drop 1 ns) ++ [0, 1, 1, 0]).length := by simp
  k_unmd
  k_fold
  refine wpAny_ListComp_free (fun _ => true) (fun v y => ∃ n t u, v = .int n t ∧ y = .str (CS (97 + n.natAbs % sz)) u) (by with_unfolding_all rfl) (by decide) rfl (by decide) rfl ?_
  walk_at "stmt"
  (with_reducible rename Fr _ _ _ _ => F3)
  (with_reducible rename News _ _ _ _ => N3)
  (with_reducible rename IntsAre _ _ => hI3)
  generalize List.take (min 13 ns.length - 1) (List.drop 1 ns) ++ [0, 1, 1, 0] = xs at hxs hxs4 hI3
  have hwl := hI3.length
  have X3 := X.keeps F3.keep
  have T3 := T.keeps F3.keep
  refine' lcL hA ?kl ?ks ?kF ?kN ?kT ?kD
  case kl => exact ⟨_, (N3 _ (.head _)).1, rfl, _, rfl⟩
  case kF => exact F3
  case kN => exact N3
  case ks => rw [sizeLine_eq, List.size_toArray]; omega
  case kT =>
    refine lc_plain fun C i v s₃ m₃ E' hi hP F4 hm => ?_
    obtain ⟨x, hx⟩ : ∃ x, xs[i]? = some x := ⟨xs[i]'(by rw [List.size_toArray] at hi; omega), by simp⟩
    obtain ⟨tx, hx2⟩ := hI3.get i x hx
    have hv : v = .int x tx := by
      have : _ = some v := hP
      rw [List.getElem?_toArray, hx2] at this
      exact (Option.some.inj this).symm
    subst hv
    dsimp only at F4
    walk_at "steps"
    have hab : (if x < 0 then -x else x) = ((x.natAbs : Nat) : Int) := by split <;> omega
    rw [hab]
    have hfm : ((x.natAbs : Nat) : Int).fmod (sz : Int) = ((x.natAbs % sz : Nat) : Int) := by rw [Int.fmod_eq_emod_of_nonneg _ (by omega)]; omega
    rw [hfm]
    have hlt := Nat.mod_lt x.natAbs (show 0 < sz by omega)
    refine item_cs (c := 97 + x.natAbs % sz) (by omega) (by omega) (by show (letN sz).toArray[x.natAbs % sz]? = _; simp [letN, hlt]) ?_
    exact ⟨⟨x, tx, _, rfl, rfl⟩, Keeps.intro' fun _ _ e => e⟩
  case kD =>
    intro D h4 tk4 k4 ys vs4 F4 N4 hD4 hlen4 hP4 hF4 keep4
    walk_at "stmt"
    have hS := txt_strs hI3 hlen4 hP4 hF4
    refine join_list (ys := (txtN sz xs).map CS) ⟨_, (N4 _ (.head _)).1, rfl, _, rfl⟩ hS ?_ fun tj kj => ?_
    · rw [sum_cs]
      have : (txtN sz xs).length = xs.length := by simp [txtN]
      have h0 : Str.length "" = 0 := by decide
      rw [h0, this]; omega
    rw [join_cs]
    have N5 : News g L h4 [(L+1+1+1+1+1+1+1+1, o8), (L+1+1+1+1+1+1+1, o7), (L+1+1+1+1+1+1, o6), (L+1+1+1+1+1, o5), (L+1+1+1+1, o4), (L+1+1+1, o3), (L+1+1, o2), (L+1, o1)] := fun p hp => N4 p (.tail _ (.tail _ (.tail _ (.tail _ (.tail _ hp)))))
    clear N4 hD4
    walk_at "stmt"
    exact hK _ _ _ xs _ hxs4 hxs (by k_asm) (by k_asm) (by walk_at "look") (by walk_at "look")
end Mine
end

-- part Lt
section
open PySem PySem.Calls PyProof.Rows
open AutoSeq1 (wpAny_loadPart')
open MeetsSeq MeetsSeq3
set_option maxRecDepth 100000
set_option maxHeartbeats 4000000
namespace Mine
section
variable {prog : Program} {w : World} {A : Around} {E : Value → Shared → Prop} {R : Result → Shared → Prop} {s : Shared} {l b : Addr} {n n2 : Nat} {dd dd2 : Option Addr} {sl sl2 : Array (Option Value)} {x y : Str} {i j : Int} {t u t' u' : Tok}

theorem lt_loop2 {vs ws : Array Value} (hv : vs.size = 2) (hw : ws.size = 2) :
    Meets (Builtin.«list.__eq__.loop» ⟨[.ref l, .ref b, rawInt (2 : Nat), rawInt 0], []⟩)
      (fun A R s => s.heap.get? l = some { cls := .type "list", dict := dd, data := .seq vs n, slots := sl } ∧ s.heap.get? b = some { cls := .type "list", dict := dd2, data := .seq ws n2, slots := sl2 } ∧
        R (.ok (.ret (.bool false))) s) := by
  intro prog w A R s h
  obtain ⟨hp, g, d, tk, os⟩ := s; obtain ⟨hl, hb, h⟩ := h
  wp_walk using wpAny_loadPart' hl, wpAny_loadPart' hb
  have h1 : vs[((2 : Nat) : Int).toNat]? = none := by rw [Array.getElem?_eq_none_iff]; show vs.size ≤ 2; omega
  have h2 : ws[((2 : Nat) : Int).toNat]? = none := by rw [Array.getElem?_eq_none_iff]; show ws.size ≤ 2; omega
  rw [h1, h2]
  wp_walk using wpAny_loadPart' hl, wpAny_loadPart' hb
  show R (.ok (.ret (.bool (decide (vs.size < ws.size))))) _
  rw [hv, hw]
  simpa using h

theorem lt_loop1 {vs ws : Array Value} (hv : vs.size = 2) (hw : ws.size = 2) (v1 : vs[1]? = some (.int i u)) (w1 : ws[1]? = some (.int j u')) (hij : i = j) :
    Meets (Builtin.«list.__eq__.loop» ⟨[.ref l, .ref b, rawInt (1 : Nat), rawInt 0], []⟩)
      (fun A R s => s.heap.get? l = some { cls := .type "list", dict := dd, data := .seq vs n, slots := sl } ∧ s.heap.get? b = some { cls := .type "list", dict := dd2, data := .seq ws n2, slots := sl2 } ∧
        R (.ok (.ret (.bool false))) s) := by
  intro prog w A R s h
  obtain ⟨hp, g, d, tk, os⟩ := s; obtain ⟨hl, hb, h⟩ := h
  wp_walk using wpAny_loadPart' hl, wpAny_loadPart' hb
  have h1 : vs[((1 : Nat) : Int).toNat]? = some (Value.int i u) := v1
  have h2 : ws[((1 : Nat) : Int).toNat]? = some (Value.int j u') := w1
  rw [h1, h2]
  refine wpAny_bind (wpAny_eqBool_int ?_)
  rw [show (i == j) = true from beq_iff_eq.mpr hij]
  wp_walk
  exact ⟨plainId_quiet plain_eq_loop _, codeAny_builtin entry_eq_loop (by
    rw [Around.under_plainId plain_eq_loop _]
    exact lt_loop2 hv hw prog w A R _ ⟨hl, hb, h⟩)⟩

theorem lt_loop0 {vs ws : Array Value} (hv : vs.size = 2) (hw : ws.size = 2) (v0 : vs[0]? = some (.str x t)) (w0 : ws[0]? = some (.str y t')) (v1 : vs[1]? = some (.int i u)) (w1 : ws[1]? = some (.int j u')) (hxy : x = y → i = j) :
    Meets (Builtin.«list.__eq__.loop» ⟨[.ref l, .ref b, rawInt (0 : Nat), rawInt 0], []⟩)
      (fun A R s => s.heap.get? l = some { cls := .type "list", dict := dd, data := .seq vs n, slots := sl } ∧ s.heap.get? b = some { cls := .type "list", dict := dd2, data := .seq ws n2, slots := sl2 } ∧
        R (.ok (.ret (.bool (decide (x.cps.toList < y.cps.toList))))) s) := by
  intro prog w A R s h
  obtain ⟨hp, g, d, tk, os⟩ := s; obtain ⟨hl, hb, h⟩ := h
  wp_walk using wpAny_loadPart' hl, wpAny_loadPart' hb
  have h1 : vs[((0 : Nat) : Int).toNat]? = some (Value.str x t) := v0
  have h2 : ws[((0 : Nat) : Int).toNat]? = some (Value.str y t') := w0
  rw [h1, h2]
  refine wpAny_bind (wpAny_eqBool_str ?_)
  by_cases hx : x = y
  · rw [decide_eq_true hx]
    have hlt : decide (x.cps.toList < y.cps.toList) = false := by subst hx; simp
    rw [hlt] at h
    wp_walk
    exact ⟨plainId_quiet plain_eq_loop _, codeAny_builtin entry_eq_loop (by
      rw [Around.under_plainId plain_eq_loop _]
      exact lt_loop1 hv hw v1 w1 (hxy hx) prog w A R _ ⟨hl, hb, h⟩)⟩
  · rw [decide_eq_false hx]
    wp_walk using wpAny_loadPart' hl, wpAny_loadPart' hb
    rw [h1, h2]
    dsimp only
    refine wpAny_bind (PyProof.Rows.lt_str ?_)
    exact wpAny_pure h

theorem lt_tree {vs ws : Array Value} (hv : vs.size = 2) (hw : ws.size = 2) (v0 : vs[0]? = some (.str x t)) (w0 : ws[0]? = some (.str y t')) (v1 : vs[1]? = some (.int i u)) (w1 : ws[1]? = some (.int j u')) (hxy : x = y → i = j) :
    Meets (Builtin.«list.__lt__» ⟨[.ref l, .ref b], []⟩)
      (fun A R s => s.heap.get? l = some { cls := .type "list", dict := dd, data := .seq vs n, slots := sl } ∧ s.heap.get? b = some { cls := .type "list", dict := dd2, data := .seq ws n2, slots := sl2 } ∧
        R (.ok (.ret (.bool (decide (x.cps.toList < y.cps.toList))))) s) := by
  intro prog w A R s h
  obtain ⟨hp, g, d, tk, os⟩ := s; obtain ⟨hl, hb, h⟩ := h
  have f3 := AutoSeq1.sub_list_list
  wp_walk using wpAny_loadPart' hl, wpAny_loadPart' hb
  exact ⟨plainId_quiet plain_eq_loop _, codeAny_builtin entry_eq_loop (by
    rw [Around.under_plainId plain_eq_loop _]
    exact lt_loop0 hv hw v0 w0 v1 w1 hxy prog w A R _ ⟨hl, hb, h⟩)⟩

/-- how sort compares two pairs of a text and a number -/
theorem key_lt {Q : Bool → Shared → Prop} (hu : A.units < cLine) (hxy : x = y → i = j) (hl : s.heap.IsList l #[.str x t, .int i u]) (hb : s.heap.IsList b #[.str y t', .int j u'])
    (h : Q (decide (x.cps.toList < y.cps.toList)) s) : wpAny (model prog w) A (keyLt' oneType' (.ref l) (.ref b)) Q E s := by
  obtain ⟨ol, hl1, hl2, nl, hl3⟩ := hl
  obtain ⟨ob, hb1, hb2, nb, hb3⟩ := hb
  rw [keyLt'_oneType, oneLt'_eq]
  simp only [if_true]
  have hT : s.TypeIs (.ref l) "list" := ⟨ol, hl1, hl2⟩
  obtain ⟨oc, od, odt, osl⟩ := ol
  obtain ⟨bc, bd, bdt, bsl⟩ := ob
  simp only at hl2 hl3 hb2 hb3
  subst hl2 hl3 hb2 hb3
  refine wpAny_bind (wpAny_cRoomFor hu (wpAny_bind (wpAny_callSpecialIfBound?_slot hT F.slot_list_lt (call_meets F.slot_list_lt hT F.entry_list_lt (F.args_list_lt_2 _ _)
    (lt_tree (vs := #[.str x t, .int i u]) (ws := #[.str y t', .int j u']) rfl rfl rfl rfl rfl rfl hxy) ⟨hl1, hb1, ?_⟩))))
  exact wpAny_truthy_bool h
end
end Mine
end

-- part So
section
open PySem PySem.W PySem.Calls PyProof.Rows
set_option maxRecDepth 100000
set_option maxHeartbeats 4000000
namespace Mine

def prun {α : Type} (lt : Nat → Nat → Bool) (n : Nat) : KasT α → (α → Prop) → Prop
  | .ret a, P => P a
  | .ask i j k, P => i < n ∧ j < n ∧ prun lt n (k (lt i j)) P
theorem prun_bind {α β : Type} {lt : Nat → Nat → Bool} {n : Nat} {f : α → KasT β} {P : β → Prop} : ∀ t : KasT α, prun lt n t (fun a => prun lt n (f a) P) → prun lt n (t.bind f) P
  | .ret _, h => h
  | .ask i j k, h => ⟨h.1, h.2.1, prun_bind (k (lt i j)) h.2.2⟩
theorem prun_mono {α : Type} {lt : Nat → Nat → Bool} {n : Nat} {P P' : α → Prop} (hp : ∀ a, P a → P' a) : ∀ t : KasT α, prun lt n t P → prun lt n t P'
  | .ret a, h => hp a h
  | .ask i j k, h => ⟨h.1, h.2.1, prun_mono hp (k (lt i j)) h.2.2⟩
theorem prun_wp {α : Type} {lt : Nat → Nat → Bool} {n : Nat} {cmp : Nat → Nat → (Bool → Shared → Prop) → Shared → Prop} {s : Shared} {P : α → Prop} {Q : α → Shared → Prop}
    (hc : ∀ i j C, i < n → j < n → C (lt i j) s → cmp i j C s) (hq : ∀ a, P a → Q a s) : ∀ t : KasT α, prun lt n t P → t.kasWp cmp Q s
  | .ret a, h => hq a h
  | .ask i j k, h => hc i j _ h.1 h.2.1 (prun_wp hc hq (k (lt i j)) h.2.2)

/-- an order on the places -/
structure Ord (lt : Nat → Nat → Bool) (n : Nat) : Prop where
  trans : ∀ a b c, a < n → b < n → c < n → lt a b = true → lt b c = true → lt a c = true
  total : ∀ a b, a < n → b < n → a ≠ b → lt a b = false → lt b a = true
  asymm : ∀ a b, a < n → b < n → lt a b = true → lt b a = false

section
variable {lt : Nat → Nat → Bool} {n : Nat}
structure PB (n : Nat) (p : Array Nat) : Prop where
  size : p.size = n
  perm : p.toList.Perm (List.range n)
abbrev gt (p : Array Nat) (i : Nat) : Nat := p.getD i 0
theorem PB.inb {p : Array Nat} (h : PB n p) {i : Nat} (hi : i < n) : gt p i < n := by
  have h1 : i < p.size := h.size ▸ hi
  have h2 : gt p i = p[i] := by simp [gt, Array.getD, h1]
  rw [h2]
  have : p[i] ∈ p.toList := by simp
  exact List.mem_range.mp (h.perm.mem_iff.mp this)
theorem PB.inj {p : Array Nat} (h : PB n p) {i j : Nat} (hi : i < n) (hj : j < n) (hij : i ≠ j) : gt p i ≠ gt p j := by
  have h1 : i < p.size := h.size ▸ hi
  have h2 : j < p.size := h.size ▸ hj
  have e1 : gt p i = p.toList[i]'(by simpa using h1) := by simp [gt, Array.getD, h1]
  have e2 : gt p j = p.toList[j]'(by simpa using h2) := by simp [gt, Array.getD, h2]
  have hnd : p.toList.Nodup := h.perm.nodup_iff.mpr List.nodup_range
  rw [e1, e2]
  intro e
  have hp := List.pairwise_iff_getElem.mp hnd
  rcases Nat.lt_or_gt_of_ne hij with q | q
  · exact hp i j _ _ q e
  · exact hp j i _ _ q e.symm
def Srt (lt : Nat → Nat → Bool) (p : Array Nat) (k : Nat) : Prop := ∀ i j, i < j → j < k → lt (gt p i) (gt p j) = true
def Dsc (lt : Nat → Nat → Bool) (p : Array Nat) (k : Nat) : Prop := ∀ i j, i < j → j < k → lt (gt p j) (gt p i) = true

theorem asc_ok (O : Ord lt n) {p : Array Nat} (B : PB n p) : ∀ (f k : Nat), 1 ≤ k → k + f ≤ n → Srt lt p k → prun lt n (kas_asc p f k) fun m => k ≤ m ∧ m ≤ k + f ∧ Srt lt p m ∧ (m < k + f → lt (gt p m) (gt p (m - 1)) = true)
  | 0, k, h1, hk, hs => ⟨Nat.le_refl _, Nat.le_refl _, hs, fun h => absurd h (Nat.lt_irrefl _)⟩
  | f + 1, k, h1, hk, hs => by
    refine ⟨B.inb (by omega), B.inb (by omega), ?_⟩
    cases hc : lt (p.getD k 0) (p.getD (k - 1) 0) with
    | true => exact ⟨Nat.le_refl _, by omega, hs, fun _ => hc⟩
    | false =>
      have hup : lt (gt p (k - 1)) (gt p k) = true := O.total _ _ (B.inb (by omega)) (B.inb (by omega)) (B.inj (by omega) (by omega) (by omega)) hc
      have hs' : Srt lt p (k + 1) := by
        intro i j hij hj
        by_cases hjk : j < k
        · exact hs i j hij hjk
        · obtain rfl : j = k := by omega
          by_cases hi : i = j - 1
          · rw [hi]; exact hup
          · exact O.trans _ (gt p (j - 1)) _ (B.inb (by omega)) (B.inb (by omega)) (B.inb (by omega)) (hs i (j - 1) (by omega) (by omega)) hup
      simp only [Bool.false_eq_true, if_false]
      exact prun_mono (fun m h => ⟨by omega, by omega, h.2.2.1, fun q => h.2.2.2 (by omega)⟩) _ (asc_ok O B f (k + 1) (by omega) (by omega) hs')

theorem desc_ok (O : Ord lt n) {p : Array Nat} (B : PB n p) : ∀ (f k : Nat), 1 ≤ k → k + f ≤ n → Dsc lt p k → prun lt n (kas_desc f p k 0) fun r => r.1 = p ∧ r.2.2 = 0 ∧ k ≤ r.2.1 ∧ r.2.1 ≤ k + f ∧ Dsc lt p r.2.1
  | 0, k, h1, hk, hs => ⟨rfl, rfl, Nat.le_refl k, Nat.le_refl k, hs⟩
  | f + 1, k, h1, hk, hs => by
    refine ⟨B.inb (by omega), B.inb (by omega), ?_⟩
    cases hc : lt (p.getD k 0) (p.getD (k - 1) 0) with
    | true =>
      have hs' : Dsc lt p (k + 1) := by
        intro i j hij hj
        by_cases hjk : j < k
        · exact hs i j hij hjk
        · obtain rfl : j = k := by omega
          by_cases hi : i = j - 1
          · rw [hi]; exact hc
          · exact O.trans _ (gt p (j - 1)) _ (B.inb (by omega)) (B.inb (by omega)) (B.inb (by omega)) hc (hs i (j - 1) (by omega) (by omega))
      simp only [if_true, show ¬ (0 : Nat) > 0 by omega, if_false]
      exact prun_mono (fun m h => ⟨h.1, h.2.1, by omega, by omega, h.2.2.2.2⟩) _ (desc_ok O B f (k + 1) (by omega) (by omega) hs')
    | false =>
      have hup : lt (gt p (k - 1)) (gt p k) = true := O.total _ _ (B.inb (by omega)) (B.inb (by omega)) (B.inj (by omega) (by omega) (by omega)) hc
      simp only [Bool.false_eq_true, if_false]
      refine ⟨B.inb (by omega), B.inb (by omega), ?_⟩
      rw [show lt (p.getD (k - 1) 0) (p.getD k 0) = true from hup]
      simp only [if_true]
      exact ⟨rfl, rfl, Nat.le_refl k, Nat.le_add_right k (f + 1), hs⟩

theorem gt_def {p : Array Nat} (i : Nat) : gt p i = (p[i]?).getD 0 := by
  unfold gt; simp [Array.getD_eq_getD_getElem?]
theorem rev_get {p : Array Nat} {k : Nat} (hk : k ≤ p.size) (i : Nat) : gt (kas_rev p 0 k) i = if i < k then gt p (k - 1 - i) else gt p i := by
  have e := getElem?_mirror_all (xs := p) (i := 0) (j := k) hk i
  rw [gt_def, gt_def, gt_def]
  show ((mirror p 0 k ((k - 0) / 2))[i]?).getD 0 = _
  rw [e]
  by_cases hi : i < k
  · rw [if_pos hi, if_pos ⟨Nat.zero_le _, hi⟩, Nat.zero_add]
  · rw [if_neg hi, if_neg (fun h => hi h.2)]
theorem rev_pb {p : Array Nat} (B : PB n p) (k : Nat) : PB n (kas_rev p 0 k) :=
  ⟨(mirror_size _ _ _ _).trans B.size, (Array.perm_iff_toList_perm.mp (mirror_perm p 0 k ((k - 0) / 2))).trans B.perm⟩
theorem rev_srt {p : Array Nat} (B : PB n p) {k : Nat} (hk : k ≤ n) (h : Dsc lt p k) : Srt lt (kas_rev p 0 k) k := by
  intro i j hij hj
  rw [rev_get (B.size.symm ▸ hk), rev_get (B.size.symm ▸ hk), if_pos (by omega), if_pos hj]
  exact h _ _ (by omega) (by omega)

theorem tail3_ok (O : Ord lt n) {p : Array Nat} (B : PB n p) {k : Nat} (h1 : 1 ≤ k) (hk : k ≤ n) (h : Dsc lt p k) : prun lt n (kas_tail3 k n p) fun r => PB n r.2 ∧ 1 ≤ r.1 ∧ r.1 ≤ n ∧ Srt lt r.2 r.1 := by
  unfold kas_tail3
  exact prun_bind _ (prun_mono (fun m hm => ⟨rev_pb B k, by omega, by omega, hm.2.2.1⟩) _ (asc_ok O (rev_pb B k) (n - k) k h1 (by omega) (rev_srt B hk h)))

theorem count_ok (O : Ord lt n) {p : Array Nat} (B : PB n p) (hn : 1 ≤ n) : prun lt n (kas_count n p) fun r => PB n r.2 ∧ 1 ≤ r.1 ∧ r.1 ≤ n ∧ Srt lt r.2 r.1 := by
  unfold kas_count
  refine prun_bind _ (prun_mono (fun m hm => ?_) _ (asc_ok O B (n - 1) 1 (by omega) (by omega) (fun i j _ _ => by omega)))
  obtain ⟨a1, a2, a3, a4⟩ := hm
  by_cases e : m = n
  · rw [if_pos (beq_iff_eq.mpr e)]
    exact ⟨B, a1, by omega, a3⟩
  · rw [if_neg (by simpa using e)]
    by_cases g : m > 1
    · rw [if_pos g]
      refine ⟨B.inb (by omega), B.inb (by omega), ?_⟩
      have : lt (p.getD 0 0) (p.getD (m - 1) 0) = true := a3 0 (m - 1) (by omega) (by omega)
      rw [this]
      simp only [if_true]
      exact ⟨B, a1, by show m ≤ n; omega, a3⟩
    · rw [if_neg g]
      obtain rfl : m = 1 := by omega
      unfold kas_descPart
      have d2 : Dsc lt p 2 := by
        intro i j hij hj
        obtain rfl : i = 0 := by omega
        obtain rfl : j = 1 := by omega
        exact a4 (by omega)
      refine prun_bind _ (prun_mono (fun r hr => ?_) _ (desc_ok O B (n - (1 + 1)) (1 + 1) (by omega) (by omega) d2))
      obtain ⟨b1, b2, b3, b4, b5⟩ := hr
      obtain ⟨r1, r2, r3⟩ := r
      dsimp only at b1 b2 b3 b4 b5 ⊢
      subst b1 b2
      rw [if_neg (by omega)]
      exact tail3_ok O B (by omega) (by omega) b5

theorem place_ok (O : Ord lt n) {p : Array Nat} (B : PB n p) {k : Nat} (hk : k < n) (hs : Srt lt p k) : ∀ (f l r : Nat), l ≤ r → r ≤ k → r - l ≤ f → (∀ i, i < l → lt (gt p i) (gt p k) = true) → (∀ i, r ≤ i → i < k → lt (gt p k) (gt p i) = true) →
    prun lt n (kas_place p k f l r) fun m => m ≤ k ∧ (∀ i, i < m → lt (gt p i) (gt p k) = true) ∧ (∀ i, m ≤ i → i < k → lt (gt p k) (gt p i) = true)
  | 0, l, r, h1, h2, h3, hl, hr => ⟨by omega, hl, fun i a b => hr i (by omega) b⟩
  | f + 1, l, r, h1, h2, h3, hl, hr => by
    unfold kas_place
    by_cases e : l ≥ r
    · rw [if_pos e]
      exact ⟨by omega, hl, fun i a b => hr i (by omega) b⟩
    · rw [if_neg e]
      refine ⟨B.inb hk, B.inb (by omega), ?_⟩
      have hm : (l + r) / 2 < k := by omega
      cases hc : lt (p.getD k 0) (p.getD ((l + r) / 2) 0) with
      | true =>
        simp only [if_true]
        refine place_ok O B hk hs f l ((l + r) / 2) (by omega) (by omega) (by omega) hl fun i a b => ?_
        by_cases q : i = (l + r) / 2
        · rw [q]; exact hc
        · exact O.trans _ (gt p ((l + r) / 2)) _ (B.inb hk) (B.inb (by omega)) (B.inb (by omega)) hc (hs _ _ (by omega) b)
      | false =>
        simp only [Bool.false_eq_true, if_false]
        have hup : lt (gt p ((l + r) / 2)) (gt p k) = true := O.total _ _ (B.inb hk) (B.inb (by omega)) (B.inj hk (by omega) (by omega)) hc
        refine place_ok O B hk hs f ((l + r) / 2 + 1) r (by omega) (by omega) (by omega) (fun i a => ?_) hr
        by_cases q : i = (l + r) / 2
        · rw [q]; exact hup
        · exact O.trans _ (gt p ((l + r) / 2)) _ (B.inb (by omega)) (B.inb (by omega)) (B.inb hk) (hs _ _ (by omega) hm) hup

theorem bub_get {p : Array Nat} {k l : Nat} (hk : k < p.size) (hl : l ≤ k) (i : Nat) : gt (bubble p k (k - l)) i = if i = l then gt p k else if l < i ∧ i ≤ k then gt p (i - 1) else gt p i := by
  have e := getElem?_bubble (xs := p) hk (k - l) (by omega) i
  rw [gt_def, gt_def (p := p) k, gt_def (p := p) (i - 1), gt_def (p := p) i, e, show k - (k - l) = l by omega]
  repeat' split
  all_goals rfl

theorem bin_ok (O : Ord lt n) : ∀ (f k : Nat) (p : Array Nat), PB n p → k + f = n → Srt lt p k → prun lt n (kas_bin f p k) fun p' => PB n p' ∧ Srt lt p' n
  | 0, k, p, B, hk, hs => ⟨B, by rw [← hk]; exact hs⟩
  | f + 1, k, p, B, hk, hs => by
    unfold kas_bin
    refine prun_bind _ (prun_mono (fun m hm => ?_) _ (place_ok O B (by omega) hs k 0 k (by omega) (by omega) (by omega) (fun i h => by omega) (fun i a b => by omega)))
    obtain ⟨a1, a2, a3⟩ := hm
    refine bin_ok O f (k + 1) _ ⟨(bubble_size _ _ _).trans B.size, (Array.perm_iff_toList_perm.mp (bubble_perm p k (k - m))).trans B.perm⟩ (by omega) ?_
    intro i j hij hj
    have hks : k < p.size := by rw [B.size]; omega
    rw [bub_get hks a1, bub_get hks a1]
    by_cases e1 : i = m
    · rw [if_pos e1, if_neg (by omega), if_pos (by omega)]
      exact a3 _ (by omega) (by omega)
    · rw [if_neg e1]
      by_cases e2 : j = m
      · rw [if_pos e2, if_neg (by omega)]
        exact a2 _ (by omega)
      · rw [if_neg e2]
        by_cases e3 : m < i
        · rw [if_pos (by omega), if_pos (by omega)]
          exact hs _ _ (by omega) (by omega)
        · rw [if_neg (by omega)]
          by_cases e4 : m < j
          · rw [if_pos (by omega)]
            exact hs _ _ (by omega) (by omega)
          · rw [if_neg (by omega)]
            exact hs _ _ (by omega) (by omega)

theorem sort_ok (O : Ord lt n) (hn : 1 ≤ n) : prun lt n (kas_sort n) fun p => PB n p ∧ Srt lt p n := by
  unfold kas_sort
  refine prun_bind _ (prun_mono (fun r hr => ?_) _ (count_ok O ⟨by simp, by simp⟩ hn))
  obtain ⟨b1, b2, b3, b4⟩ := hr
  by_cases e : r.1 < n
  · rw [if_pos e, show max r.1 1 = r.1 by omega]
    exact bin_ok O _ _ _ b1 (by omega) b4
  · rw [if_neg e]
    exact ⟨b1, by rw [show n = r.1 by omega]; exact b4⟩
end
end Mine
end

-- part Sq
section
open PySem PySem.W PySem.Calls PyProof.Rows
set_option maxRecDepth 100000
set_option maxHeartbeats 4000000
namespace Mine
theorem ord_key {key : Nat → List Nat} {n : Nat} (hk : ∀ i j, i < n → j < n → key i = key j → i = j) : Ord (fun i j => decide (key i < key j)) n where
  trans := fun a b c _ _ _ h1 h2 => decide_eq_true (List.lt_trans (of_decide_eq_true h1) (of_decide_eq_true h2))
  asymm := fun a b _ _ h1 => decide_eq_false (List.lt_asymm (of_decide_eq_true h1))
  total := fun a b ha hb hab h => by
    have h1 := of_decide_eq_false h
    refine decide_eq_true ?_
    rcases Decidable.em (key b < key a) with q | q
    · exact q
    · exact absurd (hk a b ha hb (List.le_antisymm (List.not_lt.mp q) (List.not_lt.mp h1))) hab

def IsPair (o : Obj) (x : List Nat) (i : Nat) : Prop := o.cls = .type "list" ∧ ∃ t u n, o.data = .seq #[.str ⟨x.toArray⟩ t, .int (i : Int) u] n

theorem sorted_pairs {prog : Program} {w : World} {A : Around} {E : Value → Shared → Prop} {s : Shared} {h₀ : Heap} {L l : Addr} {m : Str → Option Value} {news : List (Addr × Obj)} {vs : List Value} {key : Nat → List Nat} {Q : Value → Shared → Prop}
    (hu : A.units + 1 + 1 < cLine) (F : Fr h₀ L s.heap m) (N : News h₀ L s.heap news) (hl : s.heap.IsList l vs.toArray) (h2 : 2 ≤ vs.length) (h64 : vs.length < 64)
    (hp : ∀ i, i < vs.length → ∃ a o, vs.getD i Value.none = .ref a ∧ (a, o) ∈ news ∧ IsPair o (key i) i)
    (hk : ∀ i j, i < vs.length → j < vs.length → key i = key j → i = j)
    (h : ∀ D h' tk c (p : Array Nat), PB vs.length p → Srt (fun i j => decide (key i < key j)) p vs.length → Fr h₀ L h' m → News h₀ L h' ((D, listOf (p.toList.map fun i => vs.getD i Value.none).toArray c) :: news) → (∀ q ∈ news, q.1 ≠ D) → Q (.ref D) { s with heap := h', toks := tk }) :
    wpAny (model prog w) A (call (.builtin "sorted") [.ref l]) Q E s := by
  refine kas_sorted (T := .type "list") F N hl h2 h64 ?_ (by decide) ?_
  · intro h' F' N' v hv
    obtain ⟨i, hi, e⟩ := List.mem_iff_getElem.mp hv
    obtain ⟨a, o, e1, e2, e3, _⟩ := hp i hi
    have : v = .ref a := by rw [← e1, ← e]; simp [List.getD, List.getElem?_eq_getElem hi]
    subst this
    exact e3 ▸ (Looks.ld (part := none) (N' _ e2).1).andThen .now
  · intro D e1 h' F' N' hD
    refine prun_wp (lt := fun i j => decide (key i < key j)) (n := vs.length) (P := fun p => PB vs.length p ∧ Srt (fun i j => decide (key i < key j)) p vs.length) ?_ ?_ _ (sort_ok (ord_key hk) (by omega))
    · intro i j C hi hj hC
      obtain ⟨a, o, a1, a2, a3, t, u, n1, a4⟩ := hp i hi
      obtain ⟨b, o', b1, b2, b3, t', u', n2, b4⟩ := hp j hj
      unfold kas_ask
      rw [a1, b1]
      refine key_lt (x := ⟨(key i).toArray⟩) (y := ⟨(key j).toArray⟩) (i := (i : Int)) (j := (j : Int)) hu ?_ ⟨o, (N' _ (.tail _ a2)).1, a3, _, a4⟩ ⟨o', (N' _ (.tail _ b2)).1, b3, _, b4⟩ hC
      intro e
      have : key i = key j := by
        have := congrArg (fun x : Str => x.cps.toList) e
        simpa using this
      rw [hk i j hi hj this]
    · rintro p ⟨hB, hS⟩
      refine KasFin.intro F' N' (UpdF.head fun q hq => Nat.ne_of_lt (hD q hq)) ?_
      intro h'' c F'' N''
      exact h D h'' _ c p hB hS F'' N'' fun q hq => Nat.ne_of_lt (hD q hq)
end Mine
end

-- part Co
section
open PySem PySem.W PySem.Calls PyProof.Rows
set_option Elab.async false
set_option maxRecDepth 100000
set_option maxHeartbeats 8000000
namespace Mine
theorem paired_get {α β : Type} {F : α → β → Prop} : ∀ {l₁ : List α} {l₂ : List β}, Paired F l₁ l₂ → ∀ (i : Nat) (v : α), l₁[i]? = some v → ∃ y, l₂[i]? = some y ∧ F v y
  | _, _, .nil, i, v, h => by simp at h
  | _, _, .cons h t, 0, v, e => by simp at e; subst e; exact ⟨_, rfl, h⟩
  | _, _, .cons h t, i + 1, v, e => by simp at e; obtain ⟨y, a, b⟩ := paired_get t i v e; exact ⟨y, by simpa using a, b⟩
theorem paired_len {α β : Type} {F : α → β → Prop} : ∀ {l₁ : List α} {l₂ : List β}, Paired F l₁ l₂ → l₁.length = l₂.length
  | _, _, .nil => rfl
  | _, _, .cons _ t => by simp [paired_len t]
theorem lst_prs {h₁ h : Heap} {G : Value → Array Value → Prop} : ∀ {l₁ l₂ : List Value}, Paired (LstIs h₁ G h) l₁ l₂ →
    ∃ prs : List (Addr × Obj), (∀ p ∈ prs, (h.get? p.1 = some p.2 ∧ h₁.get? p.1 = none) ∧ ∃ v n, p.2.data = .seq v n) ∧ Paired (fun v y => ∃ a o its, y = Value.ref a ∧ (a, o) ∈ prs ∧ o.cls = .type "list" ∧ (∃ n, o.data = .seq its n) ∧ G v its) l₁ l₂
  | _, _, .nil => ⟨[], by simp, .nil⟩
  | _, _, .cons hh t => by
    obtain ⟨prs, h2, h3⟩ := lst_prs t
    obtain ⟨a, its, e1, e2, ⟨o, e3, e4, e5⟩, e6⟩ := hh
    refine ⟨(a, o) :: prs, ?_, .cons ⟨a, o, its, e1, .head _, e4, e5, e6⟩ (h3.mono fun v y ⟨b, o', i', q1, q2, q3⟩ => ⟨b, o', i', q1, .tail _ q2, q3⟩)⟩
    intro p hp
    rcases List.mem_cons.mp hp with rfl | hp
    · exact ⟨⟨e3, e2⟩, its, e5⟩
    · exact h2 p hp

section
variable {prog : Program} {w : World} {A : Around} {E : Value → Shared → Prop} {s : Shared} {h₀ B : Heap} {L : Addr} {m : Str → Option Value} {x : Str} {t : Tok} {Q : Value → Shared → Prop} {value slice : Expr}
theorem keptB : KeptH fun h => B.StaysIn h ∧ Fr h₀ L h m := fun h ob hh => ⟨fun b o e => Heap.get?_push_of_some _ (hh.1 b o e), Fr.kept hh.2 fun b o e => Heap.get?_push_of_some _ e⟩
theorem slice_B_sn {i : Int} {ui : Tok} (hF : Fr h₀ L s.heap m) (hB : B.StaysIn s.heap) (hsz : x.length ≤ sizeLine) (h : ∀ h' t' k, Fr h₀ L h' m → B.StaysIn h' → Q (.str (Txt.slice x (some i) none) t') { s with heap := h', toks := k })
    (hs : subscripted slice false (.str x t) (.ref s.heap.objs.size) = operate [.ref s.heap.objs.size, .str x t] (getItem (.str x t) (.ref s.heap.objs.size)) := by with_unfolding_all rfl)
    (ht : ∀ r, letTemporaryGo value (.str x t) r = pure () := by intro _; with_unfolding_all rfl) :
    wpAny (model prog w) A (subscriptTail value slice (.str x t) (.ref s.heap.objs.size)) Q E { s with heap := s.heap.push { cls := .type "slice", data := .fields #[.int i ui, .none, .none] } } :=
  tail_of_ItemOn (SBH.sliceItem_sn keptB ⟨hB, hF⟩ (fun h' t' k a => h h' t' k a.2 a.1) hsz) hs ht
theorem slice_B_ns {j : Int} {ui : Tok} (hF : Fr h₀ L s.heap m) (hB : B.StaysIn s.heap) (hsz : x.length ≤ sizeLine) (h : ∀ h' t' k, Fr h₀ L h' m → B.StaysIn h' → Q (.str (Txt.slice x none (some j)) t') { s with heap := h', toks := k })
    (hs : subscripted slice false (.str x t) (.ref s.heap.objs.size) = operate [.ref s.heap.objs.size, .str x t] (getItem (.str x t) (.ref s.heap.objs.size)) := by with_unfolding_all rfl)
    (ht : ∀ r, letTemporaryGo value (.str x t) r = pure () := by intro _; with_unfolding_all rfl) :
    wpAny (model prog w) A (subscriptTail value slice (.str x t) (.ref s.heap.objs.size)) Q E { s with heap := s.heap.push { cls := .type "slice", data := .fields #[.none, .int j ui, .none] } } :=
  tail_of_ItemOn (SBH.sliceItem_ns keptB ⟨hB, hF⟩ (fun h' t' k a => h h' t' k a.2 a.1) hsz) hs ht
theorem slice_B_ss {i j : Int} {ui uj : Tok} (hF : Fr h₀ L s.heap m) (hB : B.StaysIn s.heap) (hsz : x.length ≤ sizeLine) (h : ∀ h' t' k, Fr h₀ L h' m → B.StaysIn h' → Q (.str (Txt.slice x (some i) (some j)) t') { s with heap := h', toks := k })
    (hs : subscripted slice false (.str x t) (.ref s.heap.objs.size) = operate [.ref s.heap.objs.size, .str x t] (getItem (.str x t) (.ref s.heap.objs.size)) := by with_unfolding_all rfl)
    (ht : ∀ r, letTemporaryGo value (.str x t) r = pure () := by intro _; with_unfolding_all rfl) :
    wpAny (model prog w) A (subscriptTail value slice (.str x t) (.ref s.heap.objs.size)) Q E { s with heap := s.heap.push { cls := .type "slice", data := .fields #[.int i ui, .int j uj, .none] } } :=
  tail_of_ItemOn (SBH.sliceItem_ss keptB ⟨hB, hF⟩ (fun h' t' k a => h h' t' k a.2 a.1) hsz) hs ht
end
section
variable {prog : Program} {w : World} {A : Around} {E : Value → Shared → Prop} {s : Shared} {env : Env} {h₀ : Heap} {L : Addr} {m : Str → Option Value} {news : List (Addr × Obj)}
  {scope : Scope} {cl : List (Str × Addr)} {x : Str} {elt : Expr} {G : Value → Array Value → Prop} {Q : Value → Shared → Prop}

theorem lcRO {r : Addr} {t₀ u₀ v₀ : Tok} {n : Nat} (hh : A.handled = none) (hr : IsRange s.heap r 0 (n : Int) 1 t₀ u₀ v₀) (hsz : n < 1000)
    (F0 : Fr h₀ L s.heap m) (N0 : News h₀ L s.heap news)
    (ht : ∀ C (i : Nat) t s₃ m₃ E', i < n → Fr s.heap C s₃.heap m₃ → m₃ x = some (.int (i : Int) t) →
      wpAny (model prog w) A (eval elt (compEnvC scope cl C env)) (fun y s₄ => (∃ T its, y = .ref T ∧ s₃.heap.get? T = none ∧ s₄.heap.IsList T its ∧ G (.int (i : Int) t) its) ∧ Keeps s₃ s₄) E' s₃)
    (done : ∀ D h' tk k (ys : Array Value) prs, Fr h₀ L h' m → News h₀ L h' ((D, listOf ys k) :: (news ++ prs)) → ys.size = n → (∀ p ∈ prs, ∃ v n, p.2.data = .seq v n) →
      (∀ i, i < n → ∃ a o its t, ys.toList.getD i Value.none = .ref a ∧ (a, o) ∈ prs ∧ o.cls = .type "list" ∧ (∃ k, o.data = .seq its k) ∧ G (.int (i : Int) t) its) → Q (.ref D) { s with heap := h', toks := tk }) :
    wpAny (model prog w) A (pyIter (.ref r)) (fun it s₂ => ∃ I fp wr n P St, it = .ref I ∧ Walks prog w A I fp wr n P St ∧ n ≤ sizeLine ∧ (∀ i h, St i h → ∀ b ∈ wr, ∃ o, h.get? b = some o) ∧ St 0 s₂.heap ∧ (∀ b ∈ fp, b < s₂.heap.objs.size) ∧
      QuietOnCO prog w A env scope cl x [] elt wr P (fun _ => true) G s₂ ∧
      (∀ D h' tk ys (vs : List Value), s₂.heap.get? D = none → h'.IsList D ys → h'.PlainList D ys → vs.length = n → (∀ (j : Nat) (v : Value), vs[j]? = some v → P j v) → Paired (LstIs s₂.heap G h') (vs.filter fun _ => true) ys.toList → ys.toList.Pairwise (· ≠ ·) →
        (∀ y ∈ ys.toList, y ≠ .ref D) →
        (∀ b o, b ∉ wr → s₂.heap.get? b = some o → h'.get? b = some o) → Q (.ref D) { s₂ with heap := h', toks := tk })) E s := by
  have hn : Builtin.Range.rangeSize 0 (n : Int) 1 = (n : Int) := by exact rangeSize_upNat n
  refine wpAny_pyIter_range hr (small_one (by omega) (by omega) (by omega) (by omega)) ?_
  have W : Walks prog w A s.heap.objs.size [s.heap.objs.size] [s.heap.objs.size] n (fun i v => i < n ∧ ∃ t, v = .int (i : Int) t)
      (fun i h => IsRangeIter h s.heap.objs.size (0 + (i : Nat) * 1) ((n : Int) - (i : Nat)) 1) := by
    have W := (Walks.range (prog := prog) (w := w) hh s.heap.objs.size 0 1 n).bound
    simp only [Int.mul_one, Int.zero_add] at W ⊢
    exact W
  dsimp only
  rw [hn]
  have hsize : ∀ oI, (s.heap.push oI).objs.size = s.heap.objs.size + 1 := fun _ => Heap.size_push _ _
  have old : ∀ b o, s.heap.get? b = some o → b ∉ [s.heap.objs.size] := fun b o e q => by
    rw [List.mem_singleton.mp q] at e
    exact Nat.lt_irrefl _ (Heap.lt_size e)
  have fr : ∀ oI C h m₃, s.heap.objs.size + 1 ≤ C → h.Ns C m₃ → (∀ b o, b ∉ [s.heap.objs.size] → (s.heap.push oI).get? b = some o → h.get? b = some o) → Fr s.heap C h m₃ := fun oI C h m₃ hC hn hk =>
    ⟨hn, fun b o e => hk b o (old b o e) (Heap.get?_push_of_some _ e), Nat.le_of_succ_le hC⟩
  refine ⟨_, _, _, n, _, _, rfl, W, by rw [sizeLine_eq]; omega, ?_, ?_, fun b hb => by rw [List.mem_singleton.mp hb, hsize]; exact Nat.lt_succ_self _, ⟨?_, ?_⟩, ?_⟩
  · intro i h hst b hb
    rw [List.mem_singleton.mp hb]
    have hst : h.get? s.heap.objs.size = some _ := hst
    exact ⟨_, hst⟩
  · show IsRangeIter _ _ _ _ _
    simpa using Heap.get?_push_size _ rfl
  · intro C i v s₃ m₃ E' hC hP hn hm hk _
    exact wpAny_tests_nil ⟨rfl, s₃.heap, s₃.toks, rfl, fun _ _ e => e⟩
  · intro C i v s₃ m₃ E' hC hP hpv hn hm hk _
    obtain ⟨t, rfl⟩ := hP.2
    exact ht C i t s₃ m₃ E' hP.1 (fr _ C _ _ (by rw [hsize] at hC; exact hC) hn hk) hm
  · intro D h' tk ys vs hD _ hpl hlen hP hF _ _ hk
    have keep : s.heap.StaysIn h' := fun b o e => hk b o (old b o e) (Heap.get?_push_of_some _ e)
    have hnone : ∀ oI T, (s.heap.push oI).get? T = none → s.heap.get? T = none := fun oI T hT => by
      cases e : s.heap.get? T with
      | none => rfl
      | some o => rw [Heap.get?_push_of_some _ e] at hT; cases hT
    have fresh : ∀ T o, h'.get? T = some o → s.heap.get? T = none → h'.get? T = some o ∧ T ≠ L ∧ h₀.get? T = none := fun T o e1 e2 => by
      refine ⟨e1, ?_, ?_⟩
      · rintro rfl
        obtain ⟨o, _, _, ho, _⟩ := F0.ns
        rw [e2] at ho; cases ho
      · cases e : h₀.get? T with
        | none => rfl
        | some o => rw [F0.keep _ _ e] at e2; cases e2
    obtain ⟨k, hDo⟩ := hpl
    rw [List.filter_eq_self.mpr (fun _ _ => rfl)] at hF
    obtain ⟨prs, hp1, hp2⟩ := lst_prs hF
    refine done D h' tk k ys prs (Fr.kept F0 keep) ?_ (by have := paired_len hF; simp at this; omega) (fun p hp => (hp1 p hp).2) ?_
    · intro q hq
      rcases List.mem_cons.mp hq with rfl | hq
      · exact fresh _ _ hDo (hnone _ _ hD)
      · rcases List.mem_append.mp hq with hq | hq
        · exact ⟨keep _ _ (N0 q hq).1, (N0 q hq).2⟩
        · exact fresh _ _ (hp1 q hq).1.1 (hnone _ _ (hp1 q hq).1.2)
    · intro i hi
      obtain ⟨v, hv⟩ : ∃ v, vs[i]? = some v := ⟨vs[i]'(by omega), by simp⟩
      obtain ⟨y, hy, a, o, its, e1, e2, e3, e4, e5⟩ := paired_get hp2 i v hv
      obtain ⟨_, t, rfl⟩ := hP i v hv
      exact ⟨a, o, its, t, by rw [List.getD_eq_getElem?_getD, hy]; exact e1, e2, e3, e4, e5⟩
end
end Mine
end

-- part L3
section
open PySem PySem.W PySem.Calls PyProof.Rows
set_option Elab.async false
set_option maxRecDepth 100000
set_option maxHeartbeats 8000000
set_option pp.maxSteps 300
set_option pp.deepTerms false
namespace Mine
theorem warmL3 : (∀ P, _root_.hd.heap_39 P = _root_.hd.heap_39 P) ∧ PySem.Challenge.rw_dj5002_01 = PySem.Challenge.rw_dj5002_01 := by
  k_fill
  exact ⟨fun _ => rfl, rfl⟩
local macro_rules | `(tactic| walk_at "look") => `(tactic| first | with_reducible assumption | exact upd_eq | (refine upd_ne (by decide) ?_; walk_at "look") | exact if_pos rfl | (refine Eq.trans (if_neg (by decide)) ?_; walk_at "look"))
local macro_rules | `(tactic| walk_at "eval Name") => `(tactic| (k_here; k_dflt (first
  | (refine' nmL ?F ?e ?a ?b ?d ?v ?_; (case F => k_asm); (case e => rfl); (case a => rfl); (case b => rfl); (case d => decide); (case v => walk_at "look"); k_whole)
  | (refine' nmC ?F ?a ?b ?c ?o ?d ?e ?_; (case F => k_asm); (case a => rfl); (case b => rfl); (case c => rfl); (case o => exact News.get (by k_asm) (by k_mem)); (case d => k_asm); (case e => decide); k_whole)
  | (refine' nmB ?F ?X ?T ?g ?bb ?a ?b ?d ?e ?v ?n ?_; (case F => k_asm); (case X => k_asm); (case T => k_asm); (case g => rfl); (case bb => rfl); (case a => rfl); (case b => rfl); (case d => decide); (case e => k_is); (case v => boot_fast); (case n => decide); k_whole)
  | (refine' nmK ?F ?X ?T ?g ?a ?b ?d ?e ?_; (case F => k_asm); (case X => k_asm); (case T => k_asm); (case g => rfl); (case a => rfl); (case b => rfl); (case d => decide); (case e => k_is); k_whole))))
local macro_rules | `(tactic| walk_at "loadName") => `(tactic| (k_here; k_dflt (refine' ldn ?F ?v ?_ ?a ?b; (case F => k_asm); (case a => rfl); (case b => rfl); (case v => walk_at "look"); k_whole)))
local macro_rules | `(tactic| walk_at "stop") => `(tactic| first
  | (with_reducible show InvPostN _ _ _ _ _ _ _ _ _)
  | (with_reducible show InvEndN _ _ _ _ _ _ _)
  | (with_reducible show wpAny _ _ (eval (Expr.ListComp _ _ _ _) _) _ _ _)
  | (with_reducible show wpAny _ _ (pyIter _) _ _ _)
  | (with_reducible show wpAny _ _ (exec (Stmt.For _ _ _ _ _) _) _ _ _)
  | (with_reducible show wpAny _ _ (exec (Stmt.While _ _ _ _) _) _ _ _)
  | (with_reducible show wpAny _ _ (call (Value.ref _) _ _) _ _ _)
  | (with_reducible show wpAny _ _ (call (Value.builtin "sorted") _ _) _ _ _)
  | (with_reducible show wpAny _ _ (call (Value.builtin "str.join") _ _) _ _ _)
  | (with_reducible show wpAny _ _ (subscriptTail _ _ (Value.str _ _) (Value.int _ _)) _ _ _)
  | (with_reducible show wpAny _ _ (compareOp CmpOp.NotIn _ (Value.ref _)) _ _ _))
local macro_rules | `(tactic| walk_at "steps") => `(tactic| repeat (first | (k_unfold; (try dsimp only)) | ((fail_if_success walk_at "stop"); walk1) | ((fail_if_success walk_at "stop"); dsimp only; (fail_if_success walk_at "stop"); walk1)))
local macro_rules | `(tactic| walk_at "rest") => `(tactic| (with_reducible show wpAny _ _ (execs _ _) _ _ _))
local macro_rules | `(tactic| walk_at "stmt") => `(tactic| repeat ((fail_if_success walk_at "rest"); first | (k_unfold; (try dsimp only)) | ((fail_if_success walk_at "stop"); walk1) | ((fail_if_success walk_at "stop"); dsimp only; (fail_if_success walk_at "stop"); walk1)))
local macro_rules | `(tactic| walk_at "one") => `(tactic| first | (k_unfold; (try dsimp only)) | ((fail_if_success walk_at "stop"); walk1) | ((fail_if_success walk_at "stop"); dsimp only; (fail_if_success walk_at "stop"); walk1))

theorem seg3 {w : World} {A : Around} {E : Value → Shared → Prop} {s : Shared} {g : Heap} {p : Program} {loose : List Str} {mg mb : Str → Option Value} {Q : Flow → Shared → Prop} {L fa : Addr} {cd : Value} {m : Str → Option Value} {o1 o2 o3 o4 o5 o6 o7 o8 : Obj} {tx : List Nat} {u1 : Tok} (X : (hd.heap_39 w.params).In g) (T : TopRead p loose mg mb g) (hA : A.handled = none)
    (F : Fr g L s.heap m) (N : News g L s.heap [(L+1+1+1+1+1+1+1+1, o8), (L+1+1+1+1+1+1+1, o7), (L+1+1+1+1+1+1, o6), (L+1+1+1+1+1, o5), (L+1+1+1+1, o4), (L+1+1+1, o3), (L+1+1, o2), (L+1, o1)]) (h16 : tx.length ≤ 16)
    (m1 : m "text" = some (.str ⟨tx.toArray⟩ u1))
    (hK : ∀ h' tk m' u2 u3 o3, Fr g L h' m' → News g L h' [(L+1+1+1+1+1+1+1+1, o8), (L+1+1+1+1+1+1+1, o7), (L+1+1+1+1+1+1, o6), (L+1+1+1+1+1, o5), (L+1+1+1+1, o4), (L+1+1+1, o3), (L+1+1, o2), (L+1, o1)] → (∀ y : Str, y ≠ Str.ofString "count" → m' y = m y) → o3.data = .cell (some (.str ⟨(tx ++ [36]).toArray⟩ u2)) → m' "count" = some (.int ((tx ++ [36]).length : Nat) u3) →
      wpAny (model PG w) A (execs (lawBody.drop 6) (lawEnv L fa cd)) Q E { s with heap := h', toks := tk }) (d3 : o3.data = .cell none) :
    wpAny (model PG w) A (execs (lawBody.drop 4) (lawEnv L fa cd)) Q E s := by
  have e1 : lawBody.drop 4 = _ :: _ := rfl
  have e2 : lawScope = Scope.mk _ _ _ _ _ := rfl
  unfold lawEnv
  rw [e1, e2]
  clear e1 e2
  refine wpAny_execs_cons ?_
  walk_at "stmt"
  rw [show (⟨tx.toArray⟩ : Str) ++ "$" = ⟨(tx ++ [36]).toArray⟩ from str_app _ _] at *
  refine wpAny_execs_cons ?_
  walk_at "stmt"
  refine PySem.P.len_str (by show ¬ ((tx ++ [36]).toArray.size : Int) ≥ _; rw [List.size_toArray, List.length_append, List.length_singleton]; omega) ?_
  rw [str_len (tx ++ [36])]
  walk_at "stmt"
  (with_reducible rename (Obj.data _ = Data.cell (some (Value.str _ _))) => dd)
  exact hK _ _ _ _ _ _ (by k_asm) (by k_asm) (fun y hy => if_neg hy) dd (by walk_at "look")
end Mine
end

-- part L4
section
open PySem PySem.W PySem.Calls PyProof.Rows
set_option Elab.async false
set_option maxRecDepth 100000
set_option maxHeartbeats 8000000
set_option pp.maxSteps 300
set_option pp.deepTerms false
namespace Mine
theorem warmL4 : (∀ P, _root_.hd.heap_39 P = _root_.hd.heap_39 P) ∧ PySem.Challenge.rw_dj5002_01 = PySem.Challenge.rw_dj5002_01 := by
  k_fill
  exact ⟨fun _ => rfl, rfl⟩
local macro_rules | `(tactic| walk_at "look") => `(tactic| first | with_reducible assumption | exact upd_eq | (refine upd_ne (by decide) ?_; walk_at "look") | exact if_pos rfl | (refine Eq.trans (if_neg (by decide)) ?_; walk_at "look"))
local macro_rules | `(tactic| walk_at "eval Name") => `(tactic| (k_here; k_dflt (first
  | (refine' nmL ?F ?e ?a ?b ?d ?v ?_; (case F => k_asm); (case e => rfl); (case a => rfl); (case b => rfl); (case d => decide); (case v => walk_at "look"); k_whole)
  | (refine' nmC ?F ?a ?b ?c ?o ?d ?e ?_; (case F => k_asm); (case a => rfl); (case b => rfl); (case c => rfl); (case o => exact News.get (by k_asm) (by k_mem)); (case d => k_asm); (case e => decide); k_whole)
  | (refine' nmB ?F ?X ?T ?g ?bb ?a ?b ?d ?e ?v ?n ?_; (case F => k_asm); (case X => k_asm); (case T => k_asm); (case g => rfl); (case bb => rfl); (case a => rfl); (case b => rfl); (case d => decide); (case e => k_is); (case v => boot_fast); (case n => decide); k_whole)
  | (refine' nmK ?F ?X ?T ?g ?a ?b ?d ?e ?_; (case F => k_asm); (case X => k_asm); (case T => k_asm); (case g => rfl); (case a => rfl); (case b => rfl); (case d => decide); (case e => k_is); k_whole))))
local macro_rules | `(tactic| walk_at "loadName") => `(tactic| (k_here; k_dflt (refine' ldn ?F ?v ?_ ?a ?b; (case F => k_asm); (case a => rfl); (case b => rfl); (case v => walk_at "look"); k_whole)))
local macro_rules | `(tactic| walk_at "stop") => `(tactic| first
  | (with_reducible show InvPostN _ _ _ _ _ _ _ _ _)
  | (with_reducible show InvEndN _ _ _ _ _ _ _)
  | (with_reducible show wpAny _ _ (eval (Expr.ListComp _ _ _ _) _) _ _ _)
  | (with_reducible show wpAny _ _ (pyIter _) _ _ _)
  | (with_reducible show wpAny _ _ (exec (Stmt.For _ _ _ _ _) _) _ _ _)
  | (with_reducible show wpAny _ _ (exec (Stmt.While _ _ _ _) _) _ _ _)
  | (with_reducible show wpAny _ _ (call (Value.ref _) _ _) _ _ _)
  | (with_reducible show wpAny _ _ (call (Value.builtin "sorted") _ _) _ _ _)
  | (with_reducible show wpAny _ _ (call (Value.builtin "str.join") _ _) _ _ _)
  | (with_reducible show wpAny _ _ (subscriptTail _ _ (Value.str _ _) (Value.int _ _)) _ _ _)
  | (with_reducible show wpAny _ _ (compareOp CmpOp.NotIn _ (Value.ref _)) _ _ _))
local macro_rules | `(tactic| walk_at "steps") => `(tactic| repeat (first | (k_unfold; (try dsimp only)) | ((fail_if_success walk_at "stop"); walk1) | ((fail_if_success walk_at "stop"); dsimp only; (fail_if_success walk_at "stop"); walk1)))
local macro_rules | `(tactic| walk_at "rest") => `(tactic| (with_reducible show wpAny _ _ (execs _ _) _ _ _))
local macro_rules | `(tactic| walk_at "stmt") => `(tactic| repeat ((fail_if_success walk_at "rest"); first | (k_unfold; (try dsimp only)) | ((fail_if_success walk_at "stop"); walk1) | ((fail_if_success walk_at "stop"); dsimp only; (fail_if_success walk_at "stop"); walk1)))
local macro_rules | `(tactic| walk_at "one") => `(tactic| first | (k_unfold; (try dsimp only)) | ((fail_if_success walk_at "stop"); walk1) | ((fail_if_success walk_at "stop"); dsimp only; (fail_if_success walk_at "stop"); walk1))

def rotL (wh : List Nat) (q : Nat) : List Nat := wh.drop q ++ wh.take q
structure RotsOK (prs : List (Addr × Obj)) (vs : List Value) (wh sa : List Nat) : Prop where
  len : vs.length = sa.length
  seq : ∀ p ∈ prs, ∃ v n, p.2.data = .seq v n
  at' : ∀ (i : Nat) q, sa[i]? = some q → ∃ a o, vs[i]? = some (.ref a) ∧ (a, o) ∈ prs ∧ IsPair o (rotL wh q) q
theorem off_cell {g h : Heap} {L c : Addr} {N' tl : List (Addr × Obj)} {o : Obj} {v₀ : Option Value} (N : News g L h N') (hs : ∀ p ∈ tl, ∃ v n, p.2.data = .seq v n) (hm : ∀ p ∈ tl, p ∈ N') (hc : (c, o) ∈ N') (hd : o.data = .cell v₀) : ∀ p ∈ tl, p.1 ≠ c := by
  rintro p hp rfl
  have h1 := (N p (hm p hp)).1
  have h2 := (N _ hc).1
  rw [h1] at h2
  obtain ⟨v, n, e⟩ := hs p hp
  have : p.2 = o := Option.some.inj h2
  rw [this, hd] at e
  cases e
structure SA (wh sa : List Nat) : Prop where
  perm : sa.Perm (List.range wh.length)
  srt : sa.Pairwise fun a b => rotL wh a < rotL wh b

local macro_rules | `(tactic| walk_at "subscriptTail Name Slice str ref") => `(tactic| ((with_reducible show wpAny _ _ (subscriptTail _ (Expr.Slice _ _ _ _) (Value.str _ _) (Value.ref _)) _ _ _); (with_reducible rename Fr _ _ _ _ => F'); (with_reducible rename Heap.StaysIn _ _ => K'); (first | refine slice_B_sn (s := ⟨_, _, _, _, _⟩) F' K' ?z ?_ | refine slice_B_ns (s := ⟨_, _, _, _, _⟩) F' K' ?z ?_ | refine slice_B_ss (s := ⟨_, _, _, _, _⟩) F' K' ?z ?_); (case z => (rw [sizeLine_eq, str_len]; omega)); intro _ _ _ _ _))
local macro_rules | `(tactic| walk_at "stop") => `(tactic| (with_reducible show wpAny _ _ (newList _) _ _ _))
theorem seg4 {w : World} {A : Around} {E : Value → Shared → Prop} {s : Shared} {g : Heap} {p : Program} {loose : List Str} {mg mb : Str → Option Value} {Q : Flow → Shared → Prop} {L fa : Addr} {cd : Value} {m : Str → Option Value} {o1 o2 o3 o4 o5 o6 o7 o8 : Obj} {wh : List Nat} {u1 u2 : Tok} (X : (hd.heap_39 w.params).In g) (T : TopRead p loose mg mb g) (hA : A.handled = none) (hu : A.units + 1 + 1 < cLine)
    (F : Fr g L s.heap m) (N : News g L s.heap [(L+1+1+1+1+1+1+1+1, o8), (L+1+1+1+1+1+1+1, o7), (L+1+1+1+1+1+1, o6), (L+1+1+1+1+1, o5), (L+1+1+1+1, o4), (L+1+1+1, o3), (L+1+1, o2), (L+1, o1)]) (h2 : 2 ≤ wh.length) (h16 : wh.length ≤ 17) (hinj : ∀ i j, i < wh.length → j < wh.length → rotL wh i = rotL wh j → i = j)
    (d3 : o3.data = .cell (some (.str ⟨wh.toArray⟩ u1))) (m1 : m "count" = some (.int (wh.length : Nat) u2))
    (hK : ∀ h' tk m' D vs c prs sa, Fr g L h' m' → News g L h' ((L+1+1+1+1+1+1+1+1, o8) :: (L+1+1+1+1+1+1+1, o7) :: (L+1+1+1+1+1+1, o6) :: (L+1+1+1+1+1, o5) :: (L+1+1+1+1, o4) :: (L+1+1+1, o3) :: (L+1+1, o2) :: (L+1, o1) :: (D, listOf (List.toArray vs) c) :: prs) → (∀ y : Str, y ≠ Str.ofString "rotations" → m' y = m y) → m' "rotations" = some (.ref D) → RotsOK prs vs wh sa → SA wh sa →
      wpAny (model PG w) A (execs (lawBody.drop 7) (lawEnv L fa cd)) Q E { s with heap := h', toks := tk }) :
    wpAny (model PG w) A (execs (lawBody.drop 6) (lawEnv L fa cd)) Q E s := by
  have e1 : lawBody.drop 6 = _ :: _ := rfl
  have e2 : lawScope = Scope.mk _ _ _ _ _ := rfl
  unfold lawEnv
  rw [e1, e2]
  clear e1 e2
  refine wpAny_execs_cons ?_
  walk_at "stmt"
  k_unmd
  k_fold
  refine wpAny_ListComp_freeO (fun _ => true) (fun v its => ∃ q : Nat, ∃ t t1 u1, v = .int (q : Int) t ∧ its = #[.str ⟨(rotL wh q).toArray⟩ t1, .int (q : Int) u1]) (by with_unfolding_all rfl) (by decide) rfl (by decide) rfl ?_
  walk_at "stmt"
  (with_reducible rename Fr _ _ _ _ => F3)
  (with_reducible rename News _ _ _ _ => N3)
  (with_reducible rename IsRange _ _ _ _ _ _ _ _ => hR)
  have X3 := X.keeps F3.keep
  have T3 := T.keeps F3.keep
  refine' lcRO (n := wh.length) hA ?kr ?ks ?kF ?kN ?kT ?kD
  case kr => exact hR
  case kF => exact F3
  case kN => exact N3
  case ks => omega
  case kT =>
    intro C i t s₃ m₃ E' hi F4 hm
    dsimp only at F4
    have N4 := News.grown N3 F4.keep
    have K5 : s₃.heap.StaysIn s₃.heap := fun _ _ e => e
    walk_at "steps"
    (with_reducible rename Heap.StaysIn _ _ => K6)
    refine wpAny_newList ?_ (by rw [sizeLine_eq]; exact Nat.le_of_ble_eq_true rfl)
    rw [slice_from, slice_to, str_app]
    refine ⟨⟨_, _, rfl, ?_, ⟨_, Heap.get?_push_size _ rfl, rfl, _, rfl⟩, i, t, _, _, rfl, rfl⟩, Keeps.intro' fun b o e => Heap.get?_push_of_some _ (K6 b o e)⟩
    cases e : s₃.heap.get? _ with
    | none => rfl
    | some o => exact absurd (Heap.lt_size (K6 _ _ e)) (Nat.lt_irrefl _)
  case kD =>
    intro D h4 tk4 k4 ys prs F4 N4 hys hseq hprs
    walk_at "stmt"
    have hl : ys.toList.length = wh.length := by simp [hys]
    refine sorted_pairs (vs := ys.toList) (key := rotL wh) hu F4 N4 ⟨_, (N4 _ (.head _)).1, rfl, k4, by simp⟩ (by omega) (by omega) ?_ (by rw [hl]; exact hinj) ?_
    · intro i hi
      rw [hl] at hi
      obtain ⟨a, o, its, t, e1, e2, e3, ⟨k, e4⟩, q, t1, t2, u1, e5, rfl⟩ := hprs i hi
      have : q = i := by injection e5 with e5 _; omega
      subst this
      exact ⟨a, o, e1, .tail _ (List.mem_append_right _ e2), e3, _, _, _, e4⟩
    · intro D2 h6 tk6 c6 p hB hS F6 N6 _
      have N7 : News g L h6 ((L+1+1+1+1+1+1+1+1, o8) :: (L+1+1+1+1+1+1+1, o7) :: (L+1+1+1+1+1+1, o6) :: (L+1+1+1+1+1, o5) :: (L+1+1+1+1, o4) :: (L+1+1+1, o3) :: (L+1+1, o2) :: (L+1, o1) :: (D2, listOf (List.toArray (p.toList.map fun i => ys.toList.getD i Value.none)) c6) :: prs) := fun q hq => by
        refine N6 q ?_
        simp only [List.mem_cons, List.mem_append, List.not_mem_nil, or_false] at hq ⊢
        rcases hq with h | h | h | h | h | h | h | h | h | h <;> simp [h]
      clear N6
      rw [hl] at hB hS
      walk_at "stmt"
      refine hK _ _ _ D2 _ c6 prs p.toList (by k_asm) (by k_asm) (fun y hy => if_neg hy) (by walk_at "look") ⟨by simp, hseq, ?_⟩ ⟨hB.perm, ?_⟩
      · intro i q hq
        have hqn : q < wh.length := List.mem_range.mp (hB.perm.mem_iff.mp (List.mem_of_getElem? hq))
        obtain ⟨a, o, its, t, e1, e2, e3, ⟨k, e4⟩, q2, t1, t2, u1, e5, rfl⟩ := hprs q hqn
        have : q2 = q := by injection e5 with e5 _; omega
        subst this
        exact ⟨a, o, by rw [List.getElem?_map, hq, Option.map_some, e1], e2, e3, _, _, _, e4⟩
      · rw [List.pairwise_iff_getElem]
        intro i j hi hj hij
        have hs : p.size = wh.length := hB.size
        simp only [Array.length_toList] at hi hj
        have := hS i j hij (by omega)
        have := of_decide_eq_true this
        simpa [gt, Array.getD, hi, hj] using this
end Mine
end

-- part L5
section
open PySem PySem.W PySem.Calls PyProof.Rows
set_option Elab.async false
set_option maxRecDepth 100000
set_option maxHeartbeats 8000000
set_option pp.maxSteps 300
set_option pp.deepTerms false
namespace Mine
theorem warmL5 : (∀ P, _root_.hd.heap_39 P = _root_.hd.heap_39 P) ∧ PySem.Challenge.rw_dj5002_01 = PySem.Challenge.rw_dj5002_01 := by
  k_fill
  exact ⟨fun _ => rfl, rfl⟩
local macro_rules | `(tactic| walk_at "look") => `(tactic| first | with_reducible assumption | exact upd_eq | (refine upd_ne (by decide) ?_; walk_at "look") | exact if_pos rfl | (refine Eq.trans (if_neg (by decide)) ?_; walk_at "look"))
local macro_rules | `(tactic| walk_at "eval Name") => `(tactic| (k_here; k_dflt (first
  | (refine' nmL ?F ?e ?a ?b ?d ?v ?_; (case F => k_asm); (case e => rfl); (case a => rfl); (case b => rfl); (case d => decide); (case v => walk_at "look"); k_whole)
  | (refine' nmC ?F ?a ?b ?c ?o ?d ?e ?_; (case F => k_asm); (case a => rfl); (case b => rfl); (case c => rfl); (case o => exact News.get (by k_asm) (by k_mem)); (case d => k_asm); (case e => decide); k_whole)
  | (refine' nmB ?F ?X ?T ?g ?bb ?a ?b ?d ?e ?v ?n ?_; (case F => k_asm); (case X => k_asm); (case T => k_asm); (case g => rfl); (case bb => rfl); (case a => rfl); (case b => rfl); (case d => decide); (case e => k_is); (case v => boot_fast); (case n => decide); k_whole)
  | (refine' nmK ?F ?X ?T ?g ?a ?b ?d ?e ?_; (case F => k_asm); (case X => k_asm); (case T => k_asm); (case g => rfl); (case a => rfl); (case b => rfl); (case d => decide); (case e => k_is); k_whole))))
local macro_rules | `(tactic| walk_at "loadName") => `(tactic| (k_here; k_dflt (refine' ldn ?F ?v ?_ ?a ?b; (case F => k_asm); (case a => rfl); (case b => rfl); (case v => walk_at "look"); k_whole)))
local macro_rules | `(tactic| walk_at "stop") => `(tactic| first
  | (with_reducible show InvPostN _ _ _ _ _ _ _ _ _)
  | (with_reducible show InvEndN _ _ _ _ _ _ _)
  | (with_reducible show wpAny _ _ (eval (Expr.ListComp _ _ _ _) _) _ _ _)
  | (with_reducible show wpAny _ _ (pyIter _) _ _ _)
  | (with_reducible show wpAny _ _ (exec (Stmt.For _ _ _ _ _) _) _ _ _)
  | (with_reducible show wpAny _ _ (exec (Stmt.While _ _ _ _) _) _ _ _)
  | (with_reducible show wpAny _ _ (call (Value.ref _) _ _) _ _ _)
  | (with_reducible show wpAny _ _ (call (Value.builtin "sorted") _ _) _ _ _)
  | (with_reducible show wpAny _ _ (call (Value.builtin "str.join") _ _) _ _ _)
  | (with_reducible show wpAny _ _ (subscriptTail _ _ (Value.str _ _) (Value.int _ _)) _ _ _)
  | (with_reducible show wpAny _ _ (compareOp CmpOp.NotIn _ (Value.ref _)) _ _ _))
local macro_rules | `(tactic| walk_at "steps") => `(tactic| repeat (first | (k_unfold; (try dsimp only)) | ((fail_if_success walk_at "stop"); walk1) | ((fail_if_success walk_at "stop"); dsimp only; (fail_if_success walk_at "stop"); walk1)))
local macro_rules | `(tactic| walk_at "rest") => `(tactic| (with_reducible show wpAny _ _ (execs _ _) _ _ _))
local macro_rules | `(tactic| walk_at "stmt") => `(tactic| repeat ((fail_if_success walk_at "rest"); first | (k_unfold; (try dsimp only)) | ((fail_if_success walk_at "stop"); walk1) | ((fail_if_success walk_at "stop"); dsimp only; (fail_if_success walk_at "stop"); walk1)))
local macro_rules | `(tactic| walk_at "one") => `(tactic| first | (k_unfold; (try dsimp only)) | ((fail_if_success walk_at "stop"); walk1) | ((fail_if_success walk_at "stop"); dsimp only; (fail_if_success walk_at "stop"); walk1))

def lastL (wh sa : List Nat) : List Nat := sa.map fun q => (rotL wh q).getD (wh.length - 1) 0
theorem rot_len {wh : List Nat} {q : Nat} (h : q < wh.length) : (rotL wh q).length = wh.length := by unfold rotL; simp; omega
theorem last_strs {sa wh : List Nat} {vs vs4 : List Value} {ys : Array Value} {prs : List (Addr × Obj)} (hR : RotsOK prs vs wh sa) (hlen : vs4.length = vs.toArray.size) (hP : ∀ (j : Nat) (v : Value), vs4[j]? = some v → vs.toArray[j]? = some v)
    (hF : Paired (fun v y => ∀ (i : Nat) (q : Nat), sa[i]? = some q → vs[i]? = some v → ∃ u, y = Value.str (CS ((rotL wh q).getD (wh.length - 1) 0)) u) (vs4.filter fun _ => true) ys.toList) : StrsAre ys.toList ((lastL wh sa).map CS) := by
  have e : vs4 = vs := by
    apply List.ext_getElem?
    intro j
    cases h : vs4[j]? with
    | some v => have := hP j v h; rw [List.getElem?_toArray] at this; exact this.symm
    | none =>
      have h1 := List.getElem?_eq_none_iff.mp h
      rw [hlen, List.size_toArray] at h1
      exact (List.getElem?_eq_none h1).symm
  subst e
  rw [List.filter_eq_self.mpr (fun _ _ => rfl)] at hF
  have hl := paired_len hF
  have key : ∀ (n : Nat) (zs : List Value) (l : List Nat), zs.length = l.length → (∀ (i : Nat) (q : Nat), l[i]? = some q → ∃ u, zs[i]? = some (Value.str (CS ((rotL wh q).getD (wh.length - 1) 0)) u)) → StrsAre zs ((lastL wh l).map CS) := by
    intro _ zs
    induction zs with
    | nil => intro l hl h; cases l with
      | nil => exact .nil
      | cons _ _ => simp at hl
    | cons z zs ih => intro l hl h; cases l with
      | nil => simp at hl
      | cons q l =>
        obtain ⟨u, hu⟩ := h 0 q rfl
        have : z = _ := Option.some.inj hu
        subst this
        exact .cons _ _ (ih l (by simpa using hl) fun i q hq => by simpa using h (i + 1) q (by simpa using hq))
  refine key 0 _ sa (by rw [← hl, hR.len]) ?_
  intro i q hq
  obtain ⟨a, o, e1, _⟩ := hR.at' i q hq
  obtain ⟨y, hy, hh⟩ := paired_get hF i _ e1
  obtain ⟨u, rfl⟩ := hh i q hq e1
  exact ⟨u, hy⟩

theorem item_m1 {prog : Program} {w : World} {A : Around} {E : Value → Shared → Prop} {s : Shared} {value slice : Expr} {x : Str} {t u : Tok} {c : Nat} {Q : Value → Shared → Prop}
    (h0 : 0 < x.cps.size) (h1 : x.cps.size < 1000) (hx : x.cps[x.cps.size - 1]? = some c) (h : Q (.str (CS c) s.toks) { s with toks := s.toks + 1 })
    (hs : subscripted slice false (.str x t) (.int (-1) u) = operate [.str x t, .int (-1) u] (getItem (.str x t) (.int (-1) u)) := by with_unfolding_all rfl)
    (ht : ∀ r, letTemporaryGo value (.str x t) r = pure () := by intro _; with_unfolding_all rfl) :
    wpAny (model prog w) A (subscriptTail value slice (.str x t) (.int (-1) u)) Q E s := by
  refine subscriptTail_builtin (typeIs_str s x t) F.slot_str_getitem.lookup (PySem.P.getItem_str (c := c) rfl ?_ h) hs ht
  have e : seqIndex? (-1) x.length = some (x.cps.size - 1) := by
    unfold seqIndex?
    have hl : x.length = x.cps.size := rfl
    rw [hl]
    simp
    omega
  rw [e]; exact hx

local macro_rules | `(tactic| k_all) => `(tactic| first | exact List.forall_mem_nil _ | with_reducible assumption | (refine' List.forall_mem_cons.mpr ⟨?a, ?b⟩; (case a => k_ne); (case b => k_all)))
theorem seg5 {w : World} {A : Around} {E : Value → Shared → Prop} {s : Shared} {g : Heap} {p : Program} {loose : List Str} {mg mb : Str → Option Value} {Q : Flow → Shared → Prop} {L fa : Addr} {cd : Value} {m : Str → Option Value} {o1 o2 o3 o4 o5 o6 o7 o8 : Obj} {wh : List Nat} {u2 : Tok} {D : Addr} {vs : List Value} {c : Nat} {prs : List (Addr × Obj)} {sa : List Nat} (X : (hd.heap_39 w.params).In g) (T : TopRead p loose mg mb g) (hA : A.handled = none)
    (F : Fr g L s.heap m) (N : News g L s.heap ((L+1+1+1+1+1+1+1+1, o8) :: (L+1+1+1+1+1+1+1, o7) :: (L+1+1+1+1+1+1, o6) :: (L+1+1+1+1+1, o5) :: (L+1+1+1+1, o4) :: (L+1+1+1, o3) :: (L+1+1, o2) :: (L+1, o1) :: (D, listOf (List.toArray vs) c) :: prs)) (h2 : 2 ≤ wh.length) (h16 : wh.length ≤ 17)
    (hR : RotsOK prs vs wh sa) (hS : SA wh sa) (m2 : m "rotations" = some (.ref D)) (d4 : o4.data = .cell none)
    (hK : ∀ h' tk m' o4 u1, Fr g L h' m' → News g L h' ((L+1+1+1+1+1+1+1+1, o8) :: (L+1+1+1+1+1+1+1, o7) :: (L+1+1+1+1+1+1, o6) :: (L+1+1+1+1+1, o5) :: (L+1+1+1+1, o4) :: (L+1+1+1, o3) :: (L+1+1, o2) :: (L+1, o1) :: (D, listOf (List.toArray vs) c) :: prs) → (∀ y, m' y = m y) → o4.data = .cell (some (.str ⟨(lastL wh sa).toArray⟩ u1)) →
      wpAny (model PG w) A (execs (lawBody.drop 8) (lawEnv L fa cd)) Q E { s with heap := h', toks := tk }) :
    wpAny (model PG w) A (execs (lawBody.drop 7) (lawEnv L fa cd)) Q E s := by
  have e1 : lawBody.drop 7 = _ :: _ := rfl
  have e2 : lawScope = Scope.mk _ _ _ _ _ := rfl
  unfold lawEnv
  rw [e1, e2]
  clear e1 e2
  refine wpAny_execs_cons ?_
  have hsl : sa.length = wh.length := by rw [hS.perm.length_eq]; simp
  have memD : (D, listOf (List.toArray vs) c) ∈ ((L+1+1+1+1+1+1+1+1, o8) :: (L+1+1+1+1+1+1+1, o7) :: (L+1+1+1+1+1+1, o6) :: (L+1+1+1+1+1, o5) :: (L+1+1+1+1, o4) :: (L+1+1+1, o3) :: (L+1+1, o2) :: (L+1, o1) :: (D, listOf (List.toArray vs) c) :: prs) := by simp
  have memP : ∀ {q}, q ∈ prs → q ∈ ((L+1+1+1+1+1+1+1+1, o8) :: (L+1+1+1+1+1+1+1, o7) :: (L+1+1+1+1+1+1, o6) :: (L+1+1+1+1+1, o5) :: (L+1+1+1+1, o4) :: (L+1+1+1, o3) :: (L+1+1, o2) :: (L+1, o1) :: (D, listOf (List.toArray vs) c) :: prs) := fun h => by simp [h]
  walk_at "stmt"
  k_unmd
  k_fold
  refine wpAny_ListComp_free (fun _ => true) (fun v y => ∀ (i : Nat) (q : Nat), sa[i]? = some q → vs[i]? = some v → ∃ u, y = Value.str (CS ((rotL wh q).getD (wh.length - 1) 0)) u) (by with_unfolding_all rfl) (by decide) rfl (by decide) rfl ?_
  walk_at "stmt"
  (with_reducible rename Fr _ _ _ _ => F3)
  (with_reducible rename News _ _ _ _ => N3)
  have X3 := X.keeps F3.keep
  have T3 := T.keeps F3.keep
  refine' lcL hA ?kl ?ks ?kF ?kN ?kT ?kD
  case kl => exact ⟨_, (N3 _ memD).1, rfl, _, rfl⟩
  case kF => exact F3
  case kN => exact N3
  case ks => rw [sizeLine_eq, List.size_toArray, hR.len]; omega
  case kT =>
    refine lc_plain fun C i v s₃ m₃ E' hi hP F4 hm => ?_
    rw [List.size_toArray, hR.len] at hi
    obtain ⟨q, hq⟩ : ∃ q, sa[i]? = some q := ⟨sa[i], by simp⟩
    obtain ⟨a, o, e1, e2, e3, t, u, n, e4⟩ := hR.at' i q hq
    have hv : v = .ref a := by
      have : _ = some v := hP
      rw [List.getElem?_toArray, e1] at this
      exact (Option.some.inj this).symm
    subst hv
    dsimp only at F4
    have hq2 : q < wh.length := List.mem_range.mp (hS.perm.mem_iff.mp (List.mem_of_getElem? hq))
    have hl : s.heap.IsList a #[.str ⟨(rotL wh q).toArray⟩ t, .int (q : Int) u] := ⟨o, (N3 _ (memP e2)).1, e3, _, e4⟩
    have hl4 := IsList.keep hl F4.keep
    walk_at "steps"
    have hlen := rot_len hq2
    refine item_m1 (c := (rotL wh q).getD (wh.length - 1) 0) (by show 0 < (rotL wh q).toArray.size; rw [List.size_toArray]; omega) (by show (rotL wh q).toArray.size < _; rw [List.size_toArray]; omega) ?_ ?_
    · show (rotL wh q).toArray[(rotL wh q).toArray.size - 1]? = _
      rw [List.size_toArray, hlen, List.getElem?_toArray, List.getD_eq_getElem?_getD, List.getElem?_eq_getElem (by omega)]
      rfl
    · refine ⟨fun i' q' hi' hv' => ?_, Keeps.intro' fun _ _ e => e⟩
      obtain ⟨a', o', f1, f2, f3, t', u', n', f4⟩ := hR.at' i' q' hi'
      have : a' = a := by rw [hv'] at f1; injection f1 with f1; injection f1 with f1; exact f1.symm
      subst this
      have g1 := (N3 _ (memP e2)).1
      have g2 := (N3 _ (memP f2)).1
      have : o' = o := by rw [g1] at g2; exact (Option.some.inj g2).symm
      subst this
      rw [e4] at f4
      have : q' = q := by
        injection f4 with f4 _
        have f5 := congrArg (fun x : Array Value => x[1]?) f4
        have f6 : some (Value.int (q : Int) u) = some (Value.int (q' : Int) u') := f5
        injection f6 with f6
        injection f6 with f6 _
        omega
      subst this
      exact ⟨_, rfl⟩
  case kD =>
    intro D9 h4 tk4 k4 ys vs4 F4 N4 hD4 hlen4 hP4 hF4 keep4
    walk_at "stmt"
    have hSs := last_strs hR hlen4 hP4 hF4
    refine join_list (ys := (lastL wh sa).map CS) ⟨_, (N4 _ (.head _)).1, rfl, _, rfl⟩ hSs ?_ fun tj kj => ?_
    · rw [sum_cs]
      have : (lastL wh sa).length = sa.length := by simp [lastL]
      have h0 : Str.length "" = 0 := by decide
      rw [h0, this]; omega
    rw [join_cs]
    have N5 : News g L h4 ((L+1+1+1+1+1+1+1+1, o8) :: (L+1+1+1+1+1+1+1, o7) :: (L+1+1+1+1+1+1, o6) :: (L+1+1+1+1+1, o5) :: (L+1+1+1+1, o4) :: (L+1+1+1, o3) :: (L+1+1, o2) :: (L+1, o1) :: (D, listOf (List.toArray vs) c) :: prs) := fun p hp => N4 p (.tail _ hp)
    clear N4 hD4
    have hoff := off_cell (tl := (D, listOf (List.toArray vs) c) :: prs) N5 (fun p hp => by
      rcases List.mem_cons.mp hp with rfl | hp
      · exact ⟨_, _, rfl⟩
      · exact hR.seq p hp) (fun p hp => by
      rcases List.mem_cons.mp hp with rfl | hp
      · exact memD
      · exact memP hp) (c := L+1+1+1+1) (by simp) d4
    walk_at "stmt"
    (with_reducible rename (Obj.data _ = Data.cell (some (Value.str _ _))) => dd)
    exact hK _ _ _ _ _ (by k_asm) (by k_asm) (fun y => rfl) dd
end Mine
end

-- part L6
section
open PySem PySem.W PySem.Calls PyProof.Rows
set_option Elab.async false
set_option maxRecDepth 100000
set_option maxHeartbeats 8000000
set_option pp.maxSteps 300
set_option pp.deepTerms false
namespace Mine
theorem warmL6 : (∀ P, _root_.hd.heap_39 P = _root_.hd.heap_39 P) ∧ PySem.Challenge.rw_dj5002_01 = PySem.Challenge.rw_dj5002_01 := by
  k_fill
  exact ⟨fun _ => rfl, rfl⟩
local macro_rules | `(tactic| walk_at "look") => `(tactic| first | with_reducible assumption | exact upd_eq | (refine upd_ne (by decide) ?_; walk_at "look") | exact if_pos rfl | (refine Eq.trans (if_neg (by decide)) ?_; walk_at "look"))
local macro_rules | `(tactic| walk_at "eval Name") => `(tactic| (k_here; k_dflt (first
  | (refine' nmL ?F ?e ?a ?b ?d ?v ?_; (case F => k_asm); (case e => rfl); (case a => rfl); (case b => rfl); (case d => decide); (case v => walk_at "look"); k_whole)
  | (refine' nmC ?F ?a ?b ?c ?o ?d ?e ?_; (case F => k_asm); (case a => rfl); (case b => rfl); (case c => rfl); (case o => exact News.get (by k_asm) (by k_mem)); (case d => k_asm); (case e => decide); k_whole)
  | (refine' nmB ?F ?X ?T ?g ?bb ?a ?b ?d ?e ?v ?n ?_; (case F => k_asm); (case X => k_asm); (case T => k_asm); (case g => rfl); (case bb => rfl); (case a => rfl); (case b => rfl); (case d => decide); (case e => k_is); (case v => boot_fast); (case n => decide); k_whole)
  | (refine' nmK ?F ?X ?T ?g ?a ?b ?d ?e ?_; (case F => k_asm); (case X => k_asm); (case T => k_asm); (case g => rfl); (case a => rfl); (case b => rfl); (case d => decide); (case e => k_is); k_whole))))
local macro_rules | `(tactic| walk_at "loadName") => `(tactic| (k_here; k_dflt (refine' ldn ?F ?v ?_ ?a ?b; (case F => k_asm); (case a => rfl); (case b => rfl); (case v => walk_at "look"); k_whole)))
local macro_rules | `(tactic| walk_at "stop") => `(tactic| first
  | (with_reducible show InvPostN _ _ _ _ _ _ _ _ _)
  | (with_reducible show InvEndN _ _ _ _ _ _ _)
  | (with_reducible show wpAny _ _ (eval (Expr.ListComp _ _ _ _) _) _ _ _)
  | (with_reducible show wpAny _ _ (pyIter _) _ _ _)
  | (with_reducible show wpAny _ _ (exec (Stmt.For _ _ _ _ _) _) _ _ _)
  | (with_reducible show wpAny _ _ (exec (Stmt.While _ _ _ _) _) _ _ _)
  | (with_reducible show wpAny _ _ (call (Value.ref _) _ _) _ _ _)
  | (with_reducible show wpAny _ _ (call (Value.builtin "sorted") _ _) _ _ _)
  | (with_reducible show wpAny _ _ (call (Value.builtin "str.join") _ _) _ _ _)
  | (with_reducible show wpAny _ _ (subscriptTail _ _ (Value.str _ _) (Value.int _ _)) _ _ _)
  | (with_reducible show wpAny _ _ (compareOp CmpOp.NotIn _ (Value.ref _)) _ _ _))
local macro_rules | `(tactic| walk_at "steps") => `(tactic| repeat (first | (k_unfold; (try dsimp only)) | ((fail_if_success walk_at "stop"); walk1) | ((fail_if_success walk_at "stop"); dsimp only; (fail_if_success walk_at "stop"); walk1)))
local macro_rules | `(tactic| walk_at "rest") => `(tactic| (with_reducible show wpAny _ _ (execs _ _) _ _ _))
local macro_rules | `(tactic| walk_at "stmt") => `(tactic| repeat ((fail_if_success walk_at "rest"); first | (k_unfold; (try dsimp only)) | ((fail_if_success walk_at "stop"); walk1) | ((fail_if_success walk_at "stop"); dsimp only; (fail_if_success walk_at "stop"); walk1)))
local macro_rules | `(tactic| walk_at "one") => `(tactic| first | (k_unfold; (try dsimp only)) | ((fail_if_success walk_at "stop"); walk1) | ((fail_if_success walk_at "stop"); dsimp only; (fail_if_success walk_at "stop"); walk1))

theorem valueAt_snoc {K : Type} [DecidableEq K] (kvs : List (K × Value)) (k k' : K) (v : Value) : valueAt (kvs ++ [(k, v)]) k' = (valueAt kvs k').or (if k = k' then some v else none) := by
  unfold valueAt
  rw [List.find?_append]
  cases h : kvs.find? (fun kv => decide (kv.1 = k')) with
  | some x => simp
  | none => by_cases e : k = k' <;> simp [e]
def KeptKV (sa : List Nat) (i : Nat) (kvs : List (Int × Value)) : Prop :=
  kvs.length ≤ i ∧ (∀ k : Nat, i ≤ k → valueAt kvs (k : Int) = none) ∧ ∀ (j : Nat) (q : Nat), j < i → sa[j]? = some q → if q % 4 = 0 then ∃ u, valueAt kvs (j : Int) = some (.int (q : Int) u) else valueAt kvs (j : Int) = none
theorem KeptKV.zero {sa : List Nat} : KeptKV sa 0 [] := ⟨Nat.le_refl _, fun _ _ => rfl, fun _ _ h => absurd h (Nat.not_lt_zero _)⟩
theorem KeptKV.skip {sa : List Nat} {i q : Nat} {kvs : List (Int × Value)} (h : KeptKV sa i kvs) (hq : sa[i]? = some q) (h4 : ¬ q % 4 = 0) : KeptKV sa (i + 1) kvs := by
  refine ⟨by have := h.1; omega, fun k hk => h.2.1 k (by omega), fun j q' hj hq' => ?_⟩
  by_cases e : j = i
  · subst e
    rw [hq] at hq'; cases hq'
    rw [if_neg h4]; exact h.2.1 j (Nat.le_refl _)
  · exact h.2.2 j q' (by omega) hq'
theorem KeptKV.put {sa : List Nat} {i q : Nat} {u : Tok} {kvs : List (Int × Value)} (h : KeptKV sa i kvs) (hq : sa[i]? = some q) (h4 : q % 4 = 0) : KeptKV sa (i + 1) (stored kvs (i : Int) (.int (q : Int) u)) := by
  rw [stored_absent (h.2.1 i (Nat.le_refl _))]
  refine ⟨by have := h.1; simp; omega, fun k hk => ?_, fun j q' hj hq' => ?_⟩
  · rw [valueAt_snoc, h.2.1 k (by omega), if_neg (by omega)]; rfl
  · rw [valueAt_snoc]
    by_cases e : j = i
    · subst e
      rw [hq] at hq'; cases hq'
      rw [if_pos h4, h.2.1 j (Nat.le_refl _), if_pos rfl]
      exact ⟨u, rfl⟩
    · have e2 : ¬ ((i : Int) = (j : Int)) := by omega
      rw [if_neg e2, Option.or_none]
      exact h.2.2 j q' (by omega) hq'

local macro_rules | `(tactic| k_all) => `(tactic| first | exact List.forall_mem_nil _ | with_reducible assumption | (refine' List.forall_mem_cons.mpr ⟨?a, ?b⟩; (case a => k_ne); (case b => k_all)))
theorem seg6 {w : World} {A : Around} {E : Value → Shared → Prop} {s : Shared} {g : Heap} {p : Program} {loose : List Str} {mg mb : Str → Option Value} {Q : Flow → Shared → Prop} {L fa : Addr} {cd : Value} {m : Str → Option Value} {o1 o2 o3 o4 o5 o6 o7 o8 : Obj} {tl : List (Addr × Obj)} (X : (hd.heap_39 w.params).In g) (T : TopRead p loose mg mb g) (hA : A.handled = none)
    (F : Fr g L s.heap m) (N : News g L s.heap ((L+1+1+1+1+1+1+1+1, o8) :: (L+1+1+1+1+1+1+1, o7) :: (L+1+1+1+1+1+1, o6) :: (L+1+1+1+1+1, o5) :: (L+1+1+1+1, o4) :: (L+1+1+1, o3) :: (L+1+1, o2) :: (L+1, o1) :: tl)) (d5 : o5.data = .cell none) (hoff : ∀ p ∈ tl, p.1 ≠ L+1+1+1+1+1)
    (hK : ∀ h' tk o5 K oK, Fr g L h' m → News g L h' ((K, oK) :: ((L+1+1+1+1+1+1+1+1, o8) :: (L+1+1+1+1+1+1+1, o7) :: (L+1+1+1+1+1+1, o6) :: (L+1+1+1+1+1, o5) :: (L+1+1+1+1, o4) :: (L+1+1+1, o3) :: (L+1+1, o2) :: (L+1, o1) :: tl)) → o5.data = .cell (some (.ref K)) → (K == sysModules) = false → oK.IsDictOf (intKind PG w) [] → (∀ p ∈ ((L+1+1+1+1+1+1+1+1, o8) :: (L+1+1+1+1+1+1+1, o7) :: (L+1+1+1+1+1+1, o6) :: (L+1+1+1+1+1, o5) :: (L+1+1+1+1, o4) :: (L+1+1+1, o3) :: (L+1+1, o2) :: (L+1, o1) :: tl), p.1 ≠ K) →
      wpAny (model PG w) A (execs (lawBody.drop 9) (lawEnv L fa cd)) Q E { s with heap := h', toks := tk }) :
    wpAny (model PG w) A (execs (lawBody.drop 8) (lawEnv L fa cd)) Q E s := by
  have e1 : lawBody.drop 8 = _ :: _ := rfl
  have e2 : lawScope = Scope.mk _ _ _ _ _ := rfl
  unfold lawEnv
  rw [e1, e2]
  clear e1 e2
  refine wpAny_execs_cons ?_
  walk_at "stmt"
  (with_reducible rename (Obj.data _ = Data.cell (some (Value.ref _))) => d5')
  (with_reducible rename (Obj.IsDictOf (intKind _ _) _ _) => hdk)
  (with_reducible rename ((_ == sysModules) = false) => hns)
  (with_reducible rename News _ _ _ _ => N3)
  (with_reducible rename Fr _ _ _ _ => F3)
  rename (_ ∧ _) => hlt
  obtain ⟨l8, l7, l6, l5, l4, l3, l2, l1, lP⟩ := hlt
  dsimp only
  refine hK _ _ _ _ _ F3 N3 d5' hns hdk ?_
  have all : ∀ {d : Addr} {tl : List (Addr × Obj)}, AllLt d tl → ∀ p ∈ tl, p.1 ≠ d := fun {d tl} => by
    induction tl with
    | nil => intro _ p hp; cases hp
    | cons q r ih =>
      intro h p hp
      rcases List.mem_cons.mp hp with rfl | hp
      · exact Nat.ne_of_lt h.1
      · exact ih h.2 p hp
  exact all ⟨l8, l7, l6, l5, l4, l3, l2, l1, lP⟩

theorem seg7 {w : World} {A : Around} {E : Value → Shared → Prop} {s : Shared} {g : Heap} {p : Program} {loose : List Str} {mg mb : Str → Option Value} {Q : Flow → Shared → Prop} {L fa : Addr} {cd : Value} {m : Str → Option Value} {o1 o2 o3 o4 o5 o6 o7 o8 : Obj} {wh : List Nat} {u2 : Tok} {D : Addr} {vs : List Value} {c : Nat} {prs : List (Addr × Obj)} {sa : List Nat} {K : Addr} {oK : Obj} (X : (hd.heap_39 w.params).In g) (T : TopRead p loose mg mb g) (hA : A.handled = none) (hE : E = fun _ _ => False)
    (F : Fr g L s.heap m) (N : News g L s.heap ((K, oK) :: ((L+1+1+1+1+1+1+1+1, o8) :: (L+1+1+1+1+1+1+1, o7) :: (L+1+1+1+1+1+1, o6) :: (L+1+1+1+1+1, o5) :: (L+1+1+1+1, o4) :: (L+1+1+1, o3) :: (L+1+1, o2) :: (L+1, o1) :: (D, listOf (List.toArray vs) c) :: prs))) (h2 : 2 ≤ wh.length) (h16 : wh.length ≤ 17) (hoff : ∀ p ∈ ((L+1+1+1+1+1+1+1+1, o8) :: (L+1+1+1+1+1+1+1, o7) :: (L+1+1+1+1+1+1, o6) :: (L+1+1+1+1+1, o5) :: (L+1+1+1+1, o4) :: (L+1+1+1, o3) :: (L+1+1, o2) :: (L+1, o1) :: (D, listOf (List.toArray vs) c) :: prs), p.1 ≠ K)
    (hR : RotsOK prs vs wh sa) (hS : SA wh sa) (m2 : m "rotations" = some (.ref D)) (m3 : m "count" = some (.int (wh.length : Nat) u2)) (d5 : o5.data = .cell (some (.ref K))) (hns : (K == sysModules) = false) (hd : oK.IsDictOf (intKind PG w) [])
    (hK : ∀ h' tk m' oK kvs, Fr g L h' m' → News g L h' ((K, oK) :: [(L+1+1+1+1+1+1+1+1, o8), (L+1+1+1+1+1+1+1, o7), (L+1+1+1+1+1+1, o6), (L+1+1+1+1+1, o5), (L+1+1+1+1, o4), (L+1+1+1, o3), (L+1+1, o2), (L+1, o1)]) → (∀ y : Str, y ≠ Str.ofString "row" → m' y = m y) → oK.IsDictOf (intKind PG w) kvs → KeptKV sa wh.length kvs →
      wpAny (model PG w) A (execs (lawBody.drop 10) (lawEnv L fa cd)) Q E { s with heap := h', toks := tk }) :
    wpAny (model PG w) A (execs (lawBody.drop 9) (lawEnv L fa cd)) Q E s := by
  subst hE
  have e1 : lawBody.drop 9 = _ :: _ := rfl
  have e2 : lawScope = Scope.mk _ _ _ _ _ := rfl
  unfold lawEnv
  rw [e1, e2]
  clear e1 e2
  refine wpAny_execs_cons ?_
  have hsl : sa.length = wh.length := by rw [hS.perm.length_eq]; simp
  refine For_invV g rfl rfl ?_
  walk_at "stmt"
  (with_reducible rename IsRange _ _ _ _ _ _ _ _ => hRg)
  (with_reducible rename News _ _ _ _ => N4)
  (with_reducible rename Fr _ _ _ _ => F4)
  generalize hrest : ((L+1+1+1+1+1+1+1+1, o8) :: (L+1+1+1+1+1+1+1, o7) :: (L+1+1+1+1+1+1, o6) :: (L+1+1+1+1+1, o5) :: (L+1+1+1+1, o4) :: (L+1+1+1, o3) :: (L+1+1, o2) :: (L+1, o1) :: (D, listOf (List.toArray vs) c) :: prs) = rest at N4 hoff
  refine range_loop (n := wh.length) (fun i m' news => (∀ y : Str, y ≠ Str.ofString "row" → m' y = m y) ∧ ∃ oK kvs, news = (K, oK) :: rest ∧ oK.IsDictOf (intKind PG w) kvs ∧ KeptKV sa i kvs) hA hRg (small_one (by omega) (by omega) (by omega) (by omega)) (rangeSize_upNat _) F4 N4 ⟨fun _ _ => rfl, _, _, rfl, hd, .zero⟩ ?_ ?_
  · rintro i m₁ news₁ h₁ tk tt own hi _ hoff2 ⟨hm, oK, kvs, rfl, hd, hkv⟩ F₁ N₁
    obtain ⟨q, hq⟩ : ∃ q, sa[i]? = some q := ⟨sa[i], by simp⟩
    obtain ⟨a, o, e1, e2, e3, t, u, n, e4⟩ := hR.at' i q hq
    have j1 : m₁ "rotations" = some (.ref D) := (hm _ (by decide)).trans m2
    have hmem : ∀ {p}, p ∈ ((L+1+1+1+1+1+1+1+1, o8) :: (L+1+1+1+1+1+1+1, o7) :: (L+1+1+1+1+1+1, o6) :: (L+1+1+1+1+1, o5) :: (L+1+1+1+1, o4) :: (L+1+1+1, o3) :: (L+1+1, o2) :: (L+1, o1) :: (D, listOf (List.toArray vs) c) :: prs) → p ∈ ((K, oK) :: rest) ++ own := fun {p} hp => by subst hrest; exact List.mem_append_left _ (.tail _ hp)
    have hall : ∀ p ∈ rest ++ own, p.1 ≠ K := fun p hp => by
      rcases List.mem_append.mp hp with hp | hp
      · exact hoff p hp
      · exact hoff2 p hp K (by simp)
    have hl : h₁.IsList D vs.toArray := ⟨_, (N₁ _ (hmem (p := (D, listOf (List.toArray vs) c)) (by simp))).1, rfl, _, rfl⟩
    have hl2 : h₁.IsList a #[.str ⟨(rotL wh q).toArray⟩ t, .int (q : Int) u] := ⟨o, (N₁ _ (hmem (p := (a, o)) (by simp [e2]))).1, e3, _, e4⟩
    have hi1 : (0 + (i : Int) * 1).toNat = i := by omega
    have hk : (0 + (i : Int) * 1) = (i : Int) := by omega
    rw [hk] at F₁
    rw [hk] at hi1
    walk_at "steps"
    refine item_listL (k := (i : Int)) hl (by omega) (by omega) e1 ?_
    walk_at "steps"
    · refine InvEndN.intro (nx := (K, oK) :: rest) F₁ N₁ ⟨fun y hy => (upd_ne (by simpa using hy) rfl).trans (hm y hy), oK, kvs, rfl, hd, hkv.skip hq ?_⟩ rfl (fun p hp => List.mem_append_left _ hp) (fun p hp => List.mem_append_right _ hp)
      rename (Int.fmod _ _ ≠ 0) => hne
      rw [Int.fmod_eq_emod_of_nonneg _ (by decide)] at hne
      omega
    · have N₁' : News g L h₁ ((K, oK) :: ((L+1+1+1+1+1+1+1+1, o8) :: (L+1+1+1+1+1+1+1, o7) :: (L+1+1+1+1+1+1, o6) :: (L+1+1+1+1+1, o5) :: (L+1+1+1+1, o4) :: (L+1+1+1, o3) :: (L+1+1, o2) :: (L+1, o1) :: (D, listOf (List.toArray vs) c) :: (prs ++ own))) := by subst hrest; exact N₁
      have hrest' : ((L+1+1+1+1+1+1+1+1, o8) :: (L+1+1+1+1+1+1+1, o7) :: (L+1+1+1+1+1+1, o6) :: (L+1+1+1+1+1, o5) :: (L+1+1+1+1, o4) :: (L+1+1+1, o3) :: (L+1+1, o2) :: (L+1, o1) :: (D, listOf (List.toArray vs) c) :: (prs ++ own)) = rest ++ own := by subst hrest; rfl
      walk_at "steps"
      refine item_listL (k := (i : Int)) hl (by omega) (by omega) e1 ?_
      walk_at "steps"
      refine kda_set (knd := intKind PG w) F₁ (show News g L h₁ ((K, oK) :: (rest ++ own)) from N₁) (UpdF.head hall) hd (intKind_is _ _ _ _) (by have := hkv.1; rw [sizeLine_eq]; omega) fun h' o' F' N' hd' => ?_
      clear N₁' hmem hrest' hl hl2 hall
      dsimp only
      walk_at "steps"
      refine InvEndN.intro (nx := (K, o') :: rest) F' N' ⟨fun y hy => (upd_ne (by simpa using hy) rfl).trans (hm y hy), o', _, rfl, hd', hkv.put hq ?_⟩ rfl (fun p hp => List.mem_append_left _ hp) (fun p hp => .tail _ (List.mem_append_right _ hp))
      rename (Int.fmod _ _ = 0) => hne
      rw [Int.fmod_eq_emod_of_nonneg _ (by decide)] at hne
      omega
  · rintro m₁ news₁ h tk ⟨hm, oK, kvs, rfl, hd, hkv⟩ F₁ N₁
    dsimp only
    exact hK _ _ _ _ _ F₁ (fun p hp => N₁ p (by
      subst hrest
      simp only [List.mem_cons, List.not_mem_nil, or_false] at hp ⊢
      rcases hp with h | h | h | h | h | h | h | h | h <;> simp [h])) hm hd hkv
end Mine
end

-- part Lg
section
open PySem PySem.W PySem.Calls PyProof.Rows
set_option Elab.async false
set_option maxRecDepth 100000
set_option maxHeartbeats 8000000
namespace Mine

def InvEndG (h₀ : Heap) (L : Addr) (J : (Str → Option Value) → List (Addr × Obj) → Prop) (own : List (Addr × Obj)) (s₁ s₂ : Shared) : Prop :=
  ∃ h' tk m' news' nx, s₂ = { s₁ with heap := h', toks := tk } ∧ Fr h₀ L h' m' ∧ News h₀ L h' news' ∧ (∀ p ∈ nx, p ∈ news') ∧ (∀ p ∈ own, p ∈ news') ∧ OwnOff own (nx.map (·.1)) ∧ J m' nx
def InvPostG (h₀ : Heap) (L : Addr) (J : (Str → Option Value) → List (Addr × Obj) → Prop) (own : List (Addr × Obj)) (s₁ : Shared) (Q : Flow → Shared → Prop) (f : Flow) (s₂ : Shared) : Prop :=
  match f with
  | .ret v => Q (.ret v) s₂
  | .brk => Q .next s₂
  | _ => InvEndG h₀ L J own s₁ s₂
theorem InvEndG.intro {h₀ : Heap} {L : Addr} {J : (Str → Option Value) → List (Addr × Obj) → Prop} {m' : Str → Option Value} {own news' nx : List (Addr × Obj)} {s₁ : Shared} {h' : Heap} {tk : Nat} (F : Fr h₀ L h' m') (N : News h₀ L h' news')
    (hj : J m' nx) (hn : ∀ p ∈ nx, p ∈ news') (ho : ∀ p ∈ own, p ∈ news') (hs : OwnOff own (nx.map (·.1))) : InvEndG h₀ L J own s₁ { s₁ with heap := h', toks := tk } := ⟨h', tk, m', news', nx, rfl, F, N, hn, ho, hs, hj⟩
theorem InvPostG.intro {h₀ : Heap} {L : Addr} {J : (Str → Option Value) → List (Addr × Obj) → Prop} {own : List (Addr × Obj)} {s₁ s₂ : Shared} {Q : Flow → Shared → Prop} (h : InvEndG h₀ L J own s₁ s₂) : InvPostG h₀ L J own s₁ Q .next s₂ := h

section
variable {prog : Program} {w : World} {A : Around} {E : Value → Shared → Prop} {s : Shared} {env : Env} {h₀ : Heap} {x : Str} {body : List Stmt} {Q : Flow → Shared → Prop}

/-- a loop over a range; the ledger may grow -/
theorem range_loopG {r : Addr} {t₀ u₀ v₀ : Tok} {n : Nat} {m₀ : Str → Option Value} {news : List (Addr × Obj)} (J : Nat → (Str → Option Value) → List (Addr × Obj) → Prop)
    (hh : A.handled = none) (hr : IsRange s.heap r 0 (n : Int) 1 t₀ u₀ v₀) (hn : n < 1000) (F : Fr h₀ env.locals s.heap m₀) (N : News h₀ env.locals s.heap news) (hj : J 0 m₀ news)
    (turn : ∀ (i : Nat) m₁ news₁ h tk t own, i < n → OwnOff own (news₁.map (·.1)) → J i m₁ news₁ →
      Fr h₀ env.locals h (fun y => if y = x then some (.int (i : Int) t) else m₁ y) → News h₀ env.locals h (news₁ ++ own) →
      wpAny (model prog w) A (execs body env) (InvPostG h₀ env.locals (J (i + 1)) own { s with heap := h, toks := tk } Q) E { s with heap := h, toks := tk })
    (done : ∀ m₁ news₁ h tk, J n m₁ news₁ → Fr h₀ env.locals h m₁ → News h₀ env.locals h news₁ → Q .next { s with heap := h, toks := tk }) :
    wpAny (model prog w) A (pyIter (.ref r)) (fun it s₂ => LoopAtV prog w A h₀ env x body Q E it s₂) E s := by
  refine wpAny_pyIter_range hr (small_one (by omega) (by omega) (by omega) (by omega)) ?_
  have W : Walks prog w A s.heap.objs.size [s.heap.objs.size] [s.heap.objs.size] n (fun i v => i < n ∧ ∃ t, v = .int (0 + i * 1) t)
      (fun i h => IsRangeIter h s.heap.objs.size (0 + (i : Nat) * 1) ((n : Int) - (i : Nat)) 1) := (Walks.range hh _ 0 1 n).bound
  refine ⟨_, _, _, n, _, _, m₀, news, J, rfl, W, ?_, ?_, ?_, (by show IsRangeIter _ _ _ _ _; rw [rangeSize_upNat]; simpa using Heap.get?_push_size _ rfl), F.push _, (fun p hp => ⟨Heap.get?_push_of_some _ (N p hp).1, (N p hp).2⟩), hj, ?_, ?_⟩
  · intro hm
    exact absurd F.ns.lt ((List.mem_singleton.mp hm) ▸ Nat.lt_irrefl _)
  · intro b hb
    rw [List.mem_singleton.mp hb]
    exact next_is_new F
  · intro p hp hI
    exact absurd (Heap.lt_size (N p hp).1) ((List.mem_singleton.mp hI) ▸ Nat.lt_irrefl _)
  · rintro i v m₁ news₁ s₁ own ⟨hh', tk', rfl⟩ hin hP hJ hoff hown _ hin2 hst F₁ N₁
    obtain ⟨_, t, rfl⟩ := hP
    have hown' : ∀ p ∈ own, p.1 = s.heap.objs.size := fun p hp => List.mem_singleton.mp (hown p hp)
    have hI : ∃ o, (s.heap.objs.size, o) ∈ own := by
      have e : hh'.get? s.heap.objs.size = some _ := hst
      exact ⟨_, hin2 _ (by simp) (next_is_new F) _ e⟩
    have hsep : OwnOff own (news₁.map (·.1)) := by
      intro p hp b hb e
      obtain ⟨q, hq, rfl⟩ := List.mem_map.mp hb
      exact hoff q hq (by rw [← e, hown' p hp]; simp)
    have N₂ : News h₀ env.locals hh' (news₁ ++ own) := fun p hp => N₁ p ((List.mem_append.mp hp).elim (fun h => List.mem_append.mpr (.inr h)) fun h => List.mem_append.mpr (.inl h))
    have hk : (0 + (i : Int) * 1) = (i : Int) := by omega
    rw [hk] at F₁
    refine wpAny_mono (turn i m₁ news₁ hh' tk' t own hin hsep hJ F₁ N₂) (fun f s₂ p => ?_) fun _ _ e => e
    have fin : InvEndG h₀ env.locals (J (i + 1)) own { s with heap := hh', toks := tk' } s₂ → LoopStepU h₀ env.locals [s.heap.objs.size] own (J (i + 1)) { s with heap := hh', toks := tk' } .next s₂ := by
      rintro ⟨h', tk, m', news', nx, e, F', N', hn, ho, ha, hm⟩
      refine ⟨rfl, h', tk, m', nx, e, F', fun p hp => N' p ((List.mem_append.mp hp).elim (ho p) (hn p)), fun p hp hq => ?_, hm⟩
      obtain ⟨o, hI⟩ := hI
      exact ha _ hI p.1 (List.mem_map.mpr ⟨p, hp, rfl⟩) (List.mem_singleton.mp hq).symm
    cases f with
    | ret v => exact .ret p
    | brk => exact .brk p
    | next => exact .next (fin p)
    | cont => exact .cont (fin p)
  · rintro h' tk m' news' F' N' _ hJ
    exact done m' news' h' tk hJ F' N'
end

structure Ent where
  c : Nat
  a : Addr
  k : Nat
  vs : List Value
def Ent.o (e : Ent) : Addr × Obj := (e.a, listOf (List.toArray e.vs) e.k)
def Ent.kv (e : Ent) : Str × Value := (CS e.c, .ref e.a)
structure PInv (last : List Nat) (i : Nat) (P : Addr) (R : List (Addr × Obj)) (es : List Ent) : Prop where
  pos : ∀ e ∈ es, IntsAre e.vs (posI (last.take i) e.c)
  mem : ∀ e ∈ es, e.c ∈ last
  all : ∀ c ∈ last.take i, c ∈ es.map (·.c)
  nd : (es.map (·.c)).Nodup
  ad : (es.map (·.a)).Nodup
  aP : ∀ e ∈ es, e.a ≠ P
  aR : ∀ e ∈ es, ∀ p ∈ R, p.1 ≠ e.a

theorem posI_succ {last : List Nat} {i c d : Nat} (hi : last[i]? = some d) : posI (last.take (i + 1)) c = if d = c then posI (last.take i) c ++ [(i : Int)] else posI (last.take i) c := by
  have hlt : i < last.length := (List.getElem?_eq_some_iff.mp hi).1
  have e1 : (last.take (i + 1)).length = i + 1 := by simp; omega
  have e2 : (last.take i).length = i := by simp; omega
  unfold posI
  rw [e1, e2, List.range_succ, List.filter_append, List.map_append]
  have e3 : ((List.range i).filter fun j => (last.take (i + 1))[j]? == some c) = (List.range i).filter fun j => (last.take i)[j]? == some c := by
    refine List.filter_congr fun j hj => ?_
    have := List.mem_range.mp hj
    rw [List.getElem?_take, List.getElem?_take, if_pos (by omega), if_pos (by omega)]
  rw [e3]
  have e4 : (last.take (i + 1))[i]? = some d := by rw [List.getElem?_take, if_pos (by omega), hi]
  by_cases h : d = c
  · subst h; simp [e4]
  · simp [e4, h]

theorem PInv.zero {last : List Nat} {P : Addr} {R : List (Addr × Obj)} : PInv last 0 P R [] :=
  ⟨by simp, by simp, by simp, by simp, by simp, by simp, by simp⟩
theorem PInv.grow {last : List Nat} {i : Nat} {P : Addr} {R R' : List (Addr × Obj)} {es : List Ent} (h : PInv last i P R es) (h' : ∀ e ∈ es, ∀ p ∈ R', p.1 ≠ e.a) : PInv last i P R' es :=
  ⟨h.pos, h.mem, h.all, h.nd, h.ad, h.aP, h'⟩
theorem posI_none {last : List Nat} {c : Nat} (h : c ∉ last) : posI last c = [] := by
  unfold posI
  rw [List.map_eq_nil_iff, List.filter_eq_nil_iff]
  intro j _ hj
  exact h (List.mem_of_getElem? (by simpa using hj))
theorem PInv.add {last : List Nat} {i : Nat} {P : Addr} {R : List (Addr × Obj)} {es : List Ent} {c a k : Nat} (h : PInv last i P R es) (hc : c ∈ last) (hn : c ∉ es.map (·.c)) (ha : ∀ e ∈ es, e.a ≠ a) (haP : a ≠ P) (haR : ∀ p ∈ R, p.1 ≠ a) : PInv last i P R (es ++ [⟨c, a, k, []⟩]) where
  pos := fun e he => by
    rcases List.mem_append.mp he with he | he
    · exact h.pos e he
    · obtain rfl := List.mem_singleton.mp he
      dsimp only
      rw [posI_none (fun q => hn (h.all c q))]; exact .nil
  mem := fun e he => by
    rcases List.mem_append.mp he with he | he
    · exact h.mem e he
    · obtain rfl := List.mem_singleton.mp he; exact hc
  all := fun d hd => by rw [List.map_append]; exact List.mem_append_left _ (h.all d hd)
  nd := by
    rw [List.map_append]
    refine List.nodup_append.mpr ⟨h.nd, by simp, fun x hx y hy => ?_⟩
    have : y = c := by simpa using hy
    subst this
    rintro rfl
    exact hn hx
  ad := by
    rw [List.map_append]
    refine List.nodup_append.mpr ⟨h.ad, by simp, fun x hx y hy => ?_⟩
    have : y = a := by simpa using hy
    subst this
    obtain ⟨e, he, rfl⟩ := List.mem_map.mp hx
    exact ha e he
  aP := fun e he => by
    rcases List.mem_append.mp he with he | he
    · exact h.aP e he
    · obtain rfl := List.mem_singleton.mp he; exact haP
  aR := fun e he => by
    rcases List.mem_append.mp he with he | he
    · exact h.aR e he
    · obtain rfl := List.mem_singleton.mp he; exact haR
theorem PInv.bump {last : List Nat} {i k' : Nat} {t : Tok} {P : Addr} {R : List (Addr × Obj)} {pre post : List Ent} {e : Ent} (h : PInv last i P R (pre ++ e :: post)) (hc : last[i]? = some e.c) :
    PInv last (i + 1) P R (pre ++ ⟨e.c, e.a, k', e.vs ++ [.int (i : Int) t]⟩ :: post) := by
  have hnd := h.nd
  rw [List.map_append, List.map_cons] at hnd
  have n2 := (List.nodup_append.mp hnd)
  have hpre : ∀ d ∈ pre, e.c ≠ d.c := fun d hd q => n2.2.2 d.c (List.mem_map.mpr ⟨d, hd, rfl⟩) e.c (by simp) q.symm
  have hpost : ∀ d ∈ post, e.c ≠ d.c := fun d hd q => (List.nodup_cons.mp n2.2.1).1 (q ▸ List.mem_map.mpr ⟨d, hd, rfl⟩)
  have e1 : (pre ++ (⟨e.c, e.a, k', e.vs ++ [.int (i : Int) t]⟩ : Ent) :: post).map (·.c) = (pre ++ e :: post).map (·.c) := by simp
  have e2 : (pre ++ (⟨e.c, e.a, k', e.vs ++ [.int (i : Int) t]⟩ : Ent) :: post).map (·.a) = (pre ++ e :: post).map (·.a) := by simp
  refine ⟨?_, ?_, ?_, ?_, ?_, ?_, ?_⟩
  · intro d hd
    rw [posI_succ hc]
    rcases List.mem_append.mp hd with hd | hd
    · rw [if_neg (hpre d hd)]; exact h.pos d (List.mem_append_left _ hd)
    · rcases List.mem_cons.mp hd with rfl | hd
      · dsimp only
        rw [if_pos rfl]
        exact (h.pos e (by simp)).append (.cons _ _ .nil)
      · rw [if_neg (hpost d hd)]; exact h.pos d (by simp [hd])
  · intro d hd
    have : d.c ∈ (pre ++ (⟨e.c, e.a, k', e.vs ++ [.int (i : Int) t]⟩ : Ent) :: post).map (·.c) := List.mem_map.mpr ⟨d, hd, rfl⟩
    rw [e1] at this
    obtain ⟨d', h1, h2⟩ := List.mem_map.mp this
    exact h2 ▸ h.mem d' h1
  · intro c hc'
    rw [e1]
    rw [List.take_add_one, hc] at hc'
    rcases List.mem_append.mp hc' with q | q
    · exact h.all c q
    · have : c = e.c := by simpa using q
      subst this
      simp
  · rw [e1]; exact h.nd
  · rw [e2]; exact h.ad
  · intro d hd
    have : d.a ∈ (pre ++ (⟨e.c, e.a, k', e.vs ++ [.int (i : Int) t]⟩ : Ent) :: post).map (·.a) := List.mem_map.mpr ⟨d, hd, rfl⟩
    rw [e2] at this
    obtain ⟨d', h1, h2⟩ := List.mem_map.mp this
    exact h2 ▸ h.aP d' h1
  · intro d hd
    have : d.a ∈ (pre ++ (⟨e.c, e.a, k', e.vs ++ [.int (i : Int) t]⟩ : Ent) :: post).map (·.a) := List.mem_map.mpr ⟨d, hd, rfl⟩
    rw [e2] at this
    obtain ⟨d', h1, h2⟩ := List.mem_map.mp this
    exact h2 ▸ h.aR d' h1
theorem valueAt_ents {es : List Ent} {c : Nat} (hnd : (es.map (·.c)).Nodup) : (∀ e ∈ es, e.c = c → valueAt (es.map Ent.kv) (CS c) = some (.ref e.a)) ∧ (c ∉ es.map (·.c) → valueAt (es.map Ent.kv) (CS c) = none) := by
  induction es with
  | nil => exact ⟨by simp, fun _ => rfl⟩
  | cons d r ih =>
    rw [List.map_cons] at hnd
    have h2 := List.nodup_cons.mp hnd
    obtain ⟨i1, i2⟩ := ih h2.2
    have step : valueAt ((d :: r).map Ent.kv) (CS c) = if d.c = c then some (.ref d.a) else valueAt (r.map Ent.kv) (CS c) := by
      unfold valueAt
      rw [List.map_cons, List.find?_cons]
      by_cases q : d.c = c
      · subst q; simp [Ent.kv]
      · have : ¬ (Ent.kv d).1 = CS c := fun e => q (by simpa [Ent.kv] using e)
        simp [this, q]
    rw [step]
    refine ⟨fun e he hc => ?_, fun hn => ?_⟩
    · rcases List.mem_cons.mp he with rfl | he
      · rw [if_pos hc]
      · rw [if_neg (fun q : d.c = c => h2.1 (by rw [q, ← hc]; exact List.mem_map.mpr ⟨e, he, rfl⟩))]; exact i1 e he hc
    · simp only [List.map_cons, List.mem_cons, not_or] at hn
      rw [if_neg (fun q => hn.1 q.symm)]; exact i2 hn.2
end Mine
end

-- part L7
section
open PySem PySem.W PySem.Calls PyProof.Rows
set_option Elab.async false
set_option maxRecDepth 100000
set_option maxHeartbeats 8000000
set_option pp.maxSteps 300
set_option pp.deepTerms false
namespace Mine
theorem warmL7 : (∀ P, _root_.hd.heap_39 P = _root_.hd.heap_39 P) ∧ PySem.Challenge.rw_dj5002_01 = PySem.Challenge.rw_dj5002_01 := by
  k_fill
  exact ⟨fun _ => rfl, rfl⟩
local macro_rules | `(tactic| walk_at "look") => `(tactic| first | with_reducible assumption | exact upd_eq | (refine upd_ne (by decide) ?_; walk_at "look") | exact if_pos rfl | (refine Eq.trans (if_neg (by decide)) ?_; walk_at "look"))
local macro_rules | `(tactic| walk_at "eval Name") => `(tactic| (k_here; k_dflt (first
  | (refine' nmL ?F ?e ?a ?b ?d ?v ?_; (case F => k_asm); (case e => rfl); (case a => rfl); (case b => rfl); (case d => decide); (case v => walk_at "look"); k_whole)
  | (refine' nmC ?F ?a ?b ?c ?o ?d ?e ?_; (case F => k_asm); (case a => rfl); (case b => rfl); (case c => rfl); (case o => exact News.get (by k_asm) (by k_mem)); (case d => k_asm); (case e => decide); k_whole)
  | (refine' nmB ?F ?X ?T ?g ?bb ?a ?b ?d ?e ?v ?n ?_; (case F => k_asm); (case X => k_asm); (case T => k_asm); (case g => rfl); (case bb => rfl); (case a => rfl); (case b => rfl); (case d => decide); (case e => k_is); (case v => boot_fast); (case n => decide); k_whole)
  | (refine' nmK ?F ?X ?T ?g ?a ?b ?d ?e ?_; (case F => k_asm); (case X => k_asm); (case T => k_asm); (case g => rfl); (case a => rfl); (case b => rfl); (case d => decide); (case e => k_is); k_whole))))
local macro_rules | `(tactic| walk_at "loadName") => `(tactic| (k_here; k_dflt (refine' ldn ?F ?v ?_ ?a ?b; (case F => k_asm); (case a => rfl); (case b => rfl); (case v => walk_at "look"); k_whole)))
local macro_rules | `(tactic| walk_at "stop") => `(tactic| first
  | (with_reducible show InvPostN _ _ _ _ _ _ _ _ _)
  | (with_reducible show InvEndN _ _ _ _ _ _ _)
  | (with_reducible show wpAny _ _ (eval (Expr.ListComp _ _ _ _) _) _ _ _)
  | (with_reducible show wpAny _ _ (pyIter _) _ _ _)
  | (with_reducible show wpAny _ _ (exec (Stmt.For _ _ _ _ _) _) _ _ _)
  | (with_reducible show wpAny _ _ (exec (Stmt.While _ _ _ _) _) _ _ _)
  | (with_reducible show wpAny _ _ (call (Value.ref _) _ _) _ _ _)
  | (with_reducible show wpAny _ _ (call (Value.builtin "sorted") _ _) _ _ _)
  | (with_reducible show wpAny _ _ (call (Value.builtin "str.join") _ _) _ _ _)
  | (with_reducible show wpAny _ _ (subscriptTail _ _ (Value.str _ _) (Value.int _ _)) _ _ _)
  | (with_reducible show wpAny _ _ (compareOp CmpOp.NotIn _ (Value.ref _)) _ _ _))
local macro_rules | `(tactic| walk_at "steps") => `(tactic| repeat (first | (k_unfold; (try dsimp only)) | ((fail_if_success walk_at "stop"); walk1) | ((fail_if_success walk_at "stop"); dsimp only; (fail_if_success walk_at "stop"); walk1)))
local macro_rules | `(tactic| walk_at "rest") => `(tactic| (with_reducible show wpAny _ _ (execs _ _) _ _ _))
local macro_rules | `(tactic| walk_at "stmt") => `(tactic| repeat ((fail_if_success walk_at "rest"); first | (k_unfold; (try dsimp only)) | ((fail_if_success walk_at "stop"); walk1) | ((fail_if_success walk_at "stop"); dsimp only; (fail_if_success walk_at "stop"); walk1)))
local macro_rules | `(tactic| walk_at "one") => `(tactic| first | (k_unfold; (try dsimp only)) | ((fail_if_success walk_at "stop"); walk1) | ((fail_if_success walk_at "stop"); dsimp only; (fail_if_success walk_at "stop"); walk1))
local macro_rules | `(tactic| k_all) => `(tactic| first | exact List.forall_mem_nil _ | with_reducible assumption | (refine' List.forall_mem_cons.mpr ⟨?a, ?b⟩; (case a => k_ne); (case b => k_all)))
local macro_rules | `(tactic| walk_at "stop") => `(tactic| first | (with_reducible show wpAny _ _ (newList _) _ _ _) | (with_reducible show InvPostG _ _ _ _ _ _ _ _) | (with_reducible show wpAny _ _ (setItem _ _ _) _ _ _) | (with_reducible show wpAny _ _ (subscriptTail _ _ (Value.ref _) (Value.str _ _)) _ _ _) | (with_reducible show wpAny _ _ (call (Value.builtin "list.append") _ _) _ _ _) | (with_reducible show wpAny _ _ (getMethod (Value.ref _) _ _) _ _ _))
structure Hide (p : Prop) : Prop where
  out : p
theorem allLt_ne {d : Addr} {tl : List (Addr × Obj)} : AllLt d tl → ∀ p ∈ tl, p.1 ≠ d := by
  induction tl with
  | nil => intro _ p hp; cases hp
  | cons q r ih =>
    intro h p hp
    rcases List.mem_cons.mp hp with rfl | hp
    · exact Nat.ne_of_lt h.1
    · exact ih h.2 p hp
theorem seg8 {w : World} {A : Around} {E : Value → Shared → Prop} {s : Shared} {g : Heap} {p : Program} {loose : List Str} {mg mb : Str → Option Value} {Q : Flow → Shared → Prop} {L fa : Addr} {cd : Value} {m : Str → Option Value} {o1 o2 o3 o4 o5 o6 o7 o8 : Obj} {tl : List (Addr × Obj)} (X : (hd.heap_39 w.params).In g) (T : TopRead p loose mg mb g) (hA : A.handled = none)
    (F : Fr g L s.heap m) (N : News g L s.heap ((L+1+1+1+1+1+1+1+1, o8) :: (L+1+1+1+1+1+1+1, o7) :: (L+1+1+1+1+1+1, o6) :: (L+1+1+1+1+1, o5) :: (L+1+1+1+1, o4) :: (L+1+1+1, o3) :: (L+1+1, o2) :: (L+1, o1) :: tl)) (d6 : o6.data = .cell none) (hoff : ∀ p ∈ tl, p.1 ≠ L+1+1+1+1+1+1)
    (hK : ∀ h' tk o6 P oP, Fr g L h' m → News g L h' ((P, oP) :: ((L+1+1+1+1+1+1+1+1, o8) :: (L+1+1+1+1+1+1+1, o7) :: (L+1+1+1+1+1+1, o6) :: (L+1+1+1+1+1, o5) :: (L+1+1+1+1, o4) :: (L+1+1+1, o3) :: (L+1+1, o2) :: (L+1, o1) :: tl)) → o6.data = .cell (some (.ref P)) → (P == sysModules) = false → oP.IsDictOf (PySem.strKind PG w) [] → (∀ p ∈ ((L+1+1+1+1+1+1+1+1, o8) :: (L+1+1+1+1+1+1+1, o7) :: (L+1+1+1+1+1+1, o6) :: (L+1+1+1+1+1, o5) :: (L+1+1+1+1, o4) :: (L+1+1+1, o3) :: (L+1+1, o2) :: (L+1, o1) :: tl), p.1 ≠ P) →
      wpAny (model PG w) A (execs (lawBody.drop 11) (lawEnv L fa cd)) Q E { s with heap := h', toks := tk }) :
    wpAny (model PG w) A (execs (lawBody.drop 10) (lawEnv L fa cd)) Q E s := by
  have e1 : lawBody.drop 10 = _ :: _ := rfl
  have e2 : lawScope = Scope.mk _ _ _ _ _ := rfl
  unfold lawEnv
  rw [e1, e2]
  clear e1 e2
  refine wpAny_execs_cons ?_
  walk_at "stmt"
  (with_reducible rename (Obj.data _ = Data.cell (some (Value.ref _))) => d5')
  (with_reducible rename (Obj.IsDictOf (PySem.strKind _ _) _ _) => hdk)
  (with_reducible rename ((_ == sysModules) = false) => hns)
  (with_reducible rename News _ _ _ _ => N3)
  (with_reducible rename Fr _ _ _ _ => F3)
  rename (_ ∧ _) => hlt
  obtain ⟨l8, l7, l6, l5, l4, l3, l2, l1, lP⟩ := hlt
  dsimp only
  exact hK _ _ _ _ _ F3 N3 d5' hns hdk (allLt_ne ⟨l8, l7, l6, l5, l4, l3, l2, l1, lP⟩)

def AfterIf (g : Heap) (L : Addr) (w : World) (last : List Nat) (i c : Nat) (P : Addr) (R : List (Addr × Obj)) (m : Str → Option Value) (s : Shared) (f : Flow) (s' : Shared) : Prop :=
  f = .next ∧ ∃ h' tk oP es, s' = { s with heap := h', toks := tk } ∧ Fr g L h' m ∧ News g L h' ((P, oP) :: (es.map Ent.o ++ R)) ∧ oP.IsDictOf (PySem.strKind PG w) (es.map Ent.kv) ∧ PInv last i P R es ∧ c ∈ es.map (·.c) ∧ es.length ≤ i + 1

theorem seg9 {w : World} {A : Around} {E : Value → Shared → Prop} {s : Shared} {g : Heap} {p : Program} {loose : List Str} {mg mb : Str → Option Value} {Q : Flow → Shared → Prop} {L fa : Addr} {cd : Value} {m : Str → Option Value} {o1 o2 o3 o4 o5 o6 o7 o8 : Obj} {last : List Nat} {u1 u2 : Tok} {P : Addr} {oP : Obj} {tl : List (Addr × Obj)} (X : (hd.heap_39 w.params).In g) (T : TopRead p loose mg mb g) (hA : A.handled = none) (hE : E = fun _ _ => False)
    (F : Fr g L s.heap m) (N : News g L s.heap ((P, oP) :: ((L+1+1+1+1+1+1+1+1, o8) :: (L+1+1+1+1+1+1+1, o7) :: (L+1+1+1+1+1+1, o6) :: (L+1+1+1+1+1, o5) :: (L+1+1+1+1, o4) :: (L+1+1+1, o3) :: (L+1+1, o2) :: (L+1, o1) :: tl))) (h16 : last.length ≤ 17) (hoff : ∀ p ∈ ((L+1+1+1+1+1+1+1+1, o8) :: (L+1+1+1+1+1+1+1, o7) :: (L+1+1+1+1+1+1, o6) :: (L+1+1+1+1+1, o5) :: (L+1+1+1+1, o4) :: (L+1+1+1, o3) :: (L+1+1, o2) :: (L+1, o1) :: tl), p.1 ≠ P)
    (m3 : m "count" = some (.int (last.length : Nat) u2)) (d4 : o4.data = .cell (some (.str ⟨last.toArray⟩ u1))) (d6 : o6.data = .cell (some (.ref P))) (hns : (P == sysModules) = false) (hd : oP.IsDictOf (PySem.strKind PG w) [])
    (hK : ∀ h' tk m' oP es, Fr g L h' m' → News g L h' ((P, oP) :: (es.map Ent.o ++ ((L+1+1+1+1+1+1+1+1, o8) :: (L+1+1+1+1+1+1+1, o7) :: (L+1+1+1+1+1+1, o6) :: (L+1+1+1+1+1, o5) :: (L+1+1+1+1, o4) :: (L+1+1+1, o3) :: (L+1+1, o2) :: (L+1, o1) :: tl))) → (∀ y : Str, y ≠ Str.ofString "p" → m' y = m y) → oP.IsDictOf (PySem.strKind PG w) (es.map Ent.kv) → PInv last last.length P (((L+1+1+1+1+1+1+1+1, o8) :: (L+1+1+1+1+1+1+1, o7) :: (L+1+1+1+1+1+1, o6) :: (L+1+1+1+1+1, o5) :: (L+1+1+1+1, o4) :: (L+1+1+1, o3) :: (L+1+1, o2) :: (L+1, o1) :: tl)) es →
      wpAny (model PG w) A (execs (lawBody.drop 12) (lawEnv L fa cd)) Q E { s with heap := h', toks := tk }) :
    wpAny (model PG w) A (execs (lawBody.drop 11) (lawEnv L fa cd)) Q E s := by
  subst hE
  have e1 : lawBody.drop 11 = _ :: _ := rfl
  have e2 : lawScope = Scope.mk _ _ _ _ _ := rfl
  unfold lawEnv
  rw [e1, e2]
  clear e1 e2
  refine wpAny_execs_cons ?_
  refine For_invV g rfl rfl ?_
  walk_at "stmt"
  (with_reducible rename IsRange _ _ _ _ _ _ _ _ => hRg)
  (with_reducible rename News _ _ _ _ => N4)
  (with_reducible rename Fr _ _ _ _ => F4)
  generalize hrest : ((L+1+1+1+1+1+1+1+1, o8) :: (L+1+1+1+1+1+1+1, o7) :: (L+1+1+1+1+1+1, o6) :: (L+1+1+1+1+1, o5) :: (L+1+1+1+1, o4) :: (L+1+1+1, o3) :: (L+1+1, o2) :: (L+1, o1) :: tl) = rest at N4 hoff
  refine range_loopG (n := last.length) (fun i m' news => (∀ y : Str, y ≠ Str.ofString "p" → m' y = m y) ∧ ∃ oP es, news = (P, oP) :: (es.map Ent.o ++ rest) ∧ oP.IsDictOf (PySem.strKind PG w) (es.map Ent.kv) ∧ PInv last i P rest es ∧ es.length ≤ i) hA hRg (by omega) F4 N4 ⟨fun _ _ => rfl, oP, [], rfl, hd, .zero, Nat.le_refl _⟩ ?_ ?_
  · rintro i m₁ news₁ h₁ tk tt own hi hoff2 ⟨hm, oP, es, rfl, hd, hI, hel⟩ F₁ N₁
    obtain ⟨c, hc⟩ : ∃ c, last[i]? = some c := ⟨last[i], by simp⟩
    have hcl : c ∈ last := List.mem_of_getElem? hc
    have hi1 : (i : Int).toNat = i := by omega
    have hcx : (⟨last.toArray⟩ : Str).cps[(i : Int).toNat]? = some c := by rw [hi1]; show last.toArray[i]? = _; rw [List.getElem?_toArray]; exact hc
    have hR : ∀ p ∈ rest ++ own, p.1 ≠ P := fun p hp => by
      rcases List.mem_append.mp hp with hp | hp
      · exact hoff p hp
      · exact hoff2 p hp P (by simp)
    have hI2 : PInv last i P (rest ++ own) es := hI.grow fun e he p hp => by
      rcases List.mem_append.mp hp with hp | hp
      · exact hI.aR e he p hp
      · refine hoff2 p hp e.a ?_
        simp only [List.map_cons, List.map_append, List.mem_cons, List.mem_append]
        exact .inr (.inl (List.mem_map.mpr ⟨Ent.o e, List.mem_map.mpr ⟨e, he, rfl⟩, rfl⟩))
    have N₂ : News g L h₁ ((P, oP) :: (es.map Ent.o ++ (rest ++ own))) := fun p hp => N₁ p (by simpa [List.append_assoc] using hp)
    have Nc : News g L h₁ ((L+1+1+1+1+1+1+1+1, o8) :: (L+1+1+1+1+1+1+1, o7) :: (L+1+1+1+1+1+1, o6) :: (L+1+1+1+1+1, o5) :: (L+1+1+1+1, o4) :: (L+1+1+1, o3) :: (L+1+1, o2) :: (L+1, o1) :: tl) := fun p hp => N₁ p (List.mem_append_left _ (.tail _ (List.mem_append_right _ (hrest ▸ hp))))
    clear N₁
    have hg := valueAt_ents (c := c) hI.nd
    refine wpAny_execs_cons (wpAny_mono (Q := AfterIf g L w last i c P (rest ++ own) (fun y => if y = Str.ofString "p" then some (.int (i : Int) tt) else m₁ y) { s with heap := h₁, toks := tk }) (E := fun _ _ => False) ?_ ?_ fun _ _ e => e)
    · have N₂h : Hide (News g L h₁ ((P, oP) :: (es.map Ent.o ++ (rest ++ own)))) := ⟨N₂⟩
      clear N₂
      have hmap : h₁.MapOf (PySem.strKind PG w) P (valueAt (es.map Ent.kv)) := (Heap.dictOf_iff.mpr ⟨oP, (N₂h.out _ (.head _)).1, hd⟩).mapOf
      walk_at "steps"
      refine item_cs (c := c) (by omega) (by omega) hcx ?_
      walk_at "steps"
      refine wpAny_notIn_of (strKind_is _ _ _ _) hns hmap ?_
      by_cases hce : c ∈ es.map (·.c)
      · obtain ⟨e, he, hec⟩ := List.mem_map.mp hce
        rw [hg.1 e he hec]
        dsimp only [Option.isSome_some, Bool.not_true]
        walk_at "steps"
        exact ⟨rfl, h₁, _, oP, es, rfl, F₁, N₂h.out, hd, hI2, hce, Nat.le_succ_of_le hel⟩
      · rw [hg.2 hce]
        dsimp only [Option.isSome_none, Bool.not_false]
        walk_at "steps"
        refine wpAny_newList ?_ (by rw [sizeLine_eq]; exact Nat.zero_le _)
        have hfree : ∀ q ∈ (P, oP) :: (es.map Ent.o ++ (rest ++ own)), q.1 ≠ h₁.objs.size := fun q hq => Nat.ne_of_lt (Heap.lt_size (N₂h.out q hq).1)
        have F3 := F₁.push { cls := .type "list", data := .seq ([] : List Value).toArray }
        have N3h : Hide (News g L (h₁.push { cls := .type "list", data := .seq ([] : List Value).toArray }) ((P, oP) :: ((es ++ [Ent.mk c h₁.objs.size 0 []]).map Ent.o ++ (rest ++ own)))) := ⟨fun q hq => by
          have : q ∈ (P, oP) :: (es.map Ent.o ++ (rest ++ own)) ∨ q = (h₁.objs.size, { cls := .type "list", data := .seq ([] : List Value).toArray }) := by
            simp only [List.map_append, List.mem_cons, List.mem_append, List.map_cons, List.map_nil, List.not_mem_nil, or_false] at hq ⊢
            rcases hq with h | (h | h) | h | h
            · exact .inl (.inl h)
            · exact .inl (.inr (.inl h))
            · exact .inr h
            · exact .inl (.inr (.inr (.inl h)))
            · exact .inl (.inr (.inr (.inr h)))
          rcases this with h | rfl
          · exact ⟨Heap.get?_push_of_some _ (N₂h.out q h).1, (N₂h.out q h).2⟩
          · exact ⟨Heap.get?_push_size _ rfl, (Nat.ne_of_lt F₁.ns.lt).symm, next_is_new F₁⟩⟩
        have Nc3 : News g L (h₁.push { cls := .type "list", data := .seq ([] : List Value).toArray }) ((L+1+1+1+1+1+1+1+1, o8) :: (L+1+1+1+1+1+1+1, o7) :: (L+1+1+1+1+1+1, o6) :: (L+1+1+1+1+1, o5) :: (L+1+1+1+1, o4) :: (L+1+1+1, o3) :: (L+1+1, o2) :: (L+1, o1) :: tl) := fun q hq => ⟨Heap.get?_push_of_some { cls := .type "list", data := .seq ([] : List Value).toArray } (Nc q hq).1, (Nc q hq).2⟩
        have hI3 : PInv last i P (rest ++ own) (es ++ [Ent.mk c h₁.objs.size 0 []]) := hI2.add hcl hce (fun e he => hfree (Ent.o e) (by simp only [List.mem_cons, List.mem_append]; exact .inr (.inl (List.mem_map.mpr ⟨e, he, rfl⟩)))) (Ne.symm (hfree (P, oP) (by simp))) (fun q hq => hfree q (.tail _ (List.mem_append_right _ hq)))
        clear F₁ Nc hmap N₂h
        walk_at "steps"
        refine item_cs (c := c) (by omega) (by omega) hcx ?_
        walk_at "steps"
        refine kda_set (knd := PySem.strKind PG w) (k := CS c) F3 N3h.out (UpdF.head ?_) hd (strKind_is _ _ _ _) ?_ fun h' o' F' N' hd' => ?_
        · intro q hq
          rcases List.mem_append.mp hq with hq | hq
          · obtain ⟨e, he, rfl⟩ := List.mem_map.mp hq
            exact hI3.aP e he
          · exact hR q hq
        · rw [List.length_map, sizeLine_eq]; omega
        · rw [stored_absent (hg.2 hce)] at hd'
          have hd2 : o'.IsDictOf (PySem.strKind PG w) ((es ++ [Ent.mk c h₁.objs.size 0 []]).map Ent.kv) := by rw [List.map_append]; exact hd'
          dsimp only
          have N'h : Hide _ := ⟨N'⟩
          clear N' Nc3 F3
          walk_at "steps"
          exact ⟨rfl, h', _, o', _, rfl, F', N'h.out, hd2, hI3, by simp, by simp; exact hel⟩
    · rintro f s' ⟨rfl, h', tk, oP, es, rfl, F5, N5, hd5, hI5, hc5, hel5⟩
      dsimp only
      refine wpAny_execs_cons ?_
      have N5h : Hide (News g L h' ((P, oP) :: (es.map Ent.o ++ (rest ++ own)))) := ⟨N5⟩
      have Nc' : News g L h' ((L+1+1+1+1+1+1+1+1, o8) :: (L+1+1+1+1+1+1+1, o7) :: (L+1+1+1+1+1+1, o6) :: (L+1+1+1+1+1, o5) :: (L+1+1+1+1, o4) :: (L+1+1+1, o3) :: (L+1+1, o2) :: (L+1, o1) :: tl) := fun p hp => N5 p (.tail _ (List.mem_append_right _ (List.mem_append_left _ (hrest ▸ hp))))
      clear N5 Nc F₁ N₂ hI2 hg
      walk_at "steps"
      refine item_cs (c := c) (by omega) (by omega) hcx ?_
      walk_at "steps"
      obtain ⟨e, he, hec⟩ := List.mem_map.mp hc5
      obtain ⟨pre, post, rfl⟩ := List.append_of_mem he
      have hmap : h'.MapOf (PySem.strKind PG w) P (valueAt ((pre ++ e :: post).map Ent.kv)) := (Heap.dictOf_iff.mpr ⟨oP, (N5h.out _ (.head _)).1, hd5⟩).mapOf
      refine item_dict hmap (strKind_is _ _ _ _) ((valueAt_ents (c := c) hI5.nd).1 e he hec) ?_
      walk_at "steps"
      have N6 : News g L h' (((P, oP) :: pre.map Ent.o) ++ (Ent.o e) :: (post.map Ent.o ++ (rest ++ own))) := by simpa [List.append_assoc] using N5h.out
      have heN := N6 (Ent.o e) (by simp)
      have N6h : Hide _ := ⟨N6⟩
      clear N6
      refine Calls.getMethod_list_append heN.1 rfl rfl ?_
      walk_at "steps"
      have hsz : e.vs.toArray.size ≤ sizeLine := by
        have h1 := (hI5.pos e he).length
        have h2 := posI_length (last.take i) e.c
        have h3 := List.length_take_le i last
        rw [sizeLine_eq, List.size_toArray]
        omega
      refine append_at heN.1 (fun h8 hs8 ho8 => ?_) hsz
      have hnd := hI5.ad
      rw [List.map_append, List.map_cons] at hnd
      have n2 := (List.nodup_append.mp hnd)
      have hpre : ∀ q ∈ (P, oP) :: pre.map Ent.o, q.1 ≠ e.a := fun q hq => by
        rcases List.mem_cons.mp hq with rfl | hq
        · exact (hI5.aP e he).symm
        · obtain ⟨d, hd, rfl⟩ := List.mem_map.mp hq
          exact n2.2.2 d.a (List.mem_map.mpr ⟨d, hd, rfl⟩) e.a (by simp)
      have hpost : ∀ q ∈ post.map Ent.o ++ (rest ++ own), q.1 ≠ e.a := fun q hq => by
        rcases List.mem_append.mp hq with hq | hq
        · obtain ⟨d, hd, rfl⟩ := List.mem_map.mp hq
          intro q
          exact (List.nodup_cons.mp n2.2.1).1 (q ▸ List.mem_map.mpr ⟨d, hd, rfl⟩)
        · exact hI5.aR e he q hq
      have F6 := F5.change hs8 heN.2.1 heN.2.2
      have N7 := news_set N6h.out hpre hpost hs8 ho8
      have N8h : Hide (News g L h8 ((P, oP) :: ((pre ++ Ent.mk e.c e.a (e.k + 1) (e.vs ++ [.int (i : Int) tt]) :: post).map Ent.o ++ (rest ++ own)))) := ⟨fun q hq => N7 q (by
        simp only [List.map_append, List.map_cons, List.mem_append, List.mem_cons] at hq ⊢
        rcases hq with h | (h | h | h) | h | h
        · exact .inl (.inl h)
        · exact .inl (.inr h)
        · refine .inr (.inl (h.trans ?_))
          simp [Ent.o, PySem.W.listOf]
        · exact .inr (.inr (.inl h))
        · exact .inr (.inr (.inr (.inl h)))
        · exact .inr (.inr (.inr (.inr h))))⟩
      have hb := hI5.bump (k' := e.k + 1) (t := tt) (hec ▸ hc)
      clear N7 N6h F5 Nc' N5h
      walk_at "steps"
      have hkv : (pre ++ Ent.mk e.c e.a (e.k + 1) (e.vs ++ [.int (i : Int) tt]) :: post).map Ent.kv = (pre ++ e :: post).map Ent.kv := by simp [Ent.kv]
      refine InvPostG.intro (InvEndG.intro (nx := (P, oP) :: ((pre ++ Ent.mk e.c e.a (e.k + 1) (e.vs ++ [.int (i : Int) tt]) :: post).map Ent.o ++ rest)) F6 N8h.out ⟨fun y hy => (upd_ne (by simpa using hy) rfl).trans (hm y hy), oP, _, rfl, hkv ▸ hd5, hb.grow fun d hd q hq => hb.aR d hd q (List.mem_append_left _ hq), by simpa using hel5⟩ ?_ ?_ ?_)
      · intro q hq
        simp only [List.mem_append, List.mem_cons] at hq ⊢
        rcases hq with h | h | h
        · exact .inl h
        · exact .inr (.inl h)
        · exact .inr (.inr (.inl h))
      · intro q hq
        exact .tail _ (List.mem_append_right _ (List.mem_append_right _ hq))
      · intro q hq b hb'
        obtain ⟨q', hq', rfl⟩ := List.mem_map.mp hb'
        rcases List.mem_cons.mp hq' with rfl | hq'
        · exact hR q (List.mem_append_right _ hq)
        rcases List.mem_append.mp hq' with h | h
        · obtain ⟨d, hd, rfl⟩ := List.mem_map.mp h
          exact hb.aR d hd q (List.mem_append_right _ hq)
        · refine hoff2 q hq q'.1 (List.mem_map.mpr ⟨q', .tail _ (List.mem_append_right _ h), rfl⟩)
  · rintro m₁ news₁ h tk ⟨hm, oP, es, rfl, hd, hI, hel⟩ F₁ N₁
    dsimp only
    subst hrest
    exact hK _ _ _ _ _ F₁ N₁ hm hd hI
end Mine
end

-- part Ll
section
open PySem PySem.W PySem.Calls PyProof.Rows
set_option Elab.async false
set_option maxRecDepth 100000
set_option maxHeartbeats 8000000
namespace Mine
section
variable {prog : Program} {w : World} {A : Around} {E : Value → Shared → Prop} {s : Shared} {env : Env} {h₀ : Heap} {x : Str} {body : List Stmt} {Q : Flow → Shared → Prop}
/-- a loop over a list that the ledger holds -/
theorem list_loop {D : Addr} {vs : List Value} {m₀ : Str → Option Value} {news : List (Addr × Obj)} (J : Nat → (Str → Option Value) → List (Addr × Obj) → Prop)
    (hh : A.handled = none) (F : Fr h₀ env.locals s.heap m₀) (N : News h₀ env.locals s.heap news) (hD : s.heap.IsList D vs.toArray) (hDL : D ≠ env.locals) (hlt : ∀ q ∈ news, q.1 ≠ D) (hj : J 0 m₀ news)
    (turn : ∀ (i : Nat) v m₁ news₁ h tk own, vs[i]? = some v → news₁.map (·.1) = news.map (·.1) → OwnOff own (news.map (·.1)) → J i m₁ news₁ → Fr h₀ env.locals h (fun y => if y = x then some v else m₁ y) → News h₀ env.locals h (news₁ ++ own) →
      wpAny (model prog w) A (execs body env) (InvPostN h₀ env.locals (J (i + 1)) own (news.map (·.1)) { s with heap := h, toks := tk } Q) E { s with heap := h, toks := tk })
    (done : ∀ m₁ news₁ h tk, J vs.length m₁ news₁ → Fr h₀ env.locals h m₁ → News h₀ env.locals h news₁ → Q .next { s with heap := h, toks := tk }) :
    wpAny (model prog w) A (pyIter (.ref D)) (fun it s₂ => LoopAtV prog w A h₀ env x body Q E it s₂) E s := by
  refine wpAny_pyIter_list hD ?_
  obtain ⟨ol, hol, _⟩ := id hD
  have hDs : D < s.heap.objs.size := Heap.lt_size hol
  have W := Walks.list (prog := prog) (w := w) hh s.heap.objs.size D (Nat.ne_of_lt hDs) vs.toArray
  have hlen : vs.toArray.size = vs.length := by simp
  rw [hlen] at W
  refine loop_invN J W ?_ ?_ ?_ ?_ ⟨⟨_, Heap.get?_push_size _ rfl, rfl, rfl⟩, hD.at fun o e => Heap.get?_push_of_some _ e⟩ (F.push _) (fun p hp => ⟨Heap.get?_push_of_some _ (N p hp).1, (N p hp).2⟩) hj ?_ ?_
  · intro hm
    rcases List.mem_cons.mp hm with e | hm
    · exact absurd F.ns.lt (e ▸ Nat.lt_irrefl _)
    · exact hDL (List.mem_singleton.mp hm).symm
  · intro b hb
    rw [List.mem_singleton.mp hb]
    exact next_is_new F
  · intro p hp hI
    exact absurd (Heap.lt_size (N p hp).1) ((List.mem_singleton.mp hI) ▸ Nat.lt_irrefl _)
  · intro p hp hI
    rcases List.mem_cons.mp hI with e | hI
    · exact absurd (Heap.lt_size (N p hp).1) (e ▸ Nat.lt_irrefl _)
    · exact hlt p hp (List.mem_singleton.mp hI)
  · rintro i v m₁ nx h tk own hi hP ha hoff hJ F₁ N₁
    exact turn i v m₁ nx h tk own (by rw [← List.getElem?_toArray]; exact hP) ha hoff hJ F₁ N₁
  · exact done
end

structure PlacesOK (w : World) (last : List Nat) (P : Addr) (oP : Obj) (es : List Ent) (tl : List (Addr × Obj)) : Prop where
  hm : (P, oP) ∈ tl
  he : ∀ e ∈ es, e.o ∈ tl
  hd : oP.IsDictOf (PySem.strKind PG w) (es.map Ent.kv)
  ns : (P == sysModules) = false
  pos : ∀ e ∈ es, IntsAre e.vs (posI last e.c)
  mem : ∀ e ∈ es, e.c ∈ last
  all : ∀ c ∈ last, c ∈ es.map (·.c)
  nd : (es.map (·.c)).Nodup
  len : es.length ≤ last.length

def totL (last l : List Nat) : Nat := (l.map fun c => (posI last c).length).sum
theorem pos_count (last : List Nat) (c : Nat) : (posI last c).length = (last.filter (· == c)).length := by
  have key : ∀ i, i ≤ last.length → (posI (last.take i) c).length = ((last.take i).filter (· == c)).length := by
    intro i
    induction i with
    | zero => intro _; rfl
    | succ i ih =>
      intro hi
      have hc : last[i]? = some last[i] := by simp
      rw [posI_succ hc, List.take_add_one, hc, List.filter_append, List.length_append]
      by_cases q : last[i] = c
      · rw [if_pos q, List.length_append, ih (by omega)]; simp [q]
      · rw [if_neg q, ih (by omega)]; simp [q]
  simpa using key last.length (Nat.le_refl _)
theorem filter_split (last : List Nat) (c : Nat) (l : List Nat) (h : c ∉ l) : (last.filter fun x => (c :: l).contains x).length = (last.filter (· == c)).length + (last.filter fun x => l.contains x).length := by
  induction last with
  | nil => rfl
  | cons x r ih =>
    by_cases q : x = c
    · subst q
      have : l.contains x = false := by simpa using h
      simp only [List.filter_cons, List.contains_cons, beq_self_eq_true, Bool.true_or, if_true, List.length_cons, this, Bool.false_eq_true, if_false]
      simp only [List.contains_cons] at ih
      omega
    · have hb : (x == c) = false := by simpa using q
      by_cases q2 : l.contains x = true
      · simp only [List.filter_cons, List.contains_cons, hb, Bool.false_or, q2, if_true, List.length_cons, Bool.false_eq_true, if_false]
        simp only [List.contains_cons] at ih
        omega
      · simp only [List.filter_cons, List.contains_cons, hb, Bool.false_or, q2, Bool.false_eq_true, if_false]
        simp only [List.contains_cons] at ih
        exact ih
theorem tot_filter (last : List Nat) : ∀ l : List Nat, l.Nodup → totL last l = (last.filter fun x => l.contains x).length
  | [], _ => by rw [List.filter_eq_nil_iff.mpr (by simp)]; rfl
  | c :: l, h => by
    have h2 := List.nodup_cons.mp h
    rw [filter_split last c l h2.1, ← tot_filter last l h2.2, ← pos_count]
    simp [totL]
theorem tot_less {last cs : List Nat} {j c : Nat} (hs : cs.Pairwise (· < ·)) (hall : ∀ x ∈ last, x ∈ cs) (hj : cs[j]? = some c) : ((totL last (cs.take j) : Nat) : Int) = lessI last c := by
  have hnd : (cs.take j).Nodup := (hs.sublist (List.take_sublist j cs)).imp fun h => Nat.ne_of_lt h
  rw [tot_filter last _ hnd]
  unfold lessI
  congr 1
  have hjl : j < cs.length := (List.getElem?_eq_some_iff.mp hj).1
  have hjc : cs[j] = c := (List.getElem?_eq_some_iff.mp hj).2
  have hp := List.pairwise_iff_getElem.mp hs
  refine congrArg List.length (List.filter_congr fun x hx => ?_)
  obtain ⟨k, hk, rfl⟩ := List.mem_iff_getElem.mp (hall x hx)
  rw [Bool.eq_iff_iff, List.contains_iff_mem, decide_eq_true_iff]
  constructor
  · intro h
    obtain ⟨k2, hk2, e⟩ := List.mem_iff_getElem.mp h
    rw [List.getElem_take] at e
    rw [List.length_take] at hk2
    have : cs[k2] < cs[j] := hp k2 j (by omega) hjl (by omega)
    omega
  · intro h
    have hkj : k < j := by
      rcases Nat.lt_trichotomy k j with q | q | q
      · exact q
      · subst q; omega
      · have := hp j k hjl hk q; omega
    refine List.mem_iff_getElem.mpr ⟨k, by rw [List.length_take]; omega, by rw [List.getElem_take]⟩
end Mine
end

-- part Sd
section
open PySem PySem.W PySem.Calls PyProof.Rows
set_option Elab.async false
set_option maxRecDepth 100000
set_option maxHeartbeats 8000000
namespace Mine

theorem rising_pw : ∀ (l : List Str) (p : Str), risingS p l = true → (p :: l).Pairwise fun a b => a.cps.toList ≤ b.cps.toList
  | [], p, _ => by simp
  | x :: r, p, h => by
    have h' : (!Spec.ltCps x.cps.toList p.cps.toList && risingS x r) = true := h
    rw [Bool.and_eq_true] at h'
    have h1 : p.cps.toList ≤ x.cps.toList := by
      have := h'.1
      rw [ltCps_eq] at this
      exact List.not_lt.mp (by simpa using this)
    have ih := rising_pw r x h'.2
    refine List.pairwise_cons.mpr ⟨fun y hy => ?_, ih⟩
    rcases List.mem_cons.mp hy with rfl | hy
    · exact h1
    · exact List.le_trans h1 ((List.pairwise_cons.mp ih).1 y hy)
theorem sortedS_pw {l : List Str} (h : sortedS l = true) : l.Pairwise fun a b => a.cps.toList ≤ b.cps.toList := by
  cases l with
  | nil => simp
  | cons x r => exact rising_pw r x h
theorem cs_of_perm {ss : List Str} {cs : List Nat} (hp : ss.Perm (cs.map CS)) (hs : sortedS ss = true) : ∃ cs' : List Nat, ss = cs'.map CS ∧ cs'.Perm cs ∧ cs'.Pairwise (· ≤ ·) := by
  have e : ∀ {l : List Str}, (∀ x ∈ l, ∃ c, x = CS c) → l = (l.map fun x => x.cps.getD 0 0).map CS := by
    intro l
    induction l with
    | nil => intro _; rfl
    | cons x r ih =>
      intro h
      rw [List.map_cons, List.map_cons, ← ih fun y hy => h y (.tail _ hy)]
      obtain ⟨c, rfl⟩ := h x (.head _)
      rfl
  have h1 := e (l := ss) (fun x hx => by
    obtain ⟨c, _, rfl⟩ := List.mem_map.mp (hp.mem_iff.mp hx)
    exact ⟨c, rfl⟩)
  refine ⟨_, h1, ?_, ?_⟩
  · have := hp.map fun x : Str => x.cps.getD 0 0
    rw [List.map_map] at this
    have e2 : cs.map ((fun x : Str => x.cps.getD 0 0) ∘ CS) = cs := by
      rw [show ((fun x : Str => x.cps.getD 0 0) ∘ CS) = id from by funext c; rfl, List.map_id]
    rw [e2] at this
    exact this
  · have h2 := sortedS_pw hs
    rw [h1, List.pairwise_map] at h2
    refine h2.imp fun {a b} hab => ?_
    have h3 : [a] ≤ [b] := hab
    rcases Nat.lt_or_ge b a with q | q
    · exact absurd h3 (List.not_le.mpr (List.Lex.rel q))
    · exact q

section
variable {prog : Program} {w : World} {A : Around} {E : Value → Shared → Prop} {s : Shared} {h₀ : Heap} {L : Addr} {m : Str → Option Value} {news : List (Addr × Obj)} {Q : Value → Shared → Prop} {cs : List Nat}

theorem sorted_src {v : Value} (F : Fr h₀ L s.heap m) (N : News h₀ L s.heap news) (h64 : cs.length < 64)
    (hcol : ∀ R : List Value → Shared → Prop, (∀ h' tk vs, (∀ b o, s.heap.get? b = some o → h'.get? b = some o) → StrsAre vs (cs.map CS) → R vs { s with heap := h', toks := tk }) → wpAny (model prog w) A.in1 (collect v) R E s)
    (h : ∀ D h' tk vs' (cs' : List Nat) e, Fr h₀ L h' m → News h₀ L h' ((D, listOf (List.toArray vs') e) :: news) → (∀ q ∈ news, q.1 < D) → StrsAre vs' (cs'.map CS) → cs'.Perm cs → cs'.Pairwise (· ≤ ·) → Q (.ref D) { s with heap := h', toks := tk }) :
    wpAny (model prog w) A (call (.builtin "sorted") [v]) Q E s := by
  refine call_function_entry kind_sorted plain_sorted entry_sorted (args_sorted1 _) ?_
  unfold Builtin.«sorted»
  refine wpAny_bind (m := checkCount "sorted" 1 1 _) (wpAny_pure ?_)
  refine wpAny_bind (hcol _ fun h' tk vs hk hS => ?_)
  have hlen : vs.length < 64 := by rw [hS.len_eq, List.length_map]; exact h64
  refine wpAny_bind (wpAny_newList ?_ (by rw [sizeLine_eq]; omega))
  have F1 := (F.keeps hk).push (seqObj "list" vs.toArray 0)
  have N1 : News h₀ L (h'.push (seqObj "list" vs.toArray 0)) ((h'.objs.size, seqObj "list" vs.toArray 0) :: news) := News.push (F.keeps hk) (fun p hp => ⟨hk _ _ (N p hp).1, (N p hp).2⟩) _ rfl
  have hlt : ∀ q ∈ news, q.1 < h'.objs.size := fun q hq => Heap.lt_size (hk _ _ (N q hq).1)
  have ho := (N1 _ (.head _))
  show wpAny _ _ _ _ _ { s with heap := h'.push (seqObj "list" vs.toArray 0), toks := tk }
  refine wpAny_bind (wpAny_holding (wpAny_call_entry slot_list_sort ⟨_, ho.1, rfl⟩ entry_list_sort (list_sort_treeK strKind_oneLt ho.1 hS.keysOf (fun v₁ v₂ rest e => keyKind_strs (by rw [← e]; exact hS)) hlen fun st' a1 a2 => ⟨_, rfl, ?_⟩) (args_list_sort _)))
  obtain ⟨ss', b1, b2, b3⟩ := sorted_out_str hS a1 a2
  obtain ⟨cs', rfl, c2, c3⟩ := cs_of_perm b2 b3
  obtain ⟨e, he⟩ := sortedHeap_at (out := (arrOf st').map (·.2)) ho.1
  have hsz : (h'.push (seqObj "list" vs.toArray 0)).objs.size = h'.objs.size + 1 := Heap.size_push _ _
  have old : ∀ b o, b ≠ h'.objs.size → (h'.push (seqObj "list" vs.toArray 0)).get? b = some o → (sortedHeap (h'.push (seqObj "list" vs.toArray 0)) h'.objs.size vs ((arrOf st').map (·.2))).get? b = some o := fun b o hb e => by
    rw [sortedHeap_old hb (Heap.lt_size e)]; exact e
  have hL : L ≠ h'.objs.size := Nat.ne_of_lt (F.keeps hk).ns.lt
  refine wpAny_pure ⟨_, rfl, h h'.objs.size _ _ ((arrOf st').map (·.2)).toList cs' e ?_ ?_ hlt b1 c2 c3⟩
  · obtain ⟨oL, a1, a2, hL', a3⟩ := F1.ns
    refine ⟨⟨oL, a1, a2, old _ _ hL hL', a3⟩, fun b o e => old b o ?_ (F1.keep b o e), F1.above⟩
    have := Heap.lt_size (hk _ _ (F.keep b o e))
    exact Nat.ne_of_lt this
  · intro q hq
    rcases List.mem_cons.mp hq with rfl | hq
    · refine ⟨?_, ho.2⟩
      rw [Array.toArray_toList]; exact he
    · exact ⟨old _ _ (Nat.ne_of_lt (hlt q hq)) (N1 q (.tail _ hq)).1, (N1 q (.tail _ hq)).2⟩

/-- sorted of a text -/
theorem sorted_text {t : Tok} (hh : A.handled = none) (F : Fr h₀ L s.heap m) (N : News h₀ L s.heap news) (h64 : cs.length < 64)
    (h : ∀ D h' tk vs' (cs' : List Nat) e, Fr h₀ L h' m → News h₀ L h' ((D, listOf (List.toArray vs') e) :: news) → (∀ q ∈ news, q.1 < D) → StrsAre vs' (cs'.map CS) → cs'.Perm cs → cs'.Pairwise (· ≤ ·) → Q (.ref D) { s with heap := h', toks := tk }) :
    wpAny (model prog w) A (call (.builtin "sorted") [.str ⟨cs.toArray⟩ t]) Q E s := by
  refine sorted_src F N h64 (fun R hR => ?_) h
  refine wpAny_collect_str (A := A.in1) hh ⟨cs.toArray⟩ t (fun s' acc hk hg hd ho hI => ?_) (by show cs.toArray.size ≤ _; rw [List.size_toArray, sizeLine_eq]; omega)
  have : s' = { s with heap := s'.heap, toks := s'.toks } := by
    obtain ⟨h1, g1, d1, t1, o1⟩ := s'
    dsimp only at hg hd ho
    subst hg hd ho
    rfl
  rw [this]
  refine hR _ _ _ hk ?_
  have key : ∀ (zs : List Value) (l : List Nat), zs.length = l.length → (∀ (i : Nat) (v : Value), zs[i]? = some v → ∃ c u, l[i]? = some c ∧ v = .str (CS c) u) → StrsAre zs (l.map CS) := by
    intro zs
    induction zs with
    | nil => intro l hl h; cases l with
      | nil => exact .nil
      | cons _ _ => simp at hl
    | cons z zs ih => intro l hl h; cases l with
      | nil => simp at hl
      | cons q l =>
        obtain ⟨c, u, hc, rfl⟩ := h 0 z rfl
        obtain rfl : q = c := Option.some.inj hc
        exact .cons _ _ (ih l (by simpa using hl) fun i v hv => by simpa using h (i + 1) v (by simpa using hv))
  refine key acc.toList cs ?_ fun i v hv => ?_
  · have := hI.1
    rw [Array.length_toList, this]; show cs.toArray.size = _; simp
  · obtain ⟨c, u, hc, rfl⟩ := hI.2 i v (by rw [← Array.getElem?_toList]; exact hv)
    exact ⟨c, u, by rw [← List.getElem?_toArray]; exact hc, rfl⟩

/-- sorted of a dict whose keys are signs -/
theorem sorted_keys {d : Addr} {kvs : List (Str × Value)} {o : Obj} (hh : A.handled = none) (lo : (d == sysModules) = false) (F : Fr h₀ L s.heap m) (N : News h₀ L s.heap news) (hm : (d, o) ∈ news) (hd : o.IsDictOf (PySem.strKind prog w) kvs) (hk : kvs.map (·.1) = cs.map CS) (h64 : cs.length < 64)
    (h : ∀ D h' tk vs' (cs' : List Nat) e, Fr h₀ L h' m → News h₀ L h' ((D, listOf (List.toArray vs') e) :: news) → (∀ q ∈ news, q.1 < D) → StrsAre vs' (cs'.map CS) → cs'.Perm cs → cs'.Pairwise (· ≤ ·) → Q (.ref D) { s with heap := h', toks := tk }) :
    wpAny (model prog w) A (call (.builtin "sorted") [.ref d]) Q E s := by
  have hkl : kvs.length = cs.length := by have := congrArg List.length hk; simpa using this
  refine sorted_src F N h64 (fun R hR => ?_) h
  have hD : s.heap.DictOf (PySem.strKind prog w) d kvs := Heap.dictOf_iff.mpr ⟨o, (N _ hm).1, hd⟩
  obtain ⟨ep, hat⟩ := hD.dictAt
  refine kdu_collect (A := A.in1) (kdl_dict (knd := PySem.strKind prog w) (kvs := kvs) (ep := ep) lo) hh hat (by rw [sizeLine_eq]; omega) fun h' tk acc hkeep hI => ?_
  refine hR _ _ _ hkeep ?_
  have key : ∀ (zs : List Value) (l : List Nat), zs.length = l.length → (∀ (i : Nat) (v : Value), zs[i]? = some v → ∃ c u, l[i]? = some c ∧ v = .str (CS c) u) → StrsAre zs (l.map CS) := by
    intro zs
    induction zs with
    | nil => intro l hl h; cases l with
      | nil => exact .nil
      | cons _ _ => simp at hl
    | cons z zs ih => intro l hl h; cases l with
      | nil => simp at hl
      | cons q l =>
        obtain ⟨c, u, hc, rfl⟩ := h 0 z rfl
        obtain rfl : q = c := Option.some.inj hc
        exact .cons _ _ (ih l (by simpa using hl) fun i v hv => by simpa using h (i + 1) v (by simpa using hv))
  refine key acc.toList cs (by rw [Array.length_toList, hI.1, hkl]) fun i v hv => ?_
  obtain ⟨k, x, hx, hkv⟩ := hI.2 i v (by rw [← Array.getElem?_toList]; exact hv)
  have hkc : (kvs.map (·.1))[i]? = some k := by rw [List.getElem?_map, hx]; rfl
  rw [hk, List.getElem?_map] at hkc
  obtain ⟨c, hc, rfl⟩ := Option.map_eq_some_iff.mp hkc
  obtain ⟨u, rfl⟩ : ∃ u, v = .str (CS c) u := Value.isStrOf_shape hkv
  exact ⟨c, u, hc, rfl⟩
end
end Mine
end

-- part L8
section
open PySem PySem.W PySem.Calls PyProof.Rows
set_option Elab.async false
set_option maxRecDepth 100000
set_option maxHeartbeats 8000000
set_option pp.maxSteps 300
set_option pp.deepTerms false
namespace Mine
theorem warmL8 : (∀ P, _root_.hd.heap_39 P = _root_.hd.heap_39 P) ∧ PySem.Challenge.rw_dj5002_01 = PySem.Challenge.rw_dj5002_01 := by
  k_fill
  exact ⟨fun _ => rfl, rfl⟩
local macro_rules | `(tactic| walk_at "look") => `(tactic| first | with_reducible assumption | exact upd_eq | (refine upd_ne (by decide) ?_; walk_at "look") | exact if_pos rfl | (refine Eq.trans (if_neg (by decide)) ?_; walk_at "look"))
local macro_rules | `(tactic| walk_at "eval Name") => `(tactic| (k_here; k_dflt (first
  | (refine' nmL ?F ?e ?a ?b ?d ?v ?_; (case F => k_asm); (case e => rfl); (case a => rfl); (case b => rfl); (case d => decide); (case v => walk_at "look"); k_whole)
  | (refine' nmC ?F ?a ?b ?c ?o ?d ?e ?_; (case F => k_asm); (case a => rfl); (case b => rfl); (case c => rfl); (case o => exact News.get (by k_asm) (by k_mem)); (case d => k_asm); (case e => decide); k_whole)
  | (refine' nmB ?F ?X ?T ?g ?bb ?a ?b ?d ?e ?v ?n ?_; (case F => k_asm); (case X => k_asm); (case T => k_asm); (case g => rfl); (case bb => rfl); (case a => rfl); (case b => rfl); (case d => decide); (case e => k_is); (case v => boot_fast); (case n => decide); k_whole)
  | (refine' nmK ?F ?X ?T ?g ?a ?b ?d ?e ?_; (case F => k_asm); (case X => k_asm); (case T => k_asm); (case g => rfl); (case a => rfl); (case b => rfl); (case d => decide); (case e => k_is); k_whole))))
local macro_rules | `(tactic| walk_at "loadName") => `(tactic| (k_here; k_dflt (refine' ldn ?F ?v ?_ ?a ?b; (case F => k_asm); (case a => rfl); (case b => rfl); (case v => walk_at "look"); k_whole)))
local macro_rules | `(tactic| walk_at "stop") => `(tactic| first
  | (with_reducible show InvPostN _ _ _ _ _ _ _ _ _)
  | (with_reducible show InvEndN _ _ _ _ _ _ _)
  | (with_reducible show wpAny _ _ (eval (Expr.ListComp _ _ _ _) _) _ _ _)
  | (with_reducible show wpAny _ _ (pyIter _) _ _ _)
  | (with_reducible show wpAny _ _ (exec (Stmt.For _ _ _ _ _) _) _ _ _)
  | (with_reducible show wpAny _ _ (exec (Stmt.While _ _ _ _) _) _ _ _)
  | (with_reducible show wpAny _ _ (call (Value.ref _) _ _) _ _ _)
  | (with_reducible show wpAny _ _ (call (Value.builtin "sorted") _ _) _ _ _)
  | (with_reducible show wpAny _ _ (call (Value.builtin "str.join") _ _) _ _ _)
  | (with_reducible show wpAny _ _ (subscriptTail _ _ (Value.str _ _) (Value.int _ _)) _ _ _)
  | (with_reducible show wpAny _ _ (compareOp CmpOp.NotIn _ (Value.ref _)) _ _ _))
local macro_rules | `(tactic| walk_at "steps") => `(tactic| repeat (first | (k_unfold; (try dsimp only)) | ((fail_if_success walk_at "stop"); walk1) | ((fail_if_success walk_at "stop"); dsimp only; (fail_if_success walk_at "stop"); walk1)))
local macro_rules | `(tactic| walk_at "rest") => `(tactic| (with_reducible show wpAny _ _ (execs _ _) _ _ _))
local macro_rules | `(tactic| walk_at "stmt") => `(tactic| repeat ((fail_if_success walk_at "rest"); first | (k_unfold; (try dsimp only)) | ((fail_if_success walk_at "stop"); walk1) | ((fail_if_success walk_at "stop"); dsimp only; (fail_if_success walk_at "stop"); walk1)))
local macro_rules | `(tactic| walk_at "one") => `(tactic| first | (k_unfold; (try dsimp only)) | ((fail_if_success walk_at "stop"); walk1) | ((fail_if_success walk_at "stop"); dsimp only; (fail_if_success walk_at "stop"); walk1))
theorem ldA {M : Model} {A : Around} {E : Value → Shared → Prop} {s : Shared} {h₀ : Heap} {C : Addr} {m : Str → Option Value} {env : Env} {x : Str} {v : Value} {Q : Value → Shared → Prop} (F : Fr h₀ C s.heap m) (hL : env.locals = C) (hk : env.scope.kind = .function) (hx : env.kindOf x = some .local) (hv : m x = some v) (h : Q v s) :
    wpAny M A (loadName env x) Q E s := wpAny_loadName_local hk hx (hL ▸ F.ns) hv h
local macro_rules | `(tactic| walk_at "loadName") => `(tactic| (k_here; k_dflt (refine' ldA ?F ?e ?a ?b ?v ?_; (case F => k_asm); (case e => rfl); (case a => rfl); (case b => rfl); (case v => walk_at "look"); k_whole)))
local macro_rules | `(tactic| k_all) => `(tactic| first | exact List.forall_mem_nil _ | with_reducible assumption | (refine' List.forall_mem_cons.mpr ⟨?a, ?b⟩; (case a => k_ne); (case b => k_all)))
local macro_rules | `(tactic| walk_at "stop") => `(tactic| first | (with_reducible show InvPostG _ _ _ _ _ _ _ _) | (with_reducible show wpAny _ _ (setItem _ _ _) _ _ _) | (with_reducible show wpAny _ _ (subscriptTail _ _ (Value.ref _) (Value.str _ _)) _ _ _) | (with_reducible show wpAny _ _ (call (Value.builtin "list.append") _ _) _ _ _) | (with_reducible show wpAny _ _ (call (Value.builtin "len") [Value.ref _]) _ _ _) | (with_reducible show wpAny _ _ (getMethod (Value.ref _) _ _) _ _ _))
def LessKV (last cs : List Nat) (i : Nat) (kvs : List (Str × Value)) : Prop :=
  kvs.length ≤ i ∧ (∀ (j c : Nat), i ≤ j → cs[j]? = some c → valueAt kvs (CS c) = none) ∧ ∀ (j c : Nat), j < i → cs[j]? = some c → ∃ u, valueAt kvs (CS c) = some (.int (totL last (cs.take j) : Nat) u)
theorem LessKV.zero {last cs : List Nat} : LessKV last cs 0 [] := ⟨Nat.le_refl _, fun _ _ _ _ => rfl, fun _ _ h => absurd h (Nat.not_lt_zero _)⟩
theorem LessKV.put {last cs : List Nat} {i c : Nat} {u : Tok} {kvs : List (Str × Value)} (hs : cs.Nodup) (h : LessKV last cs i kvs) (hq : cs[i]? = some c) : LessKV last cs (i + 1) (stored kvs (CS c) (.int (totL last (cs.take i) : Nat) u)) := by
  have inj : ∀ j d : Nat, cs[j]? = some d → (CS c = CS d ↔ j = i) := by
    intro j d hd
    obtain ⟨h1, h2⟩ := List.getElem?_eq_some_iff.mp hd
    obtain ⟨h3, h4⟩ := List.getElem?_eq_some_iff.mp hq
    constructor
    · intro e
      have e2 : c = d := by simpa using e
      have hp := List.pairwise_iff_getElem.mp hs
      rcases Nat.lt_trichotomy j i with q | q | q
      · exact absurd (by rw [h2, h4, e2]) (hp j i h1 h3 q)
      · exact q
      · exact absurd (by rw [h2, h4, e2]) (hp i j h3 h1 q)
    · rintro rfl
      rw [hq] at hd; cases hd; rfl
  rw [stored_absent (h.2.1 i c (Nat.le_refl _) hq)]
  refine ⟨by have := h.1; simp; omega, fun j d hj hd => ?_, fun j d hj hd => ?_⟩
  · rw [valueAt_snoc, h.2.1 j d (by omega) hd, if_neg (fun e => by have := (inj j d hd).mp e; omega)]; rfl
  · rw [valueAt_snoc]
    by_cases e : j = i
    · subst e
      rw [hq] at hd; cases hd
      rw [h.2.1 j c (Nat.le_refl _) hq, if_pos rfl]
      exact ⟨u, rfl⟩
    · rw [if_neg (fun q => e ((inj j d hd).mp q)), Option.or_none]
      exact h.2.2 j d (by omega) hd

theorem seg12 {w : World} {A : Around} {E : Value → Shared → Prop} {s : Shared} {g : Heap} {p : Program} {loose : List Str} {mg mb : Str → Option Value} {Q : Flow → Shared → Prop} {L fa : Addr} {cd : Value} {m : Str → Option Value} {o1 o2 o3 o4 o5 o6 o7 o8 : Obj} {tl : List (Addr × Obj)} (X : (hd.heap_39 w.params).In g) (T : TopRead p loose mg mb g) (hA : A.handled = none)
    (F : Fr g L s.heap m) (N : News g L s.heap ((L+1+1+1+1+1+1+1+1, o8) :: (L+1+1+1+1+1+1+1, o7) :: (L+1+1+1+1+1+1, o6) :: (L+1+1+1+1+1, o5) :: (L+1+1+1+1, o4) :: (L+1+1+1, o3) :: (L+1+1, o2) :: (L+1, o1) :: tl)) (d7 : o7.data = .cell none) (hoff : ∀ p ∈ tl, p.1 ≠ L+1+1+1+1+1+1+1)
    (hK : ∀ h' tk m' o7 P oP u, Fr g L h' m' → News g L h' ((P, oP) :: ((L+1+1+1+1+1+1+1+1, o8) :: (L+1+1+1+1+1+1+1, o7) :: (L+1+1+1+1+1+1, o6) :: (L+1+1+1+1+1, o5) :: (L+1+1+1+1, o4) :: (L+1+1+1, o3) :: (L+1+1, o2) :: (L+1, o1) :: tl)) → (∀ y : Str, y ≠ Str.ofString "total" → m' y = m y) → m' "total" = some (.int 0 u) → o7.data = .cell (some (.ref P)) → (P == sysModules) = false → oP.IsDictOf (PySem.strKind PG w) [] → (∀ p ∈ ((L+1+1+1+1+1+1+1+1, o8) :: (L+1+1+1+1+1+1+1, o7) :: (L+1+1+1+1+1+1, o6) :: (L+1+1+1+1+1, o5) :: (L+1+1+1+1, o4) :: (L+1+1+1, o3) :: (L+1+1, o2) :: (L+1, o1) :: tl), p.1 ≠ P) →
      wpAny (model PG w) A (execs (lawBody.drop 14) (lawEnv L fa cd)) Q E { s with heap := h', toks := tk }) :
    wpAny (model PG w) A (execs (lawBody.drop 12) (lawEnv L fa cd)) Q E s := by
  have e1 : lawBody.drop 12 = _ :: _ := rfl
  have e2 : lawScope = Scope.mk _ _ _ _ _ := rfl
  unfold lawEnv
  rw [e1, e2]
  clear e1 e2
  refine wpAny_execs_cons ?_
  walk_at "stmt"
  (with_reducible rename (Obj.data _ = Data.cell (some (Value.ref _))) => d5')
  (with_reducible rename (Obj.IsDictOf (PySem.strKind _ _) _ _) => hdk)
  (with_reducible rename ((_ == sysModules) = false) => hns)
  rename (_ ∧ _) => hlt
  obtain ⟨l8, l7, l6, l5, l4, l3, l2, l1, lP⟩ := hlt
  dsimp only
  refine wpAny_execs_cons ?_
  walk_at "stmt"
  (with_reducible rename News _ _ _ _ => N3)
  (with_reducible rename Fr _ _ _ _ => F3)
  exact hK _ _ _ _ _ _ _ F3 N3 (fun y hy => if_neg hy) (by walk_at "look") d5' hns hdk (allLt_ne ⟨l8, l7, l6, l5, l4, l3, l2, l1, lP⟩)

theorem seg14 {w : World} {A : Around} {E : Value → Shared → Prop} {s : Shared} {g : Heap} {p : Program} {loose : List Str} {mg mb : Str → Option Value} {Q : Flow → Shared → Prop} {L fa : Addr} {cd : Value} {m : Str → Option Value} {o1 o2 o3 o4 o5 o6 o7 o8 : Obj} {last : List Nat} {u2 : Tok} {P Ls : Addr} {oP oL : Obj} {es : List Ent} {tl : List (Addr × Obj)} (X : (hd.heap_39 w.params).In g) (T : TopRead p loose mg mb g) (hA : A.handled = none) (hE : E = fun _ _ => False)
    (F : Fr g L s.heap m) (N : News g L s.heap ((Ls, oL) :: ((L+1+1+1+1+1+1+1+1, o8) :: (L+1+1+1+1+1+1+1, o7) :: (L+1+1+1+1+1+1, o6) :: (L+1+1+1+1+1, o5) :: (L+1+1+1+1, o4) :: (L+1+1+1, o3) :: (L+1+1, o2) :: (L+1, o1) :: tl))) (h16 : last.length ≤ 17) (hoff : ∀ p ∈ ((L+1+1+1+1+1+1+1+1, o8) :: (L+1+1+1+1+1+1+1, o7) :: (L+1+1+1+1+1+1, o6) :: (L+1+1+1+1+1, o5) :: (L+1+1+1+1, o4) :: (L+1+1+1, o3) :: (L+1+1, o2) :: (L+1, o1) :: tl), p.1 ≠ Ls) (Y : PlacesOK w last P oP es tl)
    (m3 : m "total" = some (.int 0 u2)) (d6 : o6.data = .cell (some (.ref P))) (d7 : o7.data = .cell (some (.ref Ls))) (hns : (Ls == sysModules) = false) (hd : oL.IsDictOf (PySem.strKind PG w) [])
    (hK : ∀ h' tk m' oL kvs, Fr g L h' m' → News g L h' ((Ls, oL) :: ((L+1+1+1+1+1+1+1+1, o8) :: (L+1+1+1+1+1+1+1, o7) :: (L+1+1+1+1+1+1, o6) :: (L+1+1+1+1+1, o5) :: (L+1+1+1+1, o4) :: (L+1+1+1, o3) :: (L+1+1, o2) :: (L+1, o1) :: tl)) → (∀ y : Str, y ≠ Str.ofString "sign" → y ≠ Str.ofString "total" → m' y = m y) → oL.IsDictOf (PySem.strKind PG w) kvs → (∀ c ∈ last, ∃ u, valueAt kvs (CS c) = some (.int (lessI last c) u)) →
      wpAny (model PG w) A (execs (lawBody.drop 15) (lawEnv L fa cd)) Q E { s with heap := h', toks := tk }) :
    wpAny (model PG w) A (execs (lawBody.drop 14) (lawEnv L fa cd)) Q E s := by
  subst hE
  have e1 : lawBody.drop 14 = _ :: _ := rfl
  have e2 : lawScope = Scope.mk _ _ _ _ _ := rfl
  unfold lawEnv
  rw [e1, e2]
  clear e1 e2
  refine wpAny_execs_cons ?_
  refine For_invV g rfl rfl ?_
  walk_at "stmt"
  (with_reducible rename News _ _ _ _ => N4)
  (with_reducible rename Fr _ _ _ _ => F4)
  have hel := Y.len
  refine sorted_keys (cs := es.map (·.c)) hA Y.ns F4 N4 (by simp [Y.hm]) Y.hd (by rw [List.map_map, List.map_map]; rfl) (by rw [List.length_map]; omega) fun D h5 tk5 vs5 cs5 e5 F5 N5 hlt5 hS5 hp5 hs5 => ?_
  have hnd5 : cs5.Nodup := hp5.nodup_iff.mpr Y.nd
  have hst5 : cs5.Pairwise (· < ·) := by
    refine (hs5.and hnd5).imp fun {a b} h => ?_
    have := h.1; have := h.2; omega
  have hall5 : ∀ x ∈ last, x ∈ cs5 := fun x hx => hp5.mem_iff.mpr (Y.all x hx)
  have hlen5 : vs5.length = cs5.length := by rw [hS5.len_eq, List.length_map]
  have hcl : cs5.length ≤ 17 := by rw [hp5.length_eq, List.length_map]; omega
  have hD5 := N5 _ (.head _)
  walk_at "stmt"
  generalize hrest : ((L+1+1+1+1+1+1+1+1, o8) :: (L+1+1+1+1+1+1+1, o7) :: (L+1+1+1+1+1+1, o6) :: (L+1+1+1+1+1, o5) :: (L+1+1+1+1, o4) :: (L+1+1+1, o3) :: (L+1+1, o2) :: (L+1, o1) :: tl) = rest at N5 hlt5 hoff N4
  have N5' : News g L h5 ((Ls, oL) :: rest) := fun q hq => N5 q (.tail _ hq)
  refine list_loop (vs := vs5) (fun i m' news => (∀ y : Str, y ≠ Str.ofString "sign" → y ≠ Str.ofString "total" → m' y = m y) ∧ (∃ u, m' "total" = some (.int (totL last (cs5.take i) : Nat) u)) ∧ ∃ oL kvs, news = (Ls, oL) :: rest ∧ oL.IsDictOf (PySem.strKind PG w) kvs ∧ LessKV last cs5 i kvs) hA F5 N5' ⟨_, hD5.1, rfl, _, rfl⟩ hD5.2.1 (fun q hq => Nat.ne_of_lt (hlt5 q hq)) ⟨fun _ _ _ => rfl, ⟨_, m3⟩, oL, [], rfl, hd, .zero⟩ ?_ ?_
  · rintro i v m₁ news₁ h₁ tk own hv _ hoff2 ⟨hm, ⟨u, j1⟩, oL, kvs, rfl, hd, hI⟩ F₁ N₁
    have hi : i < cs5.length := by rw [← hlen5]; exact (List.getElem?_eq_some_iff.mp hv).1
    obtain ⟨c, hc⟩ : ∃ c, cs5[i]? = some c := ⟨cs5[i], by simp⟩
    obtain ⟨tv, rfl⟩ : ∃ tv, v = .str (CS c) tv := by
      obtain ⟨tv, htv⟩ := hS5.get i (CS c) (by rw [List.getElem?_map, hc]; rfl)
      rw [hv] at htv
      exact ⟨tv, Option.some.inj htv⟩
    have hall : ∀ p ∈ rest ++ own, p.1 ≠ Ls := fun p hp => by
      rcases List.mem_append.mp hp with hp | hp
      · exact hoff p hp
      · exact hoff2 p hp Ls (by simp)
    obtain ⟨e, he, hec⟩ : ∃ e ∈ es, e.c = c := by
      have := hp5.mem_iff.mp (List.mem_of_getElem? hc)
      exact List.mem_map.mp this
    clear N5 N5' N4 hD5
    subst hrest
    have N₂ : News g L h₁ ((Ls, oL) :: ((L+1+1+1+1+1+1+1+1, o8) :: (L+1+1+1+1+1+1+1, o7) :: (L+1+1+1+1+1+1, o6) :: (L+1+1+1+1+1, o5) :: (L+1+1+1+1, o4) :: (L+1+1+1, o3) :: (L+1+1, o2) :: (L+1, o1) :: (tl ++ own))) := N₁
    have hall' : ∀ p ∈ ((L+1+1+1+1+1+1+1+1, o8) :: (L+1+1+1+1+1+1+1, o7) :: (L+1+1+1+1+1+1, o6) :: (L+1+1+1+1+1, o5) :: (L+1+1+1+1, o4) :: (L+1+1+1, o3) :: (L+1+1, o2) :: (L+1, o1) :: (tl ++ own)), p.1 ≠ Ls := hall
    clear N₁
    walk_at "steps"
    refine kda_set (knd := PySem.strKind PG w) F₁ N₂ (UpdF.head hall') hd (strKind_is _ _ _ _) (by have := hI.1; rw [sizeLine_eq]; omega) fun h' o' F' N' hd' => ?_
    clear N₂ F₁
    have hmem : ∀ p ∈ tl, p ∈ (Ls, o') :: ((L+1+1+1+1+1+1+1+1, o8) :: (L+1+1+1+1+1+1+1, o7) :: (L+1+1+1+1+1+1, o6) :: (L+1+1+1+1+1, o5) :: (L+1+1+1+1, o4) :: (L+1+1+1, o3) :: (L+1+1, o2) :: (L+1, o1) :: (tl ++ own)) := fun p hp => by simp [hp]
    have hmap : h'.MapOf (PySem.strKind PG w) P (valueAt (es.map Ent.kv)) := (Heap.dictOf_iff.mpr ⟨oP, (N' _ (hmem _ Y.hm)).1, Y.hd⟩).mapOf
    have hl : h'.IsList e.a e.vs.toArray := ⟨_, (N' _ (hmem _ (Y.he e he))).1, rfl, _, rfl⟩
    walk_at "steps"
    refine item_dict hmap (strKind_is _ _ _ _) ((valueAt_ents (c := c) Y.nd).1 e he hec) ?_
    walk_at "steps"
    have hsz : e.vs.length = (posI last e.c).length := (Y.pos e he).length
    have hsz2 := posI_length last e.c
    refine len_list hl (by rw [List.size_toArray]; omega) ?_
    walk_at "steps"
    (with_reducible rename News _ _ _ _ => N9)
    (with_reducible rename Fr _ _ _ _ => F9)
    have hsum : (totL last (cs5.take i) : Int) + (e.vs.toArray.size : Int) = (totL last (cs5.take (i + 1)) : Int) := by
      rw [List.take_add_one, hc, List.size_toArray, hsz, hec]
      simp [totL]
    rw [hsum] at F9
    refine InvEndN.intro (nx := (Ls, o') :: ((L+1+1+1+1+1+1+1+1, o8) :: (L+1+1+1+1+1+1+1, o7) :: (L+1+1+1+1+1+1, o6) :: (L+1+1+1+1+1, o5) :: (L+1+1+1+1, o4) :: (L+1+1+1, o3) :: (L+1+1, o2) :: (L+1, o1) :: tl)) F9 N9 ⟨fun y hy hy2 => (if_neg hy2).trans ((if_neg hy).trans (hm y hy hy2)), ⟨_, if_pos rfl⟩, o', _, rfl, hd', hI.put hnd5 hc⟩ rfl (fun p hp => ?_) (fun p hp => ?_)
    · simp only [List.mem_cons, List.mem_append] at hp ⊢
      rcases hp with h | h | h | h | h | h | h | h | h | h <;> simp [h]
    · simp [hp]
  · rintro m₁ news₁ h tk ⟨hm, _, oL, kvs, rfl, hd, hI⟩ F₁ N₁
    dsimp only
    subst hrest
    refine hK _ _ _ _ _ F₁ N₁ hm hd fun c hc => ?_
    obtain ⟨j, hj, e⟩ := List.mem_iff_getElem.mp (hall5 c hc)
    have hj' : cs5[j]? = some c := by rw [List.getElem?_eq_getElem hj, e]
    rw [← tot_less hst5 hall5 hj']
    exact hI.2.2 j c (by omega) hj'
end Mine
end

-- part L9
section
open PySem PySem.W PySem.Calls PyProof.Rows
set_option Elab.async false
set_option maxRecDepth 100000
set_option maxHeartbeats 8000000
set_option pp.maxSteps 300
set_option pp.deepTerms false
namespace Mine
theorem warmL9 : (∀ P, _root_.hd.heap_39 P = _root_.hd.heap_39 P) ∧ PySem.Challenge.rw_dj5002_01 = PySem.Challenge.rw_dj5002_01 := by
  k_fill
  exact ⟨fun _ => rfl, rfl⟩
local macro_rules | `(tactic| walk_at "look") => `(tactic| first | with_reducible assumption | exact upd_eq | (refine upd_ne (by decide) ?_; walk_at "look") | exact if_pos rfl | (refine Eq.trans (if_neg (by decide)) ?_; walk_at "look"))
local macro_rules | `(tactic| walk_at "eval Name") => `(tactic| (k_here; k_dflt (first
  | (refine' nmL ?F ?e ?a ?b ?d ?v ?_; (case F => k_asm); (case e => rfl); (case a => rfl); (case b => rfl); (case d => decide); (case v => walk_at "look"); k_whole)
  | (refine' nmC ?F ?a ?b ?c ?o ?d ?e ?_; (case F => k_asm); (case a => rfl); (case b => rfl); (case c => rfl); (case o => exact News.get (by k_asm) (by k_mem)); (case d => k_asm); (case e => decide); k_whole)
  | (refine' nmB ?F ?X ?T ?g ?bb ?a ?b ?d ?e ?v ?n ?_; (case F => k_asm); (case X => k_asm); (case T => k_asm); (case g => rfl); (case bb => rfl); (case a => rfl); (case b => rfl); (case d => decide); (case e => k_is); (case v => boot_fast); (case n => decide); k_whole)
  | (refine' nmK ?F ?X ?T ?g ?a ?b ?d ?e ?_; (case F => k_asm); (case X => k_asm); (case T => k_asm); (case g => rfl); (case a => rfl); (case b => rfl); (case d => decide); (case e => k_is); k_whole))))
local macro_rules | `(tactic| walk_at "loadName") => `(tactic| (k_here; k_dflt (refine' ldn ?F ?v ?_ ?a ?b; (case F => k_asm); (case a => rfl); (case b => rfl); (case v => walk_at "look"); k_whole)))
local macro_rules | `(tactic| walk_at "stop") => `(tactic| first
  | (with_reducible show InvPostN _ _ _ _ _ _ _ _ _)
  | (with_reducible show InvEndN _ _ _ _ _ _ _)
  | (with_reducible show wpAny _ _ (eval (Expr.ListComp _ _ _ _) _) _ _ _)
  | (with_reducible show wpAny _ _ (pyIter _) _ _ _)
  | (with_reducible show wpAny _ _ (exec (Stmt.For _ _ _ _ _) _) _ _ _)
  | (with_reducible show wpAny _ _ (exec (Stmt.While _ _ _ _) _) _ _ _)
  | (with_reducible show wpAny _ _ (call (Value.ref _) _ _) _ _ _)
  | (with_reducible show wpAny _ _ (call (Value.builtin "sorted") _ _) _ _ _)
  | (with_reducible show wpAny _ _ (call (Value.builtin "str.join") _ _) _ _ _)
  | (with_reducible show wpAny _ _ (subscriptTail _ _ (Value.str _ _) (Value.int _ _)) _ _ _)
  | (with_reducible show wpAny _ _ (compareOp CmpOp.NotIn _ (Value.ref _)) _ _ _))
local macro_rules | `(tactic| walk_at "steps") => `(tactic| repeat (first | (k_unfold; (try dsimp only)) | ((fail_if_success walk_at "stop"); walk1) | ((fail_if_success walk_at "stop"); dsimp only; (fail_if_success walk_at "stop"); walk1)))
local macro_rules | `(tactic| walk_at "rest") => `(tactic| (with_reducible show wpAny _ _ (execs _ _) _ _ _))
local macro_rules | `(tactic| walk_at "stmt") => `(tactic| repeat ((fail_if_success walk_at "rest"); first | (k_unfold; (try dsimp only)) | ((fail_if_success walk_at "stop"); walk1) | ((fail_if_success walk_at "stop"); dsimp only; (fail_if_success walk_at "stop"); walk1)))
local macro_rules | `(tactic| walk_at "one") => `(tactic| first | (k_unfold; (try dsimp only)) | ((fail_if_success walk_at "stop"); walk1) | ((fail_if_success walk_at "stop"); dsimp only; (fail_if_success walk_at "stop"); walk1))
local macro_rules | `(tactic| walk_at "loadName") => `(tactic| (k_here; k_dflt (refine' ldA ?F ?e ?a ?b ?v ?_; (case F => k_asm); (case e => rfl); (case a => rfl); (case b => rfl); (case v => walk_at "look"); k_whole)))
local macro_rules | `(tactic| k_all) => `(tactic| first | exact List.forall_mem_nil _ | with_reducible assumption | (refine' List.forall_mem_cons.mpr ⟨?a, ?b⟩; (case a => k_ne); (case b => k_all)))
local macro_rules | `(tactic| walk_at "stop") => `(tactic| first | (with_reducible show InvPostG _ _ _ _ _ _ _ _) | (with_reducible show wpAny _ _ (setItem _ _ _) _ _ _) | (with_reducible show wpAny _ _ (subscriptTail _ _ (Value.ref _) (Value.str _ _)) _ _ _) | (with_reducible show wpAny _ _ (call (Value.builtin "list.append") _ _) _ _ _) | (with_reducible show wpAny _ _ (call (Value.builtin "len") [Value.ref _]) _ _ _) | (with_reducible show wpAny _ _ (getMethod (Value.ref _) _ _) _ _ _))
open PyProof.V PySem.Spec PySem.SeqAt
theorem shaped_cs (cs : List Nat) (hc : ∀ c ∈ cs, c < 200) : SeqAt.shaped (.list (cs.map fun c => PyData.str (CS c))) = true := by
  have h1 : PyData.canLayAll0 (cs.map fun c => PyData.str (CS c)) = true := by
    induction cs with
    | nil => rfl
    | cons c r ih =>
      have : PyData.strOk (CS c) = true := by
        have := hc c (.head _)
        simp [PyData.strOk]; omega
      simp [PyData.canLayAll0, PyData.canLay0, ih fun d hd => hc d (.tail _ hd), this]
  have h2 : PyData.depthAll (cs.map fun c => PyData.str (CS c)) = 0 := by
    clear hc h1
    induction cs with
    | nil => rfl
    | cons c r ih => simp [PyData.depthAll, PyData.depth, ih]
  simp [SeqAt.shaped, PyData.canLay0, PyData.depth, h1, h2]
theorem same_cs (cs : List Nat) : PySem.Spec.sameAll (cs.map fun c => PyData.str (CS c)) (cs.map fun c => PyData.str (CS c)) = true := by
  induction cs with
  | nil => simp [PySem.Spec.sameAll]
  | cons c r ih => simp only [List.map_cons, PySem.Spec.sameAll, PySem.Spec.same, ih]; simp
theorem carried_cs : ∀ {vs : List Value} {cs : List Nat}, StrsAre vs (cs.map CS) → CarriedAll vs (cs.map fun c => PyData.str (CS c))
  | [], [], .nil => .nil
  | _, _ :: _, .cons _ t r => .cons (.str _ t) (carried_cs r)
theorem ne_cs {prog : Program} {w : World} {A : Around} {E : Value → Shared → Prop} {s : Shared} {a b : Addr} {xs ys : List Value} {cs : List Nat} {Q : Value → Shared → Prop} (hc : ∀ c ∈ cs, c < 200) (ha : s.heap.IsList a xs.toArray) (hb : s.heap.IsList b ys.toArray) (hi : StrsAre xs (cs.map CS)) (hj : StrsAre ys (cs.map CS)) (hu : A.units + 64 < cLine) (h : Q (.bool false) s) :
    wpAny (model prog w) A (compareOp .NotEq (.ref a) (.ref b)) Q E s :=
  ne_dataH_same (reads_newData ha (carried_cs hi)) (reads_newData hb (carried_cs hj)) (shaped_cs _ hc) (shaped_cs _ hc) hu (SeqAt.noMix_of_shape (.list .str) rfl _ _ (list_map_has fun _ => rfl) (list_map_has fun _ => rfl)) (by simp only [PySem.Spec.same]; rw [same_cs]; exact h)
theorem sorted_uniq {a b : List Nat} (p : a.Perm b) (ha : a.Pairwise (· ≤ ·)) (hb : b.Pairwise (· ≤ ·)) : a = b := by
  have up : ∀ {l : List Nat}, l.Pairwise (· ≤ ·) → (l.map Int.ofNat).Pairwise (· ≤ ·) := fun h => by
    rw [List.pairwise_map]; exact h.imp fun h => Int.ofNat_le.mpr h
  have e := congrArg (List.map Int.toNat) (lks_uniq (p.map Int.ofNat) (up ha) (up hb))
  simpa [List.map_map, Function.comp_def] using e
local macro_rules | `(tactic| walk_at "stop") => `(tactic| (with_reducible show wpAny _ _ (compareOp CmpOp.NotEq (Value.ref _) (Value.ref _)) _ _ _))
theorem seg15 {w : World} {A : Around} {E : Value → Shared → Prop} {s : Shared} {g : Heap} {p : Program} {loose : List Str} {mg mb : Str → Option Value} {Q : Flow → Shared → Prop} {L fa : Addr} {cd : Value} {m : Str → Option Value} {o1 o2 o3 o4 o5 o6 o7 o8 : Obj} {last wh : List Nat} {u1 u2 : Tok} {tl : List (Addr × Obj)} (X : (hd.heap_39 w.params).In g) (T : TopRead p loose mg mb g) (hA : A.handled = none) (hu : A.units + 64 < cLine)
    (F : Fr g L s.heap m) (N : News g L s.heap ((L+1+1+1+1+1+1+1+1, o8) :: (L+1+1+1+1+1+1+1, o7) :: (L+1+1+1+1+1+1, o6) :: (L+1+1+1+1+1, o5) :: (L+1+1+1+1, o4) :: (L+1+1+1, o3) :: (L+1+1, o2) :: (L+1, o1) :: tl)) (h16 : last.length ≤ 17) (hp : last.Perm wh) (h200 : ∀ c ∈ wh, c < 200)
    (d3 : o3.data = .cell (some (.str ⟨wh.toArray⟩ u1))) (d4 : o4.data = .cell (some (.str ⟨last.toArray⟩ u2)))
    (hK : ∀ h' tk, Fr g L h' m → News g L h' ((L+1+1+1+1+1+1+1+1, o8) :: (L+1+1+1+1+1+1+1, o7) :: (L+1+1+1+1+1+1, o6) :: (L+1+1+1+1+1, o5) :: (L+1+1+1+1, o4) :: (L+1+1+1, o3) :: (L+1+1, o2) :: (L+1, o1) :: tl) →
      wpAny (model PG w) A (execs (lawBody.drop 16) (lawEnv L fa cd)) Q E { s with heap := h', toks := tk }) :
    wpAny (model PG w) A (execs (lawBody.drop 15) (lawEnv L fa cd)) Q E s := by
  have e1 : lawBody.drop 15 = _ :: _ := rfl
  have e2 : lawScope = Scope.mk _ _ _ _ _ := rfl
  unfold lawEnv
  rw [e1, e2]
  clear e1 e2
  refine wpAny_execs_cons ?_
  walk_at "stmt"
  (with_reducible rename News _ _ _ _ => N4)
  (with_reducible rename Fr _ _ _ _ => F4)
  refine sorted_text (cs := last) hA F4 N4 (by omega) fun D h5 tk5 vs5 cs5 e5 F5 N5 hlt5 hS5 hp5 hs5 => ?_
  clear N4
  walk_at "stmt"
  refine sorted_text (cs := wh) hA F5 N5 (by have := hp.length_eq; omega) fun D6 h6 tk6 vs6 cs6 e6 F6 N6 hlt6 hS6 hp6 hs6 => ?_
  have e : cs5 = cs6 := sorted_uniq ((hp5.trans hp).trans hp6.symm) hs5 hs6
  subst e
  clear N5
  walk_at "stmt"
  refine ne_cs (cs := cs5) (fun c hc => h200 c (hp6.mem_iff.mp hc)) ⟨_, (N6 _ (.tail _ (.head _))).1, rfl, _, rfl⟩ ⟨_, (N6 _ (.head _)).1, rfl, _, rfl⟩ hS5 hS6 hu ?_
  have N7 : News g L h6 ((L+1+1+1+1+1+1+1+1, o8) :: (L+1+1+1+1+1+1+1, o7) :: (L+1+1+1+1+1+1, o6) :: (L+1+1+1+1+1, o5) :: (L+1+1+1+1, o4) :: (L+1+1+1, o3) :: (L+1+1, o2) :: (L+1, o1) :: tl) := fun q hq => N6 q (.tail _ (.tail _ hq))
  clear N6
  walk_at "stmt"
  refine wpAny_execs_nil ?_
  dsimp only
  exact hK _ _ (by k_asm) (by k_asm)
end Mine
end

-- part L10
section
open PySem PySem.W PySem.Calls PyProof.Rows
set_option Elab.async false
set_option maxRecDepth 100000
set_option maxHeartbeats 8000000
set_option pp.maxSteps 300
set_option pp.deepTerms false
namespace Mine
theorem warmL10 : (∀ P, _root_.hd.heap_39 P = _root_.hd.heap_39 P) ∧ PySem.Challenge.rw_dj5002_01 = PySem.Challenge.rw_dj5002_01 := by
  k_fill
  exact ⟨fun _ => rfl, rfl⟩
local macro_rules | `(tactic| walk_at "look") => `(tactic| first | with_reducible assumption | exact upd_eq | (refine upd_ne (by decide) ?_; walk_at "look") | exact if_pos rfl | (refine Eq.trans (if_neg (by decide)) ?_; walk_at "look"))
local macro_rules | `(tactic| walk_at "eval Name") => `(tactic| (k_here; k_dflt (first
  | (refine' nmL ?F ?e ?a ?b ?d ?v ?_; (case F => k_asm); (case e => rfl); (case a => rfl); (case b => rfl); (case d => decide); (case v => walk_at "look"); k_whole)
  | (refine' nmC ?F ?a ?b ?c ?o ?d ?e ?_; (case F => k_asm); (case a => rfl); (case b => rfl); (case c => rfl); (case o => exact News.get (by k_asm) (by k_mem)); (case d => k_asm); (case e => decide); k_whole)
  | (refine' nmB ?F ?X ?T ?g ?bb ?a ?b ?d ?e ?v ?n ?_; (case F => k_asm); (case X => k_asm); (case T => k_asm); (case g => rfl); (case bb => rfl); (case a => rfl); (case b => rfl); (case d => decide); (case e => k_is); (case v => boot_fast); (case n => decide); k_whole)
  | (refine' nmK ?F ?X ?T ?g ?a ?b ?d ?e ?_; (case F => k_asm); (case X => k_asm); (case T => k_asm); (case g => rfl); (case a => rfl); (case b => rfl); (case d => decide); (case e => k_is); k_whole))))
local macro_rules | `(tactic| walk_at "loadName") => `(tactic| (k_here; k_dflt (refine' ldn ?F ?v ?_ ?a ?b; (case F => k_asm); (case a => rfl); (case b => rfl); (case v => walk_at "look"); k_whole)))
local macro_rules | `(tactic| walk_at "stop") => `(tactic| first
  | (with_reducible show InvPostN _ _ _ _ _ _ _ _ _)
  | (with_reducible show InvEndN _ _ _ _ _ _ _)
  | (with_reducible show wpAny _ _ (eval (Expr.ListComp _ _ _ _) _) _ _ _)
  | (with_reducible show wpAny _ _ (pyIter _) _ _ _)
  | (with_reducible show wpAny _ _ (exec (Stmt.For _ _ _ _ _) _) _ _ _)
  | (with_reducible show wpAny _ _ (exec (Stmt.While _ _ _ _) _) _ _ _)
  | (with_reducible show wpAny _ _ (call (Value.ref _) _ _) _ _ _)
  | (with_reducible show wpAny _ _ (call (Value.builtin "sorted") _ _) _ _ _)
  | (with_reducible show wpAny _ _ (call (Value.builtin "str.join") _ _) _ _ _)
  | (with_reducible show wpAny _ _ (subscriptTail _ _ (Value.str _ _) (Value.int _ _)) _ _ _)
  | (with_reducible show wpAny _ _ (compareOp CmpOp.NotIn _ (Value.ref _)) _ _ _))
local macro_rules | `(tactic| walk_at "steps") => `(tactic| repeat (first | (k_unfold; (try dsimp only)) | ((fail_if_success walk_at "stop"); walk1) | ((fail_if_success walk_at "stop"); dsimp only; (fail_if_success walk_at "stop"); walk1)))
local macro_rules | `(tactic| walk_at "rest") => `(tactic| (with_reducible show wpAny _ _ (execs _ _) _ _ _))
local macro_rules | `(tactic| walk_at "stmt") => `(tactic| repeat ((fail_if_success walk_at "rest"); first | (k_unfold; (try dsimp only)) | ((fail_if_success walk_at "stop"); walk1) | ((fail_if_success walk_at "stop"); dsimp only; (fail_if_success walk_at "stop"); walk1)))
local macro_rules | `(tactic| walk_at "one") => `(tactic| first | (k_unfold; (try dsimp only)) | ((fail_if_success walk_at "stop"); walk1) | ((fail_if_success walk_at "stop"); dsimp only; (fail_if_success walk_at "stop"); walk1))
local macro_rules | `(tactic| walk_at "loadName") => `(tactic| (k_here; k_dflt (refine' ldA ?F ?e ?a ?b ?v ?_; (case F => k_asm); (case e => rfl); (case a => rfl); (case b => rfl); (case v => walk_at "look"); k_whole)))
local macro_rules | `(tactic| k_all) => `(tactic| first | exact List.forall_mem_nil _ | with_reducible assumption | (refine' List.forall_mem_cons.mpr ⟨?a, ?b⟩; (case a => k_ne); (case b => k_all)))
local macro_rules | `(tactic| walk_at "stop") => `(tactic| first | (with_reducible show InvPostG _ _ _ _ _ _ _ _) | (with_reducible show wpAny _ _ (setItem _ _ _) _ _ _) | (with_reducible show wpAny _ _ (subscriptTail _ _ (Value.ref _) (Value.str _ _)) _ _ _) | (with_reducible show wpAny _ _ (call (Value.builtin "list.append") _ _) _ _ _) | (with_reducible show wpAny _ _ (call (Value.builtin "len") [Value.ref _]) _ _ _) | (with_reducible show wpAny _ _ (getMethod (Value.ref _) _ _) _ _ _))
theorem seg16 {w : World} {A : Around} {E : Value → Shared → Prop} {s : Shared} {g : Heap} {p : Program} {loose : List Str} {mg mb : Str → Option Value} {Q : Flow → Shared → Prop} {L fa : Addr} {cd : Value} {m : Str → Option Value} {o1 o2 o3 o4 o5 o6 o7 o8 : Obj} {tl : List (Addr × Obj)} (X : (hd.heap_39 w.params).In g) (T : TopRead p loose mg mb g) (hA : A.handled = none)
    (F : Fr g L s.heap m) (N : News g L s.heap ((L+1+1+1+1+1+1+1+1, o8) :: (L+1+1+1+1+1+1+1, o7) :: (L+1+1+1+1+1+1, o6) :: (L+1+1+1+1+1, o5) :: (L+1+1+1+1, o4) :: (L+1+1+1, o3) :: (L+1+1, o2) :: (L+1, o1) :: tl))
    (hK : ∀ h' tk m' Sn u1 u2, Fr g L h' m' → News g L h' ((Sn, listOf #[] 0) :: ((L+1+1+1+1+1+1+1+1, o8) :: (L+1+1+1+1+1+1+1, o7) :: (L+1+1+1+1+1+1, o6) :: (L+1+1+1+1+1, o5) :: (L+1+1+1+1, o4) :: (L+1+1+1, o3) :: (L+1+1, o2) :: (L+1, o1) :: tl)) → (∀ p ∈ ((L+1+1+1+1+1+1+1+1, o8) :: (L+1+1+1+1+1+1+1, o7) :: (L+1+1+1+1+1+1, o6) :: (L+1+1+1+1+1, o5) :: (L+1+1+1+1, o4) :: (L+1+1+1, o3) :: (L+1+1, o2) :: (L+1, o1) :: tl), p.1 ≠ Sn) → (∀ y : Str, y ≠ Str.ofString "row" → y ≠ Str.ofString "seen" → y ≠ Str.ofString "spelled" → m' y = m y) →
      m' "row" = some (.int 0 u1) → m' "seen" = some (.ref Sn) → m' "spelled" = some (.str ⟨([] : List Nat).toArray⟩ u2) →
      wpAny (model PG w) A (execs (lawBody.drop 19) (lawEnv L fa cd)) Q E { s with heap := h', toks := tk }) :
    wpAny (model PG w) A (execs (lawBody.drop 16) (lawEnv L fa cd)) Q E s := by
  have e1 : lawBody.drop 16 = _ :: _ := rfl
  have e2 : lawScope = Scope.mk _ _ _ _ _ := rfl
  unfold lawEnv
  rw [e1, e2]
  clear e1 e2
  refine wpAny_execs_cons ?_
  walk_at "stmt"
  refine wpAny_execs_cons ?_
  walk_at "stmt"
  rename (_ ∧ _) => hlt
  obtain ⟨l8, l7, l6, l5, l4, l3, l2, l1, lP⟩ := hlt
  refine wpAny_execs_cons ?_
  walk_at "stmt"
  (with_reducible rename News _ _ _ _ => N4)
  (with_reducible rename Fr _ _ _ _ => F4)
  exact hK _ _ _ _ _ _ F4 N4 (allLt_ne ⟨l8, l7, l6, l5, l4, l3, l2, l1, lP⟩) (fun y h1 h2 h3 => (if_neg h3).trans ((if_neg h2).trans (if_neg h1))) (by walk_at "look") (by walk_at "look") (by walk_at "look")

theorem seg19 {w : World} {A : Around} {E : Value → Shared → Prop} {s : Shared} {g : Heap} {p : Program} {loose : List Str} {mg mb : Str → Option Value} {Q : Flow → Shared → Prop} {L fa : Addr} {cd : Value} {m : Str → Option Value} {o1 o2 o3 o4 o5 o6 o7 o8 : Obj} {last sa : List Nat} {ri : Nat → Nat} {n : Nat} {u1 u2 u3 u4 : Tok} {P Ls K Sn : Addr} {tl : List (Addr × Obj)} (X : (hd.heap_39 w.params).In g) (T : TopRead p loose mg mb g) (hA : A.handled = none) (hE : E = fun _ _ => False) (hdep : A.depth + 1 < recursionLimit)
    (F : Fr g L s.heap m) (N : News g L s.heap ((Sn, listOf #[] 0) :: ((L+1+1+1+1+1+1+1+1, o8) :: (L+1+1+1+1+1+1+1, o7) :: (L+1+1+1+1+1+1, o6) :: (L+1+1+1+1+1, o5) :: (L+1+1+1+1, o4) :: (L+1+1+1, o3) :: (L+1+1, o2) :: (L+1, o1) :: tl))) (hn : last.length = n) (h16 : n ≤ 17) (hoff : ∀ p ∈ ((L+1+1+1+1+1+1+1+1, o8) :: (L+1+1+1+1+1+1+1, o7) :: (L+1+1+1+1+1+1, o6) :: (L+1+1+1+1+1, o5) :: (L+1+1+1+1, o4) :: (L+1+1+1, o3) :: (L+1+1, o2) :: (L+1, o1) :: tl), p.1 ≠ Sn)
    (Y : ∀ h : Heap, (∀ p ∈ tl, h.get? p.1 = some p.2) → FM w h P Ls K last sa)
    (hr0 : ri 0 = 0) (hrl : ∀ i, i < n → ri i < n ∧ bef last (last.getD (ri i) 0) (ri i) = (ri (i + 1) : Int))
    (m1 : m "row" = some (.int 0 u1)) (m2 : m "seen" = some (.ref Sn)) (m3 : m "spelled" = some (.str ⟨([] : List Nat).toArray⟩ u2)) (m4 : m "count" = some (.int (n : Nat) u4))
    (d4 : o4.data = .cell (some (.str ⟨last.toArray⟩ u3))) (d6 : o6.data = .cell (some (.ref P))) (d7 : o7.data = .cell (some (.ref Ls)))
    (hK : ∀ h' tk m' vs c u1 u2, Fr g L h' m' → News g L h' ((Sn, listOf (List.toArray vs) c) :: ((L+1+1+1+1+1+1+1+1, o8) :: (L+1+1+1+1+1+1+1, o7) :: (L+1+1+1+1+1+1, o6) :: (L+1+1+1+1+1, o5) :: (L+1+1+1+1, o4) :: (L+1+1+1, o3) :: (L+1+1, o2) :: (L+1, o1) :: tl)) → (∀ y : Str, y ≠ Str.ofString "row" → y ≠ Str.ofString "step" → y ≠ Str.ofString "spelled" → m' y = m y) → IntsAre vs ((List.range n).map fun i => (ri i : Int)) →
      m' "row" = some (.int (ri n : Nat) u1) → m' "spelled" = some (.str ⟨((List.range n).map fun i => last.getD (ri i) 0).reverse.toArray⟩ u2) →
      wpAny (model PG w) A (execs (lawBody.drop 20) (lawEnv L fa cd)) Q E { s with heap := h', toks := tk }) :
    wpAny (model PG w) A (execs (lawBody.drop 19) (lawEnv L fa cd)) Q E s := by
  subst hE
  have e1 : lawBody.drop 19 = _ :: _ := rfl
  have e2 : lawScope = Scope.mk _ _ _ _ _ := rfl
  unfold lawEnv
  rw [e1, e2]
  clear e1 e2
  refine wpAny_execs_cons ?_
  refine For_invV g rfl rfl ?_
  walk_at "stmt"
  (with_reducible rename IsRange _ _ _ _ _ _ _ _ => hRg)
  (with_reducible rename News _ _ _ _ => N4)
  (with_reducible rename Fr _ _ _ _ => F4)
  generalize hrest : ((L+1+1+1+1+1+1+1+1, o8) :: (L+1+1+1+1+1+1+1, o7) :: (L+1+1+1+1+1+1, o6) :: (L+1+1+1+1+1, o5) :: (L+1+1+1+1, o4) :: (L+1+1+1, o3) :: (L+1+1, o2) :: (L+1, o1) :: tl) = rest at N4 hoff
  refine range_loop (n := n) (fun i m' news => (∀ y : Str, y ≠ Str.ofString "row" → y ≠ Str.ofString "step" → y ≠ Str.ofString "spelled" → m' y = m y) ∧ (∃ u, m' "row" = some (.int (ri i : Nat) u)) ∧ (∃ u, m' "spelled" = some (.str ⟨((List.range i).map fun i => last.getD (ri i) 0).reverse.toArray⟩ u)) ∧
     ∃ vs c, news = (Sn, listOf (List.toArray vs) c) :: rest ∧ IntsAre vs ((List.range i).map fun i => (ri i : Int))) hA hRg (small_one (by omega) (by omega) (by omega) (by omega)) (rangeSize_upNat _) F4 N4 ⟨fun _ _ _ _ => rfl, ⟨_, by rw [hr0]; exact m1⟩, ⟨_, m3⟩, [], 0, rfl, .nil⟩ ?_ ?_
  · rintro i m₁ news₁ h₁ tk tt own hi _ hoff2 ⟨hm, ⟨v1, j1⟩, ⟨v2, j2⟩, vs, c, rfl, hI⟩ F₁ N₁
    have hall : ∀ p ∈ rest ++ own, p.1 ≠ Sn := fun p hp => by
      rcases List.mem_append.mp hp with hp | hp
      · exact hoff p hp
      · exact hoff2 p hp Sn (by simp)
    clear N4
    subst hrest
    have N₂ : News g L h₁ ((Sn, listOf (List.toArray vs) c) :: ((L+1+1+1+1+1+1+1+1, o8) :: (L+1+1+1+1+1+1+1, o7) :: (L+1+1+1+1+1+1, o6) :: (L+1+1+1+1+1, o5) :: (L+1+1+1+1, o4) :: (L+1+1+1, o3) :: (L+1+1, o2) :: (L+1, o1) :: (tl ++ own))) := N₁
    have hall' : ∀ p ∈ ((L+1+1+1+1+1+1+1+1, o8) :: (L+1+1+1+1+1+1+1, o7) :: (L+1+1+1+1+1+1, o6) :: (L+1+1+1+1+1, o5) :: (L+1+1+1+1, o4) :: (L+1+1+1, o3) :: (L+1+1, o2) :: (L+1, o1) :: (tl ++ own)), p.1 ≠ Sn := hall
    clear N₁ hall
    have j3 : m₁ "seen" = some (.ref Sn) := (hm _ (by decide) (by decide) (by decide)).trans m2
    have hri := hrl i hi
    have hsz : vs.length = i := by rw [hI.length]; simp
    have hcx : (⟨last.toArray⟩ : Str).cps[((ri i : Nat) : Int).toNat]? = some (last.getD (ri i) 0) := by
      show last.toArray[((ri i : Nat) : Int).toNat]? = _
      rw [Int.toNat_natCast, List.getElem?_toArray, List.getD_eq_getElem?_getD, List.getElem?_eq_getElem (by omega)]; rfl
    have hcl : last.getD (ri i) 0 ∈ last := by
      rw [List.getD_eq_getElem?_getD, List.getElem?_eq_getElem (by omega)]; simp
    walk_at "steps"
    refine Calls.getMethod_list_append (N₂ _ (.head _)).1 rfl rfl ?_
    walk_at "steps"
    refine append_at (N₂ _ (.head _)).1 (fun h8 hs8 ho8 => ?_) (by rw [sizeLine_eq, List.size_toArray]; omega)
    have F6 := F₁.change hs8 (N₂ _ (.head _)).2.1 (N₂ _ (.head _)).2.2
    have N6 : News g L h8 ((Sn, listOf (List.toArray (vs ++ [Value.int (ri i : Nat) v1])) (c + 1)) :: ((L+1+1+1+1+1+1+1+1, o8) :: (L+1+1+1+1+1+1+1, o7) :: (L+1+1+1+1+1+1, o6) :: (L+1+1+1+1+1, o5) :: (L+1+1+1+1, o4) :: (L+1+1+1, o3) :: (L+1+1, o2) :: (L+1, o1) :: (tl ++ own))) := news_set (pre := []) N₂ (by simp) hall' hs8 (by simpa [PySem.W.listOf] using ho8)
    clear N₂ F₁
    walk_at "steps"
    refine item_cs (by omega) (by omega) hcx ?_
    walk_at "steps"
    refine PyProof.Rows.add_str (fun t9 k9 => ?_) (by
      have h1 := str_len ((List.range i).map fun i => last.getD (ri i) 0).reverse
      rw [List.length_reverse, List.length_map, List.length_range] at h1
      rw [h1, sizeLine_eq]; show 1 + i ≤ _; omega)
    rw [show (CS (last.getD (ri i) 0)) ++ (⟨((List.range i).map fun i => last.getD (ri i) 0).reverse.toArray⟩ : Str) = ⟨((List.range (i + 1)).map fun i => last.getD (ri i) 0).reverse.toArray⟩ from by
      rw [show CS (last.getD (ri i) 0) = ⟨[last.getD (ri i) 0].toArray⟩ from rfl, str_app, List.range_succ, List.map_append, List.reverse_append]; rfl]
    walk_at "steps"
    refine item_cs (by omega) (by omega) hcx ?_
    walk_at "steps"
    (with_reducible rename Fr _ _ _ _ => F7)
    (with_reducible rename News _ _ _ _ => N7)
    refine wpAny_call (bef_call (X.keeps F7.keep) (T.keeps F7.keep) hA hdep (Y _ fun p hp => (N7 p (by simp [hp])).1) (by omega) hcl fun h₄ tk₄ u₄ k₄ => ?_)
    have F8 := Fr.kept F7 k₄
    have N8 := News.grown N7 k₄
    clear F7 N7
    rw [hri.2]
    dsimp only
    walk_at "steps"
    (with_reducible rename Fr _ _ _ _ => F9)
    (with_reducible rename News _ _ _ _ => N9)
    refine InvEndN.intro (nx := (Sn, listOf (List.toArray (vs ++ [Value.int (ri i : Nat) v1])) (c + 1)) :: ((L+1+1+1+1+1+1+1+1, o8) :: (L+1+1+1+1+1+1+1, o7) :: (L+1+1+1+1+1+1, o6) :: (L+1+1+1+1+1, o5) :: (L+1+1+1+1, o4) :: (L+1+1+1, o3) :: (L+1+1, o2) :: (L+1, o1) :: tl)) F9 N9 ⟨fun y h1 h2 h3 => (if_neg h1).trans ((if_neg h3).trans ((if_neg h2).trans (hm y h1 h2 h3))), ⟨_, if_pos rfl⟩, ⟨_, (if_neg (by decide)).trans (if_pos rfl)⟩, _, _, rfl, ?_⟩ rfl (fun p hp => ?_) (fun p hp => ?_)
    · rw [List.range_succ, List.map_append]
      exact hI.append (.cons _ _ .nil)
    · simp only [List.mem_cons, List.mem_append] at hp ⊢
      rcases hp with h | h | h | h | h | h | h | h | h | h <;> simp [h]
    · simp [hp]
  · rintro m₁ news₁ h tk ⟨hm, ⟨v1, j1⟩, ⟨v2, j2⟩, vs, c, rfl, hI⟩ F₁ N₁
    dsimp only
    subst hrest
    exact hK _ _ _ _ _ _ _ F₁ N₁ hm hI j1 j2
end Mine
end

-- part L11
section
open PySem PySem.W PySem.Calls PyProof.Rows
set_option Elab.async false
set_option maxRecDepth 100000
set_option maxHeartbeats 8000000
set_option pp.maxSteps 300
set_option pp.deepTerms false
namespace Mine
theorem warmL11 : (∀ P, _root_.hd.heap_39 P = _root_.hd.heap_39 P) ∧ PySem.Challenge.rw_dj5002_01 = PySem.Challenge.rw_dj5002_01 := by
  k_fill
  exact ⟨fun _ => rfl, rfl⟩
local macro_rules | `(tactic| walk_at "look") => `(tactic| first | with_reducible assumption | exact upd_eq | (refine upd_ne (by decide) ?_; walk_at "look") | exact if_pos rfl | (refine Eq.trans (if_neg (by decide)) ?_; walk_at "look"))
local macro_rules | `(tactic| walk_at "eval Name") => `(tactic| (k_here; k_dflt (first
  | (refine' nmL ?F ?e ?a ?b ?d ?v ?_; (case F => k_asm); (case e => rfl); (case a => rfl); (case b => rfl); (case d => decide); (case v => walk_at "look"); k_whole)
  | (refine' nmC ?F ?a ?b ?c ?o ?d ?e ?_; (case F => k_asm); (case a => rfl); (case b => rfl); (case c => rfl); (case o => exact News.get (by k_asm) (by k_mem)); (case d => k_asm); (case e => decide); k_whole)
  | (refine' nmB ?F ?X ?T ?g ?bb ?a ?b ?d ?e ?v ?n ?_; (case F => k_asm); (case X => k_asm); (case T => k_asm); (case g => rfl); (case bb => rfl); (case a => rfl); (case b => rfl); (case d => decide); (case e => k_is); (case v => boot_fast); (case n => decide); k_whole)
  | (refine' nmK ?F ?X ?T ?g ?a ?b ?d ?e ?_; (case F => k_asm); (case X => k_asm); (case T => k_asm); (case g => rfl); (case a => rfl); (case b => rfl); (case d => decide); (case e => k_is); k_whole))))
local macro_rules | `(tactic| walk_at "loadName") => `(tactic| (k_here; k_dflt (refine' ldn ?F ?v ?_ ?a ?b; (case F => k_asm); (case a => rfl); (case b => rfl); (case v => walk_at "look"); k_whole)))
local macro_rules | `(tactic| walk_at "stop") => `(tactic| first
  | (with_reducible show InvPostN _ _ _ _ _ _ _ _ _)
  | (with_reducible show InvEndN _ _ _ _ _ _ _)
  | (with_reducible show wpAny _ _ (eval (Expr.ListComp _ _ _ _) _) _ _ _)
  | (with_reducible show wpAny _ _ (pyIter _) _ _ _)
  | (with_reducible show wpAny _ _ (exec (Stmt.For _ _ _ _ _) _) _ _ _)
  | (with_reducible show wpAny _ _ (exec (Stmt.While _ _ _ _) _) _ _ _)
  | (with_reducible show wpAny _ _ (call (Value.ref _) _ _) _ _ _)
  | (with_reducible show wpAny _ _ (call (Value.builtin "sorted") _ _) _ _ _)
  | (with_reducible show wpAny _ _ (call (Value.builtin "str.join") _ _) _ _ _)
  | (with_reducible show wpAny _ _ (subscriptTail _ _ (Value.str _ _) (Value.int _ _)) _ _ _)
  | (with_reducible show wpAny _ _ (compareOp CmpOp.NotIn _ (Value.ref _)) _ _ _))
local macro_rules | `(tactic| walk_at "steps") => `(tactic| repeat (first | (k_unfold; (try dsimp only)) | ((fail_if_success walk_at "stop"); walk1) | ((fail_if_success walk_at "stop"); dsimp only; (fail_if_success walk_at "stop"); walk1)))
local macro_rules | `(tactic| walk_at "rest") => `(tactic| (with_reducible show wpAny _ _ (execs _ _) _ _ _))
local macro_rules | `(tactic| walk_at "stmt") => `(tactic| repeat ((fail_if_success walk_at "rest"); first | (k_unfold; (try dsimp only)) | ((fail_if_success walk_at "stop"); walk1) | ((fail_if_success walk_at "stop"); dsimp only; (fail_if_success walk_at "stop"); walk1)))
local macro_rules | `(tactic| walk_at "one") => `(tactic| first | (k_unfold; (try dsimp only)) | ((fail_if_success walk_at "stop"); walk1) | ((fail_if_success walk_at "stop"); dsimp only; (fail_if_success walk_at "stop"); walk1))
local macro_rules | `(tactic| walk_at "loadName") => `(tactic| (k_here; k_dflt (refine' ldA ?F ?e ?a ?b ?v ?_; (case F => k_asm); (case e => rfl); (case a => rfl); (case b => rfl); (case v => walk_at "look"); k_whole)))
local macro_rules | `(tactic| k_all) => `(tactic| first | exact List.forall_mem_nil _ | with_reducible assumption | (refine' List.forall_mem_cons.mpr ⟨?a, ?b⟩; (case a => k_ne); (case b => k_all)))
local macro_rules | `(tactic| walk_at "stop") => `(tactic| first | (with_reducible show InvPostG _ _ _ _ _ _ _ _) | (with_reducible show wpAny _ _ (setItem _ _ _) _ _ _) | (with_reducible show wpAny _ _ (subscriptTail _ _ (Value.ref _) (Value.str _ _)) _ _ _) | (with_reducible show wpAny _ _ (call (Value.builtin "list.append") _ _) _ _ _) | (with_reducible show wpAny _ _ (call (Value.builtin "len") [Value.ref _]) _ _ _) | (with_reducible show wpAny _ _ (getMethod (Value.ref _) _ _) _ _ _))
local macro_rules | `(tactic| walk_at "stop") => `(tactic| first | (with_reducible show wpAny _ _ (compareOp CmpOp.NotEq (Value.ref _) (Value.ref _)) _ _ _) | (with_reducible show wpAny _ _ (call (Value.type "list") [Value.ref _]) _ _ _))
theorem range_sorted (n : Nat) : ((List.range n).map Int.ofNat).Pairwise (· ≤ ·) := by
  rw [List.pairwise_map]
  exact List.pairwise_lt_range.imp fun h => Int.ofNat_le.mpr (Nat.le_of_lt h)
theorem ints_of_items {acc : Array Value} {n : Nat} (h : ItemsOf (fun i v => ∃ t, v = .int (0 + (i : Int) * 1) t) acc n) : IntsAre acc.toList ((List.range n).map Int.ofNat) := by
  have key : ∀ (zs : List Value) (ns : List Int), zs.length = ns.length → (∀ (i : Nat) (v : Value), zs[i]? = some v → ∃ c u, ns[i]? = some c ∧ v = .int c u) → IntsAre zs ns := by
    intro zs
    induction zs with
    | nil => intro l hl h; cases l with
      | nil => exact .nil
      | cons _ _ => simp at hl
    | cons z zs ih => intro l hl h; cases l with
      | nil => simp at hl
      | cons q l =>
        obtain ⟨c, u, hc, rfl⟩ := h 0 z rfl
        obtain rfl : q = c := Option.some.inj hc
        exact .cons _ _ (ih l (by simpa using hl) fun i v hv => by simpa using h (i + 1) v (by simpa using hv))
  refine key _ _ (by rw [Array.length_toList, h.1]; simp) fun i v hv => ?_
  have hv' : acc[i]? = some v := by rw [← Array.getElem?_toList]; exact hv
  obtain ⟨t, rfl⟩ := h.2 i v hv'
  have hi : i < n := by rw [← h.1]; exact (Array.getElem?_eq_some_iff.mp hv').1
  exact ⟨_, t, by rw [List.getElem?_map, List.getElem?_range hi]; rfl, by rw [Int.mul_one, Int.zero_add]; rfl⟩

theorem seg20 {w : World} {A : Around} {E : Value → Shared → Prop} {s : Shared} {g : Heap} {p : Program} {loose : List Str} {mg mb : Str → Option Value} {Q : Flow → Shared → Prop} {L fa : Addr} {cd : Value} {m : Str → Option Value} {o1 o2 o3 o4 o5 o6 o7 o8 : Obj} {tx : List Nat} {ns : List Int} {vs : List Value} {c n : Nat} {u1 u2 u3 u4 : Tok} {Sn : Addr} {tl : List (Addr × Obj)} (X : (hd.heap_39 w.params).In g) (T : TopRead p loose mg mb g) (hA : A.handled = none) (hu : A.units + 64 < cLine)
    (F : Fr g L s.heap m) (N : News g L s.heap ((Sn, listOf (List.toArray vs) c) :: ((L+1+1+1+1+1+1+1+1, o8) :: (L+1+1+1+1+1+1+1, o7) :: (L+1+1+1+1+1+1, o6) :: (L+1+1+1+1+1, o5) :: (L+1+1+1+1, o4) :: (L+1+1+1, o3) :: (L+1+1, o2) :: (L+1, o1) :: tl))) (h16 : n ≤ 17) (hI : IntsAre vs ns) (hp : ns.Perm ((List.range n).map Int.ofNat))
    (m1 : m "row" = some (.int 0 u1)) (m2 : m "seen" = some (.ref Sn)) (m3 : m "spelled" = some (.str ⟨(36 :: tx).toArray⟩ u2)) (m4 : m "count" = some (.int (n : Nat) u3)) (m5 : m "text" = some (.str ⟨tx.toArray⟩ u4)) (h17 : tx.length ≤ 17)
    (hK : ∀ h' tk, Fr g L h' m → News g L h' ((L+1+1+1+1+1+1+1+1, o8) :: (L+1+1+1+1+1+1+1, o7) :: (L+1+1+1+1+1+1, o6) :: (L+1+1+1+1+1, o5) :: (L+1+1+1+1, o4) :: (L+1+1+1, o3) :: (L+1+1, o2) :: (L+1, o1) :: tl) →
      wpAny (model PG w) A (execs (lawBody.drop 21) (lawEnv L fa cd)) Q E { s with heap := h', toks := tk }) :
    wpAny (model PG w) A (execs (lawBody.drop 20) (lawEnv L fa cd)) Q E s := by
  have e1 : lawBody.drop 20 = _ :: _ := rfl
  have e2 : lawScope = Scope.mk _ _ _ _ _ := rfl
  unfold lawEnv
  rw [e1, e2]
  clear e1 e2
  refine wpAny_execs_cons ?_
  walk_at "stmt"
  (with_reducible rename News _ _ _ _ => N4)
  (with_reducible rename Fr _ _ _ _ => F4)
  have hlen : vs.length = n := by rw [hI.length, hp.length_eq]; simp
  refine sorted_N F4 N4 ⟨_, (N4 _ (.head _)).1, rfl, _, rfl⟩ hI (by omega) fun h5 vs5 ns5 e5 F5 N5 hI5 hp5 hs5 => ?_
  obtain rfl : ns5 = (List.range n).map Int.ofNat := lks_uniq (hp5.trans hp) hs5 (range_sorted n)
  have N6 : News g L h5 ((s.heap.objs.size + 1, seqObj "list" vs5.toArray e5) :: ((L+1+1+1+1+1+1+1+1, o8) :: (L+1+1+1+1+1+1+1, o7) :: (L+1+1+1+1+1+1, o6) :: (L+1+1+1+1+1, o5) :: (L+1+1+1+1, o4) :: (L+1+1+1, o3) :: (L+1+1, o2) :: (L+1, o1) :: tl)) := fun q hq => N5 q (by
    simp only [List.mem_cons] at hq ⊢
    rcases hq with h | h
    · simp [h]
    · exact .inr (.inr h))
  clear N4 N5
  walk_at "stmt"
  (with_reducible rename IsRange _ _ _ _ _ _ _ _ => hRg)
  (with_reducible rename News _ _ _ _ => N7)
  (with_reducible rename Fr _ _ _ _ => F7)
  refine call_list_range (n := n) hA hRg (small_one (by omega) (by omega) (by omega) (by omega)) (rangeSize_upNat _) (by omega) fun h8 tk8 acc c8 hk8 ho8 hI8 => ?_
  have F8 := F7.kept hk8
  have N8 := News.grown N7 hk8
  clear N7 F7
  have hI8' := ints_of_items hI8
  walk_at "stmt"
  refine ke_ne_ints ⟨_, (N8 _ (.head _)).1, rfl, _, rfl⟩ ⟨_, ho8, rfl, c8, by simp⟩ hI5 hI8' hu ?_
  rw [decide_eq_true rfl]
  walk_at "stmt"
  · rename ((_ != _) = true) => hb
    rw [show ("$" : Str) ++ (⟨tx.toArray⟩ : Str) = ⟨(36 :: tx).toArray⟩ from str_app [36] tx, bne_self_eq_false] at hb
    cases hb
  · have N9 : News g L h8 ((L+1+1+1+1+1+1+1+1, o8) :: (L+1+1+1+1+1+1+1, o7) :: (L+1+1+1+1+1+1, o6) :: (L+1+1+1+1+1, o5) :: (L+1+1+1+1, o4) :: (L+1+1+1, o3) :: (L+1+1, o2) :: (L+1, o1) :: tl) := fun q hq => N8 q (.tail _ hq)
    clear N8
    walk_at "stmt"

    refine wpAny_execs_nil ?_
    dsimp only
    exact hK _ _ (by k_asm) (by k_asm)
end Mine
end

-- part Two
section
open PySem PySem.W PySem.Calls PyProof.Rows
set_option Elab.async false
set_option maxRecDepth 100000
set_option maxHeartbeats 8000000
namespace Mine
theorem compTurn_two0 (elt t1 i1 t2 i2 : Expr) (scope : Scope) (pos : Pos) (it acc : Value) (env : Env) :
    compTurn (.ListComp elt [⟨t1, i1, [], 0⟩, ⟨t2, i2, [], 0⟩] scope pos) 0 it acc env = (standAt i1.pos >>= fun _ => pyNext it >>= fun r => match r with
      | none => pure (.done .next)
      | some v => letOwnedTupleGo t1 it v >>= fun _ => assign t1 env v >>= fun _ =>
        (eval i2 env >>= fun x => standAt i2.pos >>= fun _ => foldedSetIterable i2 env x >>= fun x => holding [x] (pyIter x) >>= fun it2 =>
          runOwn (.compStart (.ListComp elt [⟨t1, i1, [], 0⟩, ⟨t2, i2, [], 0⟩] scope pos) 1 it2 acc env) env >>= fun _ =>
          again (.compLoop (.ListComp elt [⟨t1, i1, [], 0⟩, ⟨t2, i2, [], 0⟩] scope pos) 0 it acc env))) := by rfl
theorem compTurn_two1 (elt t1 i1 t2 i2 : Expr) (scope : Scope) (pos : Pos) (it acc : Value) (env : Env) :
    compTurn (.ListComp elt [⟨t1, i1, [], 0⟩, ⟨t2, i2, [], 0⟩] scope pos) 1 it acc env = (standAt i2.pos >>= fun _ => pyNext it >>= fun r => match r with
      | none => pure (.done .next)
      | some v => letOwnedTupleGo t2 it v >>= fun _ => assign t2 env v >>= fun _ =>
        (eval elt env >>= fun x => call (.builtin "list.append") [acc, x] >>= fun _ => pure ()) >>= fun _ =>
          again (.compLoop (.ListComp elt [⟨t1, i1, [], 0⟩, ⟨t2, i2, [], 0⟩] scope pos) 1 it acc env)) := by rfl

section
variable {prog : Program} {w : World} {A : Around} {R : Result → Shared → Prop} {s : Shared} {elt i1 i2 : Expr} {x1 x2 : Str} {p1 p2 : Pos} {scope : Scope} {pos : Pos} {cenv : Env} {ls : List Nat}

theorem strs_snoc : ∀ {vs : List Value} {xs : List Str} {x : Str} {t : Tok}, StrsAre vs xs → StrsAre (vs ++ [.str x t]) (xs ++ [x])
  | _, _, _, _, .nil => .cons _ _ .nil
  | _, _, _, _, .cons a b r => .cons a b (strs_snoc r)

theorem two_inner {I D : Addr} {St : Nat → Heap → Prop} {m : Str → Option Value} {ca : Nat} {ua : Tok} {ys0 : Array Value} {base : List Str} {k0 : Nat} (W : Walks prog w A I [I] [I] ls.length (SignAt ⟨ls.toArray⟩) St)
    (hx : cenv.kindOf x2 = some .local) (hp : (cenv.scope.kind == .class || (cenv.scope.kind == .module && cenv.locals != cenv.globals)) = false) (hx12 : x1 ≠ x2)
    (hDC : D ≠ cenv.locals) (hDI : D ≠ I) (hCI : cenv.locals ≠ I)
    (hst : St 0 s.heap) (hacc : s.heap.PlainList D ys0) (hb : StrsAre ys0.toList base) (hk0 : ys0.size ≤ k0) (hk1 : k0 + ls.length ≤ 1000) (hn : s.heap.Ns cenv.locals m) (hm : m x1 = some (.str (CS ca) ua))
    (helt : ∀ cb ub s₂ m₂ E', s₂.heap.Ns cenv.locals m₂ → m₂ x1 = some (.str (CS ca) ua) → m₂ x2 = some (.str (CS cb) ub) → (∀ b o, b ≠ cenv.locals → b ≠ I → b ≠ D → s.heap.get? b = some o → s₂.heap.get? b = some o) →
      wpAny (model prog w) A (eval elt cenv) (fun y s₃ => (∃ t, y = .str ⟨#[ca, cb]⟩ t) ∧ Keeps s₂ s₃) E' s₂)
    (hR : ∀ h' tk m' ys, h'.Ns cenv.locals m' → h'.PlainList D ys → StrsAre ys.toList (base ++ ls.map fun cb => (⟨#[ca, cb]⟩ : Str)) → ys.size ≤ k0 + ls.length →
      (∀ b o, b ≠ cenv.locals → b ≠ I → b ≠ D → s.heap.get? b = some o → h'.get? b = some o) → R (.ok .next) { s with heap := h', toks := tk }) :
    codeAny (model prog w) A (.compLoop (.ListComp elt [⟨.Name x1 p1, i1, [], 0⟩, ⟨.Name x2 p2, i2, [], 0⟩] scope pos) 1 (.ref I) (.ref D) cenv) R s := by
  refine codeAny_loop rfl (fun k s' => ∃ h' tk m' ys i, s' = { s with heap := h', toks := tk } ∧ St i h' ∧ h'.PlainList D ys ∧ h'.Ns cenv.locals m' ∧ m' x1 = some (.str (CS ca) ua) ∧ StrsAre ys.toList (base ++ (ls.take i).map fun cb => (⟨#[ca, cb]⟩ : Str)) ∧ ys.size ≤ k0 + i ∧
      i ≤ ls.length ∧ k = ls.length + 1 - i ∧ (∀ b o, b ≠ cenv.locals → b ≠ I → b ≠ D → s.heap.get? b = some o → h'.get? b = some o)) (fun k s' hI => ?_) (ls.length + 1)
    ⟨s.heap, s.toks, m, ys0, 0, rfl, hst, hacc, hn, hm, by simpa using hb, hk0, Nat.zero_le _, rfl, fun _ _ _ _ _ e => e⟩
  obtain ⟨H, tk, m', ys, i, rfl, hst', hacc', hn', hm', hF, hsz, hi, rfl, hk⟩ := hI
  show wpAny _ A ((compTurn (.ListComp elt [⟨.Name x1 p1, i1, [], 0⟩, ⟨.Name x2 p2, i2, [], 0⟩] scope pos) 1 (.ref I) (.ref D) cenv).onRaise (fun x => do noteFrame x cenv; theTreesLotGoes x)) _ _ _
  refine wpAny_noted ?_
  rw [compTurn_two1]
  refine wpAny_bind (wpAny_standAt ?_)
  by_cases hlt : i < ls.length
  · refine wpAny_bind (W.item i _ _ _ hlt hst' fun v h₁ tk₁ hPv hst₁ hk₁ => ?_)
    obtain ⟨cb, ub, hcb, rfl⟩ := hPv
    have hcb' : ls[i]? = some cb := by rw [← List.getElem?_toArray]; exact hcb
    refine wpAny_bind (wpAny_of_eq rfl ?_)
    refine wpAny_bind (wpAny_assign_Name (wpAny_storeName_local hx (hn'.at' fun o e => hk₁ _ o (by simp [hCI]) e) (fun h₂ hn₂ hs₂ => ?_) hp))
    have up₂ : ∀ b o, b ≠ cenv.locals → b ≠ I → H.get? b = some o → h₂.get? b = some o := fun b o hbC hbf e => hs₂.extBut b o hbC (hk₁ b o (by simp [hbf]) e)
    have hst₂ : St (i + 1) h₂ := W.frame _ _ _ hst₁ fun b hb o e => hs₂.extBut b o (by rw [List.mem_singleton.mp hb]; exact hCI.symm) e
    refine wpAny_bind (wpAny_bind (wpAny_mono (helt cb ub _ _ _ hn₂ (by simp [hx12, hm']) (by simp) (fun b o hbC hbf hbD e => up₂ b o hbC hbf (hk b o hbC hbf hbD e))) (fun y s₄ h₄ => ?_) fun _ _ e => e))
    obtain ⟨⟨t, rfl⟩, h₄, tk₄, rfl, hk₄⟩ := h₄
    have hacc₄ : h₄.PlainList D ys := hacc'.at fun o e => hk₄ _ o (up₂ D o hDC hDI e)
    refine wpAny_bind (wpAny_list_append_plain (hsz := by rw [sizeLine_eq]; omega) hacc₄ fun h₅ hl₅ hs₅ => ?_)
    refine wpAny_pure (wpAny_pure ⟨rfl, ls.length + 1 - (i + 1), by omega, h₅, tk₄, _, ys.push (.str ⟨#[ca, cb]⟩ t), i + 1, rfl, ?_, hl₅, (hn₂.keeps hk₄).sameBut hs₅ hDC.symm, by simp [hx12, hm'], ?_, by rw [Array.size_push]; omega, hlt, rfl, fun b o hbC hbf hbD e => hs₅.extBut b o hbD (hk₄ b o (up₂ b o hbC hbf (hk b o hbC hbf hbD e)))⟩)
    · exact W.frame _ _ _ hst₂ fun b hb o e => hs₅.extBut b o (by rw [List.mem_singleton.mp hb]; exact hDI.symm) (hk₄ b o e)
    · rw [List.take_add_one, hcb', Array.toList_push, List.map_append, ← List.append_assoc]
      exact strs_snoc hF
  · have hin : i = ls.length := by omega
    subst hin
    refine wpAny_bind (W.done _ _ _ hst' fun h₁ tk₁ hk₁ => ?_)
    rw [List.take_length] at hF
    exact wpAny_pure (hR h₁ tk₁ m' ys (hn'.at' fun o e => hk₁ _ o (by simp [hCI]) e) (hacc'.at fun o e => hk₁ _ o (by simp [hDI]) e) hF hsz fun b o hbC hbf hbD e => hk₁ b o (by simp [hbf]) (hk b o hbC hbf hbD e))

theorem start_two1 {it acc : Value} {e1 e2 : Expr}
    (h0 : codeAny (model prog w) A (.compLoop (.ListComp elt [⟨e1, i1, [], 0⟩, ⟨e2, i2, [], 0⟩] scope pos) 1 it acc cenv) R s)
    (h : wpAny (model prog w) A (pyIter it) (fun it' s' => codeAny (model prog w) A (.compLoop (.ListComp elt [⟨e1, i1, [], 0⟩, ⟨e2, i2, [], 0⟩] scope pos) 1 it' acc cenv) R s')
      (notedBy (model prog w) A cenv fun x s' => R (.error x) s') s) :
    codeAny (model prog w) A (.compStart (.ListComp elt [⟨e1, i1, [], 0⟩, ⟨e2, i2, [], 0⟩] scope pos) 1 it acc cenv) R s := by
  refine codeAny_of_tree ?_
  show wpAny _ _ ((compStart (.ListComp elt [⟨e1, i1, [], 0⟩, ⟨e2, i2, [], 0⟩] scope pos) 1 it acc cenv).onRaise (fun x => do noteFrame x cenv; standAt theWindowsPlace)) _ _ s
  refine wpAny_notedAt ?_
  unfold compStart
  show wpAny _ _ (ask >>= _) _ _ s
  refine wpAny_bind (wpAny_askSetting (wpAny_ite ?_))
  split
  · first
      | exact wpAny_bind (wpAny_pure (wpAny_pure (And.intro rfl h0)))
      | exact wpAny_pure (And.intro rfl h0)
  · first
      | exact wpAny_bind (wpAny_rule (wpAny_bind (wpAny_standAt (wpAny_bind (wpAny_mono h (fun it' s' h' => wpAny_pure (And.intro rfl h')) fun _ _ x => x)))))
      | (refine wpAny_bind (wpAny_rule ?_); show wpAny _ _ (standAt i2.pos >>= _) _ _ s; exact wpAny_bind (wpAny_standAt (wpAny_bind (wpAny_mono h (fun it' s' h' => wpAny_pure (And.intro rfl h')) fun _ _ x => x))))

def twoL (ls : List Nat) (l : List Nat) : List Str := l.flatMap fun ca => ls.map fun cb => (⟨#[ca, cb]⟩ : Str)
theorem two_outer {I D : Addr} {St : Nat → Heap → Prop} {m : Str → Option Value} {t : Tok} (hA : A.handled = none) (W : Walks prog w A I [I] [I] ls.length (SignAt ⟨ls.toArray⟩) St) (h4 : ls.length ≤ 4)
    (hx : cenv.kindOf x2 = some .local) (hx1 : cenv.kindOf x1 = some .local) (hp : (cenv.scope.kind == .class || (cenv.scope.kind == .module && cenv.locals != cenv.globals)) = false) (hx12 : x1 ≠ x2)
    (hDC : D ≠ cenv.locals) (hDI : D ≠ I) (hCI : cenv.locals ≠ I)
    (hst : St 0 s.heap) (hacc : s.heap.PlainList D #[]) (hn : s.heap.Ns cenv.locals m) (hfold : ∀ x, foldedSetIterable i2 cenv x = pure x)
    (hlet : ∀ s₂ m₂ E' (Q : Value → Shared → Prop), s₂.heap.Ns cenv.locals m₂ → (∀ b o, b ≠ cenv.locals → b ≠ I → b ≠ D → s.heap.get? b = some o → s₂.heap.get? b = some o) → Q (.str ⟨ls.toArray⟩ t) s₂ → wpAny (model prog w) A (eval i2 cenv) Q E' s₂)
    (helt : ∀ ca ua cb ub s₂ m₂ E', s₂.heap.Ns cenv.locals m₂ → m₂ x1 = some (.str (CS ca) ua) → m₂ x2 = some (.str (CS cb) ub) → (∀ b o, b ≠ cenv.locals → b ≠ I → b ≠ D → s.heap.get? b = some o → s₂.heap.get? b = some o) →
      wpAny (model prog w) A (eval elt cenv) (fun y s₃ => (∃ t, y = .str ⟨#[ca, cb]⟩ t) ∧ Keeps s₂ s₃) E' s₂)
    (hR : ∀ h' tk m' ys, h'.Ns cenv.locals m' → h'.PlainList D ys → StrsAre ys.toList (twoL ls ls) →
      (∀ b o, b ≠ cenv.locals → b ≠ I → b ≠ D → s.heap.get? b = some o → h'.get? b = some o) → R (.ok .next) { s with heap := h', toks := tk }) :
    codeAny (model prog w) A (.compLoop (.ListComp elt [⟨.Name x1 p1, i1, [], 0⟩, ⟨.Name x2 p2, i2, [], 0⟩] scope pos) 0 (.ref I) (.ref D) cenv) R s := by
  refine codeAny_loop rfl (fun k s' => ∃ h' tk m' ys i, s' = { s with heap := h', toks := tk } ∧ St i h' ∧ h'.PlainList D ys ∧ h'.Ns cenv.locals m' ∧ StrsAre ys.toList (twoL ls (ls.take i)) ∧ ys.size ≤ 4 * i ∧
      i ≤ ls.length ∧ k = ls.length + 1 - i ∧ (∀ b o, b ≠ cenv.locals → b ≠ I → b ≠ D → s.heap.get? b = some o → h'.get? b = some o)) (fun k s' hI => ?_) (ls.length + 1)
    ⟨s.heap, s.toks, m, #[], 0, rfl, hst, hacc, hn, by simpa [twoL] using StrsAre.nil, Nat.le_refl _, Nat.zero_le _, rfl, fun _ _ _ _ _ e => e⟩
  obtain ⟨H, tk, m', ys, i, rfl, hst', hacc', hn', hF, hsz, hi, rfl, hk⟩ := hI
  show wpAny _ A ((compTurn (.ListComp elt [⟨.Name x1 p1, i1, [], 0⟩, ⟨.Name x2 p2, i2, [], 0⟩] scope pos) 0 (.ref I) (.ref D) cenv).onRaise (fun x => do noteFrame x cenv; theTreesLotGoes x)) _ _ _
  refine wpAny_noted ?_
  rw [compTurn_two0]
  refine wpAny_bind (wpAny_standAt ?_)
  by_cases hlt : i < ls.length
  · refine wpAny_bind (W.item i _ _ _ hlt hst' fun v h₁ tk₁ hPv hst₁ hk₁ => ?_)
    obtain ⟨ca, ua, hca, rfl⟩ := hPv
    have hca' : ls[i]? = some ca := by rw [← List.getElem?_toArray]; exact hca
    refine wpAny_bind (wpAny_of_eq rfl ?_)
    refine wpAny_bind (wpAny_assign_Name (wpAny_storeName_local hx1 (hn'.at' fun o e => hk₁ _ o (by simp [hCI]) e) (fun h₂ hn₂ hs₂ => ?_) hp))
    have up₂ : ∀ b o, b ≠ cenv.locals → b ≠ I → H.get? b = some o → h₂.get? b = some o := fun b o hbC hbf e => hs₂.extBut b o hbC (hk₁ b o (by simp [hbf]) e)
    have hst₂ : St (i + 1) h₂ := W.frame _ _ _ hst₁ fun b hb o e => hs₂.extBut b o (by rw [List.mem_singleton.mp hb]; exact hCI.symm) e
    have base₂ : ∀ b o, b ≠ cenv.locals → b ≠ I → b ≠ D → s.heap.get? b = some o → h₂.get? b = some o := fun b o hbC hbf hbD e => up₂ b o hbC hbf (hk b o hbC hbf hbD e)
    have hacc₂ : h₂.PlainList D ys := hacc'.at fun o e => up₂ D o hDC hDI e
    refine wpAny_bind (hlet _ _ _ _ hn₂ base₂ ?_)
    refine wpAny_bind (wpAny_standAt ?_)
    refine wpAny_bind (wpAny_of_eq (hfold _) ?_)
    refine wpAny_bind (wpAny_holding (wpAny_pyIter_str fun o St2 W2 hst2 => ?_))
    have hD2 : D ≠ h₂.objs.size := by obtain ⟨_, e⟩ := hacc₂; exact Nat.ne_of_lt (Heap.lt_size e)
    have hC2 : cenv.locals ≠ h₂.objs.size := Nat.ne_of_lt hn₂.lt
    have inner : codeAny (model prog w) (A.mark none) (.compLoop (.ListComp elt [⟨.Name x1 p1, i1, [], 0⟩, ⟨.Name x2 p2, i2, [], 0⟩] scope pos) 1 (.ref h₂.objs.size) (.ref D) cenv)
        (fun r s' => r = .ok .next ∧ ∃ h' tk m' ys, s' = { s with heap := h', toks := tk } ∧ St (i + 1) h' ∧ h'.PlainList D ys ∧ h'.Ns cenv.locals m' ∧ StrsAre ys.toList (twoL ls (ls.take (i + 1))) ∧ ys.size ≤ 4 * (i + 1) ∧
          (∀ b o, b ≠ cenv.locals → b ≠ I → b ≠ D → s.heap.get? b = some o → h'.get? b = some o)) { s with heap := h₂.push o, toks := tk₁ + 1 } := by
      refine two_inner (ls := ls) (A := A.mark none) (k0 := 4 * i) (m := fun y => if y = x1 then some (.str (CS ca) ua) else m' y) (W2 _ hA) hx hp hx12 hDC hD2 hC2 hst2 (hacc₂.at fun o e => Heap.get?_push_of_some _ e) hF hsz (by omega) (hn₂.at' fun o e => Heap.get?_push_of_some _ e) (by simp)
        (fun cb ub s₃ m₃ E' h1 h2 h3 h4 => helt ca ua cb ub s₃ m₃ E' h1 h2 h3 fun b o hbC hbI hbD e => h4 b o hbC (fun q => ?_) hbD (Heap.get?_push_of_some _ (base₂ b o hbC hbI hbD e))) ?_
      · exact Nat.ne_of_lt (Heap.lt_size (base₂ b o hbC hbI hbD e)) q
      · intro h' tk' m'' ys' g1 g2 g3 g4 g5
        refine ⟨rfl, h', tk', m'', ys', rfl, W.frame _ _ _ hst₂ fun b hb o e => ?_, g2, g1, ?_, by omega, fun b o hbC hbI hbD e => g5 b o hbC (fun q => ?_) hbD (Heap.get?_push_of_some _ (base₂ b o hbC hbI hbD e))⟩
        · have hbI := List.mem_singleton.mp hb
          exact g5 b o (by rw [hbI]; exact hCI.symm) (fun q => Nat.ne_of_lt (Heap.lt_size e) q) (by rw [hbI]; exact hDI.symm) (Heap.get?_push_of_some _ e)
        · rw [List.take_add_one, hca', twoL, List.flatMap_append]
          simpa [twoL] using g3
        · exact Nat.ne_of_lt (Heap.lt_size (base₂ b o hbC hbI hbD e)) q
    refine wpAny_bind (wpAny_runOwn (codeAny_mono (start_two1 inner ((W2 _ hA).self 0 _ _ _ hst2 inner)) fun r s' hr => ?_))
    obtain ⟨rfl, h', tk', m'', ys', rfl, g1, g2, g3, g4, g5, g6⟩ := hr
    exact wpAny_pure ⟨rfl, ls.length + 1 - (i + 1), by omega, h', tk', m'', ys', i + 1, rfl, g1, g2, g3, g4, g5, hlt, rfl, g6⟩
  · have hin : i = ls.length := by omega
    subst hin
    refine wpAny_bind (W.done _ _ _ hst' fun h₁ tk₁ hk₁ => ?_)
    rw [List.take_length] at hF
    exact wpAny_pure (hR h₁ tk₁ m' ys (hn'.at' fun o e => hk₁ _ o (by simp [hCI]) e) (hacc'.at fun o e => hk₁ _ o (by simp [hDI]) e) hF fun b o hbC hbf hbD e => hk₁ b o (by simp [hbf]) (hk b o hbC hbf hbD e))
end
section
variable {prog : Program} {w : World} {A : Around} {E : Value → Shared → Prop} {s : Shared} {elt i1 i2 : Expr} {x1 x2 : Str} {p1 p2 : Pos} {scope : Scope} {pos : Pos} {env : Env} {cl : List (Str × Addr)} {Q : Value → Shared → Prop}
structure TwoOK (prog : Program) (w : World) (A : Around) (env : Env) (scope : Scope) (cl : List (Str × Addr)) (x1 x2 : Str) (i2 elt : Expr) (ls : List Nat) (Q : Value → Shared → Prop) (s : Shared) : Prop where
  four : ls.length ≤ 4
  let' : ∃ t, ∀ C s₂ m₂ E' (Q : Value → Shared → Prop), Fr s.heap C s₂.heap m₂ → Q (.str ⟨ls.toArray⟩ t) s₂ → wpAny (model prog w) A (eval i2 (compEnvC scope cl C env)) Q E' s₂
  elt' : ∀ C ca ua cb ub s₂ m₂ E', Fr s.heap C s₂.heap m₂ → m₂ x1 = some (.str (CS ca) ua) → m₂ x2 = some (.str (CS cb) ub) →
      wpAny (model prog w) A (eval elt (compEnvC scope cl C env)) (fun y s₃ => (∃ t, y = .str ⟨#[ca, cb]⟩ t) ∧ Keeps s₂ s₃) E' s₂
  done : ∀ D h' tk ys k, s.heap.get? D = none → h'.get? D = some (listOf ys k) → StrsAre ys.toList (twoL ls ls) → s.heap.StaysIn h' → Q (.ref D) { s with heap := h', toks := tk }

theorem two_comp (hA : A.handled = none) (hclos : closureFor scope env = pure cl) (hcell : ∀ y ∈ scope.names, y.2 ≠ .cell) (hkind : scope.kind = .function)
    (hnames : ∀ y ∈ scope.names, y.2 = .local → scope.names.lookup y.1 = some .local) (hx1 : scope.names.lookup x1 = some .local) (hx2 : scope.names.lookup x2 = some .local) (hx12 : x1 ≠ x2)
    (hfold : ∀ C x, foldedSetIterable i2 (compEnvC scope cl C env) x = pure x)
    (h : wpAny (model prog w) A (eval i1 env) (fun xv s₁ => ∃ ls t, xv = .str ⟨List.toArray ls⟩ t ∧ TwoOK prog w A env scope cl x1 x2 i2 elt ls Q s₁) E s)
    (hs : ∀ x, foldedSetIterable i1 env x = pure x := by intro _; rfl) :
    wpAny (model prog w) A (eval (.ListComp elt [⟨.Name x1 p1, i1, [], 0⟩, ⟨.Name x2 p2, i2, [], 0⟩] scope pos) env) Q E s := by
  rw [eval_ListComp]
  refine wpAny_comprehension_free (use := none) rfl hs hclos hkind hnames (wpAny_mono h (fun xv s₁ h₁ => ?_) fun _ _ e => e)
  obtain ⟨ls, t, rfl, K⟩ := h₁
  refine wpAny_pyIter_str fun o St W hst => ?_
  obtain ⟨t2, hlet⟩ := K.let'
  refine wpAny_newObj_type (wpAny_newFunctionEnv hcell (by intro y hy; simp at hy) (fun h₁ hns₁ hsb₁ => ?_) hkind)
  dsimp only at hns₁ hsb₁ ⊢
  generalize hH2 : (s₁.heap.push o).push { cls := .type "list", dict := none, data := .seq ([] : List Value).toArray } = H2 at hns₁ hsb₁ ⊢
  have hI : (s₁.heap.push o).objs.size = s₁.heap.objs.size + 1 := Heap.size_push _ _
  have hC : H2.objs.size = s₁.heap.objs.size + 1 + 1 := by rw [← hH2, Heap.size_push, hI]
  have hDC : (s₁.heap.push o).objs.size ≠ H2.objs.size := by rw [hC, hI]; exact Nat.ne_of_lt (Nat.lt_succ_self _)
  have hDI : (s₁.heap.push o).objs.size ≠ s₁.heap.objs.size := by rw [hI]; exact Nat.succ_ne_self _
  have hCI : H2.objs.size ≠ s₁.heap.objs.size := by rw [hC]; omega
  have below : ∀ b ob, s₁.heap.get? b = some ob → b ≠ H2.objs.size ∧ b ≠ s₁.heap.objs.size ∧ b ≠ (s₁.heap.push o).objs.size := fun b ob e => by
    have hb : @LT.lt Nat _ b s₁.heap.objs.size := Heap.lt_size e
    rw [hC, hI]
    exact ⟨Nat.ne_of_lt (by omega), Nat.ne_of_lt (by omega), Nat.ne_of_lt (by omega)⟩
  have up : ∀ b ob, b ≠ H2.objs.size → (s₁.heap.push o).get? b = some ob → h₁.get? b = some ob := fun b ob hb e => hsb₁.extBut b ob hb (Heap.get?_push_of_some _ (hH2 ▸ Heap.get?_push_of_some _ e))
  have old : ∀ b ob, s₁.heap.get? b = some ob → h₁.get? b = some ob := fun b ob e => up b ob (below b ob e).1 (Heap.get?_push_of_some _ e)
  have hacc : h₁.PlainList (s₁.heap.push o).objs.size #[] := ⟨_, hsb₁.extBut _ _ hDC (Heap.get?_push_of_some _ (hH2 ▸ Heap.get?_push_size _ rfl))⟩
  have hst₁ : St 0 h₁ := (W A hA).frame _ _ _ hst fun b hb ob e => up b ob (by rw [List.mem_singleton.mp hb]; exact hCI.symm) e
  have fresh : ∀ a, @LE.le Nat _ s₁.heap.objs.size a → s₁.heap.get? a = none := fun a ha => by
    cases e : s₁.heap.get? a with
    | none => rfl
    | some o' => exact absurd (Heap.lt_size e) (Nat.not_lt.mpr ha)
  have fr : ∀ (s₂ : Shared) m₂, s₂.heap.Ns H2.objs.size m₂ → (∀ b ob, b ≠ H2.objs.size → b ≠ s₁.heap.objs.size → b ≠ (s₁.heap.push o).objs.size → h₁.get? b = some ob → s₂.heap.get? b = some ob) → Fr s₁.heap H2.objs.size s₂.heap m₂ := fun s₂ m₂ hn hk =>
    ⟨hn, fun b ob e => hk b ob (below b ob e).1 (below b ob e).2.1 (below b ob e).2.2 (old b ob e), by rw [hC]; exact Nat.le_succ_of_le (Nat.le_succ _)⟩
  have loop : ∀ s₃ : Shared, s₃ = { s₁ with heap := h₁, toks := s₁.toks + ([] : List (Str × Value)).length } →
      codeAny (model prog w) A (.compLoop (.ListComp elt [⟨.Name x1 p1, i1, [], 0⟩, ⟨.Name x2 p2, i2, [], 0⟩] scope pos) 0 (.ref s₁.heap.objs.size) (.ref (s₁.heap.push o).objs.size) (compEnvC scope cl H2.objs.size env))
        (compPost (model prog w) A E none Q (.ref (s₁.heap.push o).objs.size) H2.objs.size) s₃ := by
    rintro s₃ rfl
    refine two_outer (ls := ls) (t := t2) (cenv := compEnvC scope cl H2.objs.size env) hA (W A hA) K.four (lookup_relabel_local hx2) (lookup_relabel_local hx1) (by simp [compEnvC, relabel, hkind]) hx12 hDC hDI hCI hst₁ hacc hns₁ (hfold _)
      (fun s₂ m₂ E' Q hn hk q => hlet _ _ _ _ _ (fr s₂ m₂ hn hk) q)
      (fun ca ua cb ub s₂ m₂ E' hn h1 h2 hk => K.elt' _ ca ua cb ub s₂ m₂ E' (fr s₂ m₂ hn hk) h1 h2) fun h' tk m' ys hn hpl hS hk => ?_
    · obtain ⟨k, hD⟩ := hpl
      exact ⟨m', hn, fun h'' hs'' => K.done _ _ _ ys k (fresh _ (by rw [hI]; exact Nat.le_succ _)) (hs''.extBut _ _ hDC hD) hS fun b ob e => hs''.extBut b ob (below b ob e).1 (hk b ob (below b ob e).1 (below b ob e).2.1 (below b ob e).2.2 (old b ob e))⟩
  exact codeAny_compStart_list (loop _ rfl) ((W A hA).self 0 _ _ _ hst₁ (loop _ rfl))
end
end Mine
end

-- part L12
section
open PySem PySem.W PySem.Calls PyProof.Rows
set_option Elab.async false
set_option maxRecDepth 100000
set_option maxHeartbeats 8000000
set_option pp.maxSteps 300
set_option pp.deepTerms false
namespace Mine
theorem warmL12 : (∀ P, _root_.hd.heap_39 P = _root_.hd.heap_39 P) ∧ PySem.Challenge.rw_dj5002_01 = PySem.Challenge.rw_dj5002_01 := by
  k_fill
  exact ⟨fun _ => rfl, rfl⟩
local macro_rules | `(tactic| walk_at "look") => `(tactic| first | with_reducible assumption | exact upd_eq | (refine upd_ne (by decide) ?_; walk_at "look") | exact if_pos rfl | (refine Eq.trans (if_neg (by decide)) ?_; walk_at "look"))
local macro_rules | `(tactic| walk_at "eval Name") => `(tactic| (k_here; k_dflt (first
  | (refine' nmL ?F ?e ?a ?b ?d ?v ?_; (case F => k_asm); (case e => rfl); (case a => rfl); (case b => rfl); (case d => decide); (case v => walk_at "look"); k_whole)
  | (refine' nmC ?F ?a ?b ?c ?o ?d ?e ?_; (case F => k_asm); (case a => rfl); (case b => rfl); (case c => rfl); (case o => exact News.get (by k_asm) (by k_mem)); (case d => k_asm); (case e => decide); k_whole)
  | (refine' nmB ?F ?X ?T ?g ?bb ?a ?b ?d ?e ?v ?n ?_; (case F => k_asm); (case X => k_asm); (case T => k_asm); (case g => rfl); (case bb => rfl); (case a => rfl); (case b => rfl); (case d => decide); (case e => k_is); (case v => boot_fast); (case n => decide); k_whole)
  | (refine' nmK ?F ?X ?T ?g ?a ?b ?d ?e ?_; (case F => k_asm); (case X => k_asm); (case T => k_asm); (case g => rfl); (case a => rfl); (case b => rfl); (case d => decide); (case e => k_is); k_whole))))
local macro_rules | `(tactic| walk_at "loadName") => `(tactic| (k_here; k_dflt (refine' ldn ?F ?v ?_ ?a ?b; (case F => k_asm); (case a => rfl); (case b => rfl); (case v => walk_at "look"); k_whole)))
local macro_rules | `(tactic| walk_at "stop") => `(tactic| first
  | (with_reducible show InvPostN _ _ _ _ _ _ _ _ _)
  | (with_reducible show InvEndN _ _ _ _ _ _ _)
  | (with_reducible show wpAny _ _ (eval (Expr.ListComp _ _ _ _) _) _ _ _)
  | (with_reducible show wpAny _ _ (pyIter _) _ _ _)
  | (with_reducible show wpAny _ _ (exec (Stmt.For _ _ _ _ _) _) _ _ _)
  | (with_reducible show wpAny _ _ (exec (Stmt.While _ _ _ _) _) _ _ _)
  | (with_reducible show wpAny _ _ (call (Value.ref _) _ _) _ _ _)
  | (with_reducible show wpAny _ _ (call (Value.builtin "sorted") _ _) _ _ _)
  | (with_reducible show wpAny _ _ (call (Value.builtin "str.join") _ _) _ _ _)
  | (with_reducible show wpAny _ _ (subscriptTail _ _ (Value.str _ _) (Value.int _ _)) _ _ _)
  | (with_reducible show wpAny _ _ (compareOp CmpOp.NotIn _ (Value.ref _)) _ _ _))
local macro_rules | `(tactic| walk_at "steps") => `(tactic| repeat (first | (k_unfold; (try dsimp only)) | ((fail_if_success walk_at "stop"); walk1) | ((fail_if_success walk_at "stop"); dsimp only; (fail_if_success walk_at "stop"); walk1)))
local macro_rules | `(tactic| walk_at "rest") => `(tactic| (with_reducible show wpAny _ _ (execs _ _) _ _ _))
local macro_rules | `(tactic| walk_at "stmt") => `(tactic| repeat ((fail_if_success walk_at "rest"); first | (k_unfold; (try dsimp only)) | ((fail_if_success walk_at "stop"); walk1) | ((fail_if_success walk_at "stop"); dsimp only; (fail_if_success walk_at "stop"); walk1)))
local macro_rules | `(tactic| walk_at "one") => `(tactic| first | (k_unfold; (try dsimp only)) | ((fail_if_success walk_at "stop"); walk1) | ((fail_if_success walk_at "stop"); dsimp only; (fail_if_success walk_at "stop"); walk1))
local macro_rules | `(tactic| walk_at "loadName") => `(tactic| (k_here; k_dflt (refine' ldA ?F ?e ?a ?b ?v ?_; (case F => k_asm); (case e => rfl); (case a => rfl); (case b => rfl); (case v => walk_at "look"); k_whole)))
local macro_rules | `(tactic| k_all) => `(tactic| first | exact List.forall_mem_nil _ | with_reducible assumption | (refine' List.forall_mem_cons.mpr ⟨?a, ?b⟩; (case a => k_ne); (case b => k_all)))
local macro_rules | `(tactic| walk_at "stop") => `(tactic| first | (with_reducible show InvPostG _ _ _ _ _ _ _ _) | (with_reducible show wpAny _ _ (setItem _ _ _) _ _ _) | (with_reducible show wpAny _ _ (subscriptTail _ _ (Value.ref _) (Value.str _ _)) _ _ _) | (with_reducible show wpAny _ _ (call (Value.builtin "list.append") _ _) _ _ _) | (with_reducible show wpAny _ _ (call (Value.builtin "len") [Value.ref _]) _ _ _) | (with_reducible show wpAny _ _ (getMethod (Value.ref _) _ _) _ _ _))
def wordsL (tx wh ls : List Nat) : List (List Nat) := [[], [36], [101], tx, wh, tx.take 3 ++ [101]] ++ (ls.map fun a => [a]) ++ ls.flatMap fun a => ls.map fun b => [a, b]
abbrev TX (l : List Nat) : Str := ⟨l.toArray⟩
local macro_rules | `(tactic| walk_at "stop") => `(tactic| first | (with_reducible show wpAny _ _ (binaryOp _ (Value.ref _) (Value.ref _)) _ _ _) | (with_reducible show wpAny _ _ (newList _) _ _ _))
theorem strs_append : ∀ {vs ws : List Value} {xs ys : List Str}, StrsAre vs xs → StrsAre ws ys → StrsAre (vs ++ ws) (xs ++ ys)
  | _, _, _, _, .nil, h => h
  | _, _, _, _, .cons a b r, h => .cons a b (strs_append r h)
theorem letters_strs {ls : List Nat} {vs4 : List Value} {ys : Array Value} (hlen : vs4.length = ls.length) (hP : ∀ (j : Nat) (v : Value), vs4[j]? = some v → SignAt ⟨ls.toArray⟩ j v)
    (hF : Paired (fun v y => y = v) (vs4.filter fun _ => true) ys.toList) : StrsAre ys.toList ((ls.map fun a => [a]).map TX) := by
  rw [List.filter_eq_self.mpr (fun _ _ => rfl)] at hF
  have e : ys.toList = vs4 := by
    have : ∀ {a b : List Value}, Paired (fun v y => y = v) a b → b = a := fun {a b} h => by
      induction h with
      | nil => rfl
      | cons h _ ih => rw [h, ih]
    exact this hF
  rw [e]
  have key : ∀ (zs : List Value) (l : List Nat), zs.length = l.length → (∀ (i : Nat) (v : Value), zs[i]? = some v → ∃ c u, l[i]? = some c ∧ v = .str (CS c) u) → StrsAre zs ((l.map fun a => [a]).map TX) := by
    intro zs
    induction zs with
    | nil => intro l hl h; cases l with
      | nil => exact .nil
      | cons _ _ => simp at hl
    | cons z zs ih => intro l hl h; cases l with
      | nil => simp at hl
      | cons q l =>
        obtain ⟨c, u, hc, rfl⟩ := h 0 z rfl
        obtain rfl : q = c := Option.some.inj hc
        exact .cons _ _ (ih l (by simpa using hl) fun i v hv => by simpa using h (i + 1) v (by simpa using hv))
  refine key _ _ hlen fun i v hv => ?_
  obtain ⟨c, u, hc, rfl⟩ := hP i v hv
  exact ⟨c, u, by rw [← List.getElem?_toArray]; exact hc, rfl⟩
theorem two_words (ls l : List Nat) : twoL ls l = (l.flatMap fun a => ls.map fun b => [a, b]).map TX := by
  unfold twoL
  induction l with
  | nil => rfl
  | cons a r ih =>
    rw [List.flatMap_cons, List.flatMap_cons, List.map_append, ih, List.map_map]
    rfl
theorem newList_N {M : Model} {A : Around} {E : Value → Shared → Prop} {s : Shared} {h₀ : Heap} {L : Addr} {m : Str → Option Value} {news : List (Addr × Obj)} {items : List Value} {Q : Value → Shared → Prop} (F : Fr h₀ L s.heap m) (N : News h₀ L s.heap news) (hsz : items.length ≤ sizeLine)
    (h : ∀ D h', Fr h₀ L h' m → News h₀ L h' ((D, listOf items.toArray 0) :: news) → (∀ p ∈ news, p.1 ≠ D) → Q (.ref D) { s with heap := h' }) : wpAny M A (newList items) Q E s :=
  wpAny_newList (h _ _ (F.push (listOf items.toArray 0)) (News.push F N (listOf items.toArray 0) rfl) (fun p hp => Nat.ne_of_lt (Heap.lt_size (N p hp).1))) hsz
theorem newList_S {M : Model} {A : Around} {E : Value → Shared → Prop} {s : Shared} {h₀ : Heap} {L : Addr} {m : Str → Option Value} {news : List (Addr × Obj)} {items : List Value} {xs : List Str} {Q : Value → Shared → Prop} (F : Fr h₀ L s.heap m) (N : News h₀ L s.heap news) (hS : StrsAre items xs) (hsz : items.length ≤ sizeLine)
    (h : ∀ D h' vs, Fr h₀ L h' m → News h₀ L h' ((D, listOf (List.toArray vs) 0) :: news) → (∀ p ∈ news, p.1 ≠ D) → StrsAre vs xs → Q (.ref D) { s with heap := h' }) : wpAny M A (newList items) Q E s :=
  newList_N F N hsz fun D h' F' N' hD => h D h' items F' N' hD hS
theorem seg21 {w : World} {A : Around} {E : Value → Shared → Prop} {s : Shared} {g : Heap} {p : Program} {loose : List Str} {mg mb : Str → Option Value} {Q : Flow → Shared → Prop} {L fa : Addr} {cd : Value} {m : Str → Option Value} {o1 o2 o3 o4 o5 o6 o7 o8 : Obj} {tx wh : List Nat} {sz : Nat} {u1 u2 u3 : Tok} {tl : List (Addr × Obj)} (X : (hd.heap_39 w.params).In g) (T : TopRead p loose mg mb g) (hA : A.handled = none)
    (F : Fr g L s.heap m) (N : News g L s.heap ((L+1+1+1+1+1+1+1+1, o8) :: (L+1+1+1+1+1+1+1, o7) :: (L+1+1+1+1+1+1, o6) :: (L+1+1+1+1+1, o5) :: (L+1+1+1+1, o4) :: (L+1+1+1, o3) :: (L+1+1, o2) :: (L+1, o1) :: tl)) (h17 : tx.length ≤ 17) (h3 : 3 ≤ tx.length) (hsz : sz ≤ 4)
    (m5 : m "text" = some (.str ⟨tx.toArray⟩ u1)) (d2 : o2.data = .cell (some (.str ⟨(letN sz).toArray⟩ u2))) (d3 : o3.data = .cell (some (.str ⟨wh.toArray⟩ u3)))
    (hK : ∀ h' tk m' W vs c, Fr g L h' m' → News g L h' ((W, listOf (List.toArray vs) c) :: ((L+1+1+1+1+1+1+1+1, o8) :: (L+1+1+1+1+1+1+1, o7) :: (L+1+1+1+1+1+1, o6) :: (L+1+1+1+1+1, o5) :: (L+1+1+1+1, o4) :: (L+1+1+1, o3) :: (L+1+1, o2) :: (L+1, o1) :: tl)) → (∀ p ∈ ((L+1+1+1+1+1+1+1+1, o8) :: (L+1+1+1+1+1+1+1, o7) :: (L+1+1+1+1+1+1, o6) :: (L+1+1+1+1+1, o5) :: (L+1+1+1+1, o4) :: (L+1+1+1, o3) :: (L+1+1, o2) :: (L+1, o1) :: tl), p.1 ≠ W) → (∀ y : Str, y ≠ Str.ofString "words" → m' y = m y) → m' "words" = some (.ref W) → StrsAre vs ((wordsL tx wh (letN sz)).map TX) →
      wpAny (model PG w) A (execs (lawBody.drop 22) (lawEnv L fa cd)) Q E { s with heap := h', toks := tk }) :
    wpAny (model PG w) A (execs (lawBody.drop 21) (lawEnv L fa cd)) Q E s := by
  have e1 : lawBody.drop 21 = _ :: _ := rfl
  have e2 : lawScope = Scope.mk _ _ _ _ _ := rfl
  unfold lawEnv
  rw [e1, e2]
  clear e1 e2
  refine wpAny_execs_cons ?_
  walk_at "stmt"
  have e3 : Txt.slice ⟨tx.toArray⟩ none (some (3 : Int)) ++ ("e" : Str) = TX (tx.take 3 ++ [101]) := by
    rw [show (3 : Int) = ((3 : Nat) : Int) from rfl, slice_to]; exact str_app _ _
  rw [e3]
  (with_reducible rename News _ _ _ _ => N4)
  (with_reducible rename Fr _ _ _ _ => F4)
  refine newList_S (xs := [[], [36], [101], tx, wh, tx.take 3 ++ [101]].map TX) F4 N4 (.cons _ _ (.cons _ _ (.cons _ _ (.cons _ _ (.cons _ _ (.cons _ _ .nil)))))) (by rw [sizeLine_eq]; exact Nat.le_of_ble_eq_true rfl) fun D6 h6 vs6 F6 N6 hD6 hS6 => ?_
  clear N4 F4
  walk_at "stmt"
  k_unmd
  k_fold
  refine wpAny_ListComp_free (fun _ => true) (fun v y => y = v) (by with_unfolding_all rfl) (by decide) rfl (by decide) rfl ?_
  walk_at "stmt"
  (with_reducible rename Fr _ _ _ _ => F7)
  (with_reducible rename News _ _ _ _ => N7)
  have hll : (letN sz).length = sz := by simp [letN]
  refine' lcS hA ?ks ?kF ?kN ?kT ?kD
  case kF => exact F7
  case kN => exact N7
  case ks => rw [sizeLine_eq]; show (letN sz).toArray.size ≤ _; rw [List.size_toArray]; omega
  case kT =>
    refine lc_plain fun C i v s₃ m₃ E' hi hP F8 hm => ?_
    dsimp only at F8
    walk_at "steps"
    first | exact ⟨rfl, Keeps.intro' fun _ _ e => e⟩ | exact Keeps.intro' fun _ _ e => e
  case kD =>
    intro D9 h9 tk9 k9 ys9 vs9 F9 N9 hD9 hlen9 hP9 hF9 keep9
    walk_at "stmt"
    have hS9 := letters_strs (ls := letN sz) (by rw [hlen9]; show (letN sz).toArray.size = _; simp) hP9 hF9
    have hz9 : ys9.toList.length = sz := by rw [hS9.len_eq]; simp [hll]
    have l6 : h9.IsList D6 (List.toArray vs6) := ⟨_, (N9 _ (.tail _ (.head _))).1, rfl, _, rfl⟩
    have l9 : h9.IsList D9 ys9.toList.toArray := ⟨_, (N9 _ (.head _)).1, rfl, k9, by simp [PySem.W.listOf]⟩
    have hz6 : vs6.length = 6 := by rw [hS6.len_eq]; rfl
    refine PyProof.Rows.add_lists F9 N9 l6 l9 (fun h10 F10 N10 => ?_) (by rw [sizeLine_eq, hz9]; omega)
    have hS10 := strs_append hS6 hS9
    have hz10 : (vs6 ++ ys9.toList).length ≤ 10 := by rw [List.length_append, hz9, hz6]; omega
    generalize vs6 ++ ys9.toList = vs10 at N10 hS10 hz10
    clear N9 F9 l6 l9
    generalize h9.objs.size = D10 at N10
    dsimp only
    k_unmd
    k_fold
    refine two_comp hA (by with_unfolding_all rfl) (by decide) rfl (by decide) rfl rfl (by decide) (fun _ _ => rfl) ?_
    walk_at "stmt"
    refine ⟨by omega, ⟨u2, fun C s₂ m₂ E' Q F11 q => ?_⟩, fun C ca ua cb ub s₂ m₂ E' F11 h1 h2 => ?_, fun D h' tk ys k hD hDo hS hk => ?_⟩
    · dsimp only at F11
      walk_at "steps"
      exact q
    · dsimp only at F11
      walk_at "steps"
      exact Keeps.intro' fun _ _ e => e
    · have F12 := Fr.kept F10 hk
      have N12 : News g L h' ((D, listOf ys k) :: (D10, { cls := .type "list", data := .seq vs10.toArray }) :: ((L+1+1+1+1+1+1+1+1, o8) :: (L+1+1+1+1+1+1+1, o7) :: (L+1+1+1+1+1+1, o6) :: (L+1+1+1+1+1, o5) :: (L+1+1+1+1, o4) :: (L+1+1+1, o3) :: (L+1+1, o2) :: (L+1, o1) :: tl)) := fun q hq => by
        rcases List.mem_cons.mp hq with rfl | hq
        · refine ⟨hDo, ?_, ?_⟩
          · rintro rfl
            obtain ⟨o, _, _, ho, _⟩ := F10.ns
            rw [hD] at ho; cases ho
          · cases e : g.get? D with
            | none => rfl
            | some o => rw [F10.keep _ _ e] at hD; cases hD
        · have hq' := N10 q (by
            simp only [List.mem_cons] at hq ⊢
            rcases hq with h | h
            · exact .inl h
            · exact .inr (.inr (.inr h)))
          exact ⟨hk _ _ hq'.1, hq'.2⟩
      rw [two_words] at hS
      have hz : ys.toList.length ≤ 16 := by
        rw [hS.len_eq, List.length_map, List.length_flatMap]
        simp only [List.length_map, List.map_const', hll, List.sum_replicate_nat]
        have : sz * sz ≤ 4 * 4 := Nat.mul_le_mul hsz hsz
        exact this
      clear N10 F10
      walk_at "stmt"
      have l10 : h'.IsList D10 vs10.toArray := ⟨_, (N12 _ (.tail _ (.head _))).1, rfl, _, rfl⟩
      have l11 : h'.IsList D ys.toList.toArray := ⟨_, (N12 _ (.head _)).1, rfl, k, by simp [PySem.W.listOf]⟩
      have hS12 := strs_append hS10 hS
      refine PyProof.Rows.add_lists F12 N12 l10 l11 (fun h13 F13 N13 => ?_) (by rw [sizeLine_eq]; omega)
      have N14 : News g L h13 ((h'.objs.size, listOf (List.toArray (vs10 ++ ys.toList)) 0) :: ((L+1+1+1+1+1+1+1+1, o8) :: (L+1+1+1+1+1+1+1, o7) :: (L+1+1+1+1+1+1, o6) :: (L+1+1+1+1+1, o5) :: (L+1+1+1+1, o4) :: (L+1+1+1, o3) :: (L+1+1, o2) :: (L+1, o1) :: tl)) := fun q hq => N13 q (by
        simp only [List.mem_cons] at hq ⊢
        rcases hq with h | h
        · exact .inl h
        · exact .inr (.inr (.inr h)))
      have hlt : ∀ p ∈ ((L+1+1+1+1+1+1+1+1, o8) :: (L+1+1+1+1+1+1+1, o7) :: (L+1+1+1+1+1+1, o6) :: (L+1+1+1+1+1, o5) :: (L+1+1+1+1, o4) :: (L+1+1+1, o3) :: (L+1+1, o2) :: (L+1, o1) :: tl), p.1 ≠ h'.objs.size := fun q hq => Nat.ne_of_lt (Heap.lt_size (N12 q (.tail _ (.tail _ hq))).1)
      clear N13 N12 l10 l11 F12
      dsimp only
      walk_at "stmt"
      refine hK _ _ _ _ _ 0 (by k_asm) (by k_asm) hlt (fun y hy => if_neg hy) (by walk_at "look") ?_
      have e : (wordsL tx wh (letN sz)).map TX = List.map TX [[], [36], [101], tx, wh, List.take 3 tx ++ [101]] ++ List.map TX (List.map (fun a => [a]) (letN sz)) ++ List.map TX (List.flatMap (fun a => List.map (fun b => [a, b]) (letN sz)) (letN sz)) := by
        unfold wordsL; rw [List.map_append, List.map_append]
      rw [e]; exact hS12
end Mine
end

-- part L13
section
open PySem PySem.W PySem.Calls PyProof.Rows
set_option Elab.async false
set_option maxRecDepth 100000
set_option maxHeartbeats 8000000
set_option pp.maxSteps 300
set_option pp.deepTerms false
namespace Mine
theorem warmL13 : (∀ P, _root_.hd.heap_39 P = _root_.hd.heap_39 P) ∧ PySem.Challenge.rw_dj5002_01 = PySem.Challenge.rw_dj5002_01 := by
  k_fill
  exact ⟨fun _ => rfl, rfl⟩
local macro_rules | `(tactic| walk_at "look") => `(tactic| first | with_reducible assumption | exact upd_eq | (refine upd_ne (by decide) ?_; walk_at "look") | exact if_pos rfl | (refine Eq.trans (if_neg (by decide)) ?_; walk_at "look"))
local macro_rules | `(tactic| walk_at "eval Name") => `(tactic| (k_here; k_dflt (first
  | (refine' nmL ?F ?e ?a ?b ?d ?v ?_; (case F => k_asm); (case e => rfl); (case a => rfl); (case b => rfl); (case d => decide); (case v => walk_at "look"); k_whole)
  | (refine' nmC ?F ?a ?b ?c ?o ?d ?e ?_; (case F => k_asm); (case a => rfl); (case b => rfl); (case c => rfl); (case o => exact News.get (by k_asm) (by k_mem)); (case d => k_asm); (case e => decide); k_whole)
  | (refine' nmB ?F ?X ?T ?g ?bb ?a ?b ?d ?e ?v ?n ?_; (case F => k_asm); (case X => k_asm); (case T => k_asm); (case g => rfl); (case bb => rfl); (case a => rfl); (case b => rfl); (case d => decide); (case e => k_is); (case v => boot_fast); (case n => decide); k_whole)
  | (refine' nmK ?F ?X ?T ?g ?a ?b ?d ?e ?_; (case F => k_asm); (case X => k_asm); (case T => k_asm); (case g => rfl); (case a => rfl); (case b => rfl); (case d => decide); (case e => k_is); k_whole))))
local macro_rules | `(tactic| walk_at "loadName") => `(tactic| (k_here; k_dflt (refine' ldn ?F ?v ?_ ?a ?b; (case F => k_asm); (case a => rfl); (case b => rfl); (case v => walk_at "look"); k_whole)))
local macro_rules | `(tactic| walk_at "stop") => `(tactic| first
  | (with_reducible show InvPostN _ _ _ _ _ _ _ _ _)
  | (with_reducible show InvEndN _ _ _ _ _ _ _)
  | (with_reducible show wpAny _ _ (eval (Expr.ListComp _ _ _ _) _) _ _ _)
  | (with_reducible show wpAny _ _ (pyIter _) _ _ _)
  | (with_reducible show wpAny _ _ (exec (Stmt.For _ _ _ _ _) _) _ _ _)
  | (with_reducible show wpAny _ _ (exec (Stmt.While _ _ _ _) _) _ _ _)
  | (with_reducible show wpAny _ _ (call (Value.ref _) _ _) _ _ _)
  | (with_reducible show wpAny _ _ (call (Value.builtin "sorted") _ _) _ _ _)
  | (with_reducible show wpAny _ _ (call (Value.builtin "str.join") _ _) _ _ _)
  | (with_reducible show wpAny _ _ (subscriptTail _ _ (Value.str _ _) (Value.int _ _)) _ _ _)
  | (with_reducible show wpAny _ _ (compareOp CmpOp.NotIn _ (Value.ref _)) _ _ _))
local macro_rules | `(tactic| walk_at "steps") => `(tactic| repeat (first | (k_unfold; (try dsimp only)) | ((fail_if_success walk_at "stop"); walk1) | ((fail_if_success walk_at "stop"); dsimp only; (fail_if_success walk_at "stop"); walk1)))
local macro_rules | `(tactic| walk_at "rest") => `(tactic| (with_reducible show wpAny _ _ (execs _ _) _ _ _))
local macro_rules | `(tactic| walk_at "stmt") => `(tactic| repeat ((fail_if_success walk_at "rest"); first | (k_unfold; (try dsimp only)) | ((fail_if_success walk_at "stop"); walk1) | ((fail_if_success walk_at "stop"); dsimp only; (fail_if_success walk_at "stop"); walk1)))
local macro_rules | `(tactic| walk_at "one") => `(tactic| first | (k_unfold; (try dsimp only)) | ((fail_if_success walk_at "stop"); walk1) | ((fail_if_success walk_at "stop"); dsimp only; (fail_if_success walk_at "stop"); walk1))
local macro_rules | `(tactic| walk_at "loadName") => `(tactic| (k_here; k_dflt (refine' ldA ?F ?e ?a ?b ?v ?_; (case F => k_asm); (case e => rfl); (case a => rfl); (case b => rfl); (case v => walk_at "look"); k_whole)))
local macro_rules | `(tactic| k_all) => `(tactic| first | exact List.forall_mem_nil _ | with_reducible assumption | (refine' List.forall_mem_cons.mpr ⟨?a, ?b⟩; (case a => k_ne); (case b => k_all)))
local macro_rules | `(tactic| walk_at "stop") => `(tactic| first | (with_reducible show InvPostG _ _ _ _ _ _ _ _) | (with_reducible show wpAny _ _ (setItem _ _ _) _ _ _) | (with_reducible show wpAny _ _ (subscriptTail _ _ (Value.ref _) (Value.str _ _)) _ _ _) | (with_reducible show wpAny _ _ (call (Value.builtin "list.append") _ _) _ _ _) | (with_reducible show wpAny _ _ (call (Value.builtin "len") [Value.ref _]) _ _ _) | (with_reducible show wpAny _ _ (getMethod (Value.ref _) _ _) _ _ _))
theorem append_S {prog : Program} {w : World} {A : Around} {E : Value → Shared → Prop} {s : Shared} {h₀ : Heap} {L W : Addr} {m : Str → Option Value} {rest : List (Addr × Obj)} {vs : List Value} {c : Nat} {xs : List Str} {y : Str} {t : Tok} {Q : Value → Shared → Prop} (F : Fr h₀ L s.heap m) (N : News h₀ L s.heap ((W, listOf (List.toArray vs) c) :: rest)) (hoff : ∀ p ∈ rest, p.1 ≠ W) (hS : StrsAre vs xs) (hsz : vs.length ≤ sizeLine)
    (h : ∀ h' vN, Fr h₀ L h' m → News h₀ L h' ((W, listOf (List.toArray vN) (c + 1)) :: rest) → StrsAre vN (xs ++ [y]) → Q .none { s with heap := h' }) : wpAny (model prog w) A (call (.builtin "list.append") [.ref W, .str y t]) Q E s := by
  refine append_at (N _ (.head _)).1 (fun h8 hs8 ho8 => ?_) (by rw [List.size_toArray]; exact hsz)
  refine h h8 (vs ++ [.str y t]) (F.change hs8 (N _ (.head _)).2.1 (N _ (.head _)).2.2) (news_set (pre := []) N (by simp) hoff hs8 (by simpa [PySem.W.listOf] using ho8)) (strs_append hS (.cons _ _ .nil))
theorem seg22 {w : World} {A : Around} {E : Value → Shared → Prop} {s : Shared} {g : Heap} {p : Program} {loose : List Str} {mg mb : Str → Option Value} {Q : Flow → Shared → Prop} {L fa : Addr} {cd : Value} {m : Str → Option Value} {o1 o2 o3 o4 o5 o6 o7 o8 : Obj} {P : List Nat → Prop} {tx : List Nat} {l : Addr} {vs vsW : List Value} {ns : List Int} {ws : List (List Nat)} {c : Nat} {W : Addr} {u1 : Tok} {tl : List (Addr × Obj)} (X : (hd.heap_39 w.params).In g) (T : TopRead p loose mg mb g) (hA : A.handled = none) (hE : E = fun _ _ => False)
    (hl : g.IsList l vs.toArray) (hI : IntsAre vs ns) (hn : ns.length ≤ 63) (ms : m "script" = some (.ref l))
    (F : Fr g L s.heap m) (N : News g L s.heap ((W, listOf (List.toArray vsW) c) :: ((L+1+1+1+1+1+1+1+1, o8) :: (L+1+1+1+1+1+1+1, o7) :: (L+1+1+1+1+1+1, o6) :: (L+1+1+1+1+1, o5) :: (L+1+1+1+1, o4) :: (L+1+1+1, o3) :: (L+1+1, o2) :: (L+1, o1) :: tl))) (hoff : ∀ p ∈ ((L+1+1+1+1+1+1+1+1, o8) :: (L+1+1+1+1+1+1+1, o7) :: (L+1+1+1+1+1+1, o6) :: (L+1+1+1+1+1, o5) :: (L+1+1+1+1, o4) :: (L+1+1+1, o3) :: (L+1+1, o2) :: (L+1, o1) :: tl), p.1 ≠ W) (h17 : tx.length ≤ 17) (h3 : 3 ≤ tx.length)
    (m5 : m "text" = some (.str ⟨tx.toArray⟩ u1)) (m6 : m "words" = some (.ref W)) (hS : StrsAre vsW (ws.map TX)) (hws : ws.length ≤ 26) (hP : ∀ x ∈ ws, P x) (hnil : ∃ r, ws = [] :: r) (hPs : ∀ a b, P ((tx.drop a).take b))
    (hK : ∀ h' tk m' vsW ws c, Fr g L h' m' → News g L h' ((W, listOf (List.toArray vsW) c) :: ((L+1+1+1+1+1+1+1+1, o8) :: (L+1+1+1+1+1+1+1, o7) :: (L+1+1+1+1+1+1, o6) :: (L+1+1+1+1+1, o5) :: (L+1+1+1+1, o4) :: (L+1+1+1, o3) :: (L+1+1, o2) :: (L+1, o1) :: tl)) → (∀ y : Str, y ≠ Str.ofString "x" → y ≠ Str.ofString "start" → m' y = m y) → StrsAre vsW (ws.map TX) → ws.length ≤ 100 → (∀ x ∈ ws, P x) → (∃ r, ws = [] :: r) →
      wpAny (model PG w) A (execs (lawBody.drop 23) (lawEnv L fa cd)) Q E { s with heap := h', toks := tk }) :
    wpAny (model PG w) A (execs (lawBody.drop 22) (lawEnv L fa cd)) Q E s := by
  subst hE
  have e1 : lawBody.drop 22 = _ :: _ := rfl
  have e2 : lawScope = Scope.mk _ _ _ _ _ := rfl
  unfold lawEnv
  rw [e1, e2]
  clear e1 e2
  refine wpAny_execs_cons ?_
  refine For_invV g rfl rfl ?_
  walk_at "stmt"
  (with_reducible rename News _ _ _ _ => N4)
  (with_reducible rename Fr _ _ _ _ => F4)
  (with_reducible rename IntsAre _ (List.take _ _) => hI4)
  rename (_ ∧ _) => hlt
  have hlt' := allLt_ne (tl := (W, listOf (List.toArray vsW) c) :: ((L+1+1+1+1+1+1+1+1, o8) :: (L+1+1+1+1+1+1+1, o7) :: (L+1+1+1+1+1+1, o6) :: (L+1+1+1+1+1, o5) :: (L+1+1+1+1, o4) :: (L+1+1+1, o3) :: (L+1+1, o2) :: (L+1, o1) :: tl)) hlt
  clear hlt
  have hxs : (List.take (min 7 ns.length - 1) (List.drop 1 ns)).length ≤ 63 := by simp; omega
  generalize List.take (min 7 ns.length - 1) (List.drop 1 ns) = xs at hI4 hxs
  have hD4 := N4 _ (.head _)
  rename List Value => vs4
  generalize hrest : ((L+1+1+1+1+1+1+1+1, o8) :: (L+1+1+1+1+1+1+1, o7) :: (L+1+1+1+1+1+1, o6) :: (L+1+1+1+1+1, o5) :: (L+1+1+1+1, o4) :: (L+1+1+1, o3) :: (L+1+1, o2) :: (L+1, o1) :: tl) = rest at N4 hoff hlt'
  have N5 : News g L _ ((W, listOf (List.toArray vsW) c) :: rest) := fun q hq => N4 q (.tail _ hq)
  refine list_loop (vs := vs4) (fun i m' news => (∀ y : Str, y ≠ Str.ofString "x" → y ≠ Str.ofString "start" → m' y = m y) ∧ ∃ vsW ws c, news = (W, listOf (List.toArray vsW) c) :: rest ∧ StrsAre vsW (ws.map TX) ∧ ws.length ≤ 26 + i ∧ (∀ x ∈ ws, P x) ∧ ∃ r, ws = [] :: r) hA F4 N5 ⟨_, hD4.1, rfl, _, rfl⟩ hD4.2.1 hlt' ⟨fun _ _ _ => rfl, vsW, ws, c, rfl, hS, hws, hP, hnil⟩ ?_ ?_
  · rintro i v m₁ news₁ h₁ tk own hv _ hoff2 ⟨hm, vsW, ws, c, rfl, hS, hws, hP, r, hr⟩ F₁ N₁
    have hi : i < xs.length := by rw [← hI4.length]; exact (List.getElem?_eq_some_iff.mp hv).1
    obtain ⟨x, hx⟩ : ∃ x, xs[i]? = some x := ⟨xs[i], by simp⟩
    obtain ⟨tv, rfl⟩ : ∃ tv, v = .int x tv := by
      obtain ⟨tv, htv⟩ := hI4.get i x hx
      rw [hv] at htv
      exact ⟨tv, Option.some.inj htv⟩
    have hall : ∀ p ∈ rest ++ own, p.1 ≠ W := fun p hp => by
      rcases List.mem_append.mp hp with hp | hp
      · exact hoff p hp
      · exact hoff2 p hp W (by simp)
    clear N4 N5 hD4 hlt'
    subst hrest
    have N₂ : News g L h₁ ((W, listOf (List.toArray vsW) c) :: ((L+1+1+1+1+1+1+1+1, o8) :: (L+1+1+1+1+1+1+1, o7) :: (L+1+1+1+1+1+1, o6) :: (L+1+1+1+1+1, o5) :: (L+1+1+1+1, o4) :: (L+1+1+1, o3) :: (L+1+1, o2) :: (L+1, o1) :: (tl ++ own))) := N₁
    have hall' : ∀ p ∈ ((L+1+1+1+1+1+1+1+1, o8) :: (L+1+1+1+1+1+1+1, o7) :: (L+1+1+1+1+1+1, o6) :: (L+1+1+1+1+1, o5) :: (L+1+1+1+1, o4) :: (L+1+1+1, o3) :: (L+1+1, o2) :: (L+1, o1) :: (tl ++ own)), p.1 ≠ W := hall
    clear N₁ hall
    have j5 : m₁ "text" = some (.str ⟨tx.toArray⟩ u1) := (hm _ (by decide) (by decide)).trans m5
    have j6 : m₁ "words" = some (.ref W) := (hm _ (by decide) (by decide)).trans m6
    have hab : (if x < 0 then -x else x) = ((x.natAbs : Nat) : Int) := by split <;> omega
    generalize hna : x.natAbs = a at hab
    have hmod : ((a : Nat) : Int).fmod (tx.length : Int) = ((a % tx.length : Nat) : Int) := by rw [Int.fmod_eq_emod_of_nonneg _ (by omega)]; omega
    have hdiv : (((a : Nat) : Int).fdiv 7).fmod 8 = ((a / 7 % 8 : Nat) : Int) := by
      rw [Int.fmod_eq_emod_of_nonneg _ (by decide), Int.fdiv_eq_ediv_of_nonneg _ (by decide)]; omega
    have hlt := Nat.mod_lt a (show 0 < tx.length by omega)
    walk_at "steps"
    refine PySem.P.len_str (by rw [str_len]; omega) ?_
    rw [str_len, hab]
    walk_at "steps"
    (with_reducible rename News _ _ _ _ => N6)
    (with_reducible rename Fr _ _ _ _ => F6)
    rw [hmod] at F6
    refine Calls.getMethod_list_append (N6 _ (.head _)).1 rfl rfl ?_
    walk_at "steps"
    have hsl : Txt.slice ⟨tx.toArray⟩ (some ((a % tx.length : Nat) : Int)) (some (((a % tx.length : Nat) : Int) + 1 + ((if x < 0 then -x else x).fdiv 7).fmod 8)) = TX ((tx.drop (a % tx.length)).take (a % tx.length + 1 + a / 7 % 8 - a % tx.length)) := by
      rw [hab, hdiv, show ((a % tx.length : Nat) : Int) + 1 + ((a / 7 % 8 : Nat) : Int) = ((a % tx.length + 1 + a / 7 % 8 : Nat) : Int) by omega]
      exact slice_ft tx _ _ (by omega) (by omega)
    rw [hsl]
    clear hsl
    have hPw := hPs (a % tx.length) (a % tx.length + 1 + a / 7 % 8 - a % tx.length)
    generalize (tx.drop (a % tx.length)).take (a % tx.length + 1 + a / 7 % 8 - a % tx.length) = wd at hPw
    (with_reducible rename News _ _ _ _ => N7)
    (with_reducible rename Fr _ _ _ _ => F7)
    have hszW : vsW.length ≤ 100 := by rw [hS.len_eq, List.length_map]; omega
    refine append_S F7 N7 hall' hS (by rw [sizeLine_eq]; omega) fun h8 vN F8 N8 hvN => ?_
    have hvN : StrsAre vN ((ws ++ [wd]).map TX) := by rw [List.map_append]; exact hvN
    clear N7 F7
    walk_at "steps"
    refine InvEndN.intro (nx := (W, listOf (List.toArray vN) (c + 1)) :: ((L+1+1+1+1+1+1+1+1, o8) :: (L+1+1+1+1+1+1+1, o7) :: (L+1+1+1+1+1+1, o6) :: (L+1+1+1+1+1, o5) :: (L+1+1+1+1, o4) :: (L+1+1+1, o3) :: (L+1+1, o2) :: (L+1, o1) :: tl)) (by k_asm) (by k_asm) ⟨fun y h1 h2 => (if_neg h2).trans ((if_neg h1).trans (hm y h1 h2)), _, ws ++ [wd], _, rfl, hvN, by simp; omega, ?_, r ++ [wd], by rw [hr]; rfl⟩ rfl (fun p hp => ?_) (fun p hp => ?_)
    · intro y hy
      rcases List.mem_append.mp hy with hy | hy
      · exact hP y hy
      · rw [List.mem_singleton.mp hy]; exact hPw
    · simp only [List.mem_cons, List.mem_append] at hp ⊢
      rcases hp with h | h | h | h | h | h | h | h | h | h <;> simp [h]
    · simp [hp]
  · rintro m₁ news₁ h tk ⟨hm, vsW, ws, c, rfl, hS, hws, hP, r, hr⟩ F₁ N₁
    dsimp only
    subst hrest
    exact hK _ _ _ _ _ _ F₁ N₁ hm hS (by have := hI4.length; omega) hP ⟨r, hr⟩
end Mine
end

-- part Fc
section
open PySem PySem.W PySem.Calls PyProof.Rows
set_option Elab.async false
set_option maxRecDepth 100000
set_option maxHeartbeats 8000000
namespace Mine

def InvPostC (g : Heap) (L c : Addr) (rest : List (Addr × Obj)) (J : (Str → Option Value) → Prop) (s₁ : Shared) (Q : Flow → Shared → Prop) (f : Flow) (s₃ : Shared) : Prop :=
  match f with
  | .brk => Q .next s₃
  | .ret v => Q (.ret v) s₃
  | _ => ∃ h' tk m' oc' v', s₃ = { s₁ with heap := h', toks := tk } ∧ Fr g L h' m' ∧ News g L h' ((c, oc') :: rest) ∧ oc'.data = .cell v' ∧ J m'
theorem InvPostC.intro {g : Heap} {L c : Addr} {rest : List (Addr × Obj)} {J : (Str → Option Value) → Prop} {s₁ : Shared} {Q : Flow → Shared → Prop} {h' : Heap} {tk : Nat} {m' : Str → Option Value} {oc' : Obj} {v' : Option Value} (F : Fr g L h' m') (N : News g L h' ((c, oc') :: rest)) (hd : oc'.data = .cell v') (hj : J m') :
    InvPostC g L c rest J s₁ Q .next { s₁ with heap := h', toks := tk } := ⟨h', tk, m', oc', v', rfl, F, N, hd, hj⟩

section
variable {prog : Program} {w : World} {A : Around} {s : Shared} {env : Env} {g : Heap} {x : Str} {px pos : Pos} {iter : Expr} {body : List Stmt} {Q : Flow → Shared → Prop}
/-- a loop whose target is a cell, over a list -/
theorem for_cell {c : Addr} (J : Nat → (Str → Option Value) → Prop) {vs : List Value} {rest : List (Addr × Obj)} {D : Addr} {oD : Obj} (hh : A.handled = none)
    (hk : env.scope.kind = .function) (hx : env.kindOf x = some .cell) (hc : env.cells.lookup x = some c) (hD : (D, oD) ∈ rest) (hDo : oD.cls = .type "list" ∧ ∃ n, oD.data = .seq vs.toArray n)
    (hoff : ∀ p ∈ rest, p.1 ≠ c)
    (h : wpAny (model prog w) A (eval iter env) (fun xv s₁ => xv = .ref D ∧ ∃ h' tk m₀ o0 v0, s₁ = { s with heap := h', toks := tk } ∧ Fr g env.locals h' m₀ ∧ News g env.locals h' ((c, o0) :: rest) ∧ o0.data = .cell v0 ∧ J 0 m₀) (fun _ _ => False) s)
    (turn : ∀ (i : Nat) v m₁ oc own h tk, vs[i]? = some v → J i m₁ → (∀ p ∈ own, p.1 ≠ c) → Fr g env.locals h m₁ → News g env.locals h ((c, oc) :: (rest ++ own)) → oc.data = .cell (some v) →
      wpAny (model prog w) A (execs body env) (InvPostC g env.locals c (rest ++ own) (J (i + 1)) { s with heap := h, toks := tk } Q) (fun _ _ => False) { s with heap := h, toks := tk })
    (done : ∀ m₁ oc v h tk, J vs.length m₁ → Fr g env.locals h m₁ → News g env.locals h ((c, oc) :: rest) → oc.data = .cell v → Q .next { s with heap := h, toks := tk })
    (hs : ∀ x, foldedSetIterable iter env x = pure x := by intro _; rfl) :
    wpAny (model prog w) A (exec (.For (.Name x px) iter body [] pos) env) Q (fun _ _ => False) s := by
  refine wpAny_For (wpAny_mono h (fun xv s₁ h₁ => ?_) fun _ _ e => e) hs
  obtain ⟨rfl, H0, tk0, m₀, o0, v0, rfl, F0, N0, hd0, hj0⟩ := h₁
  have hDl : H0.IsList D vs.toArray := ⟨oD, (N0 _ (.tail _ hD)).1, hDo.1, hDo.2⟩
  refine wpAny_pyIter_list hDl ?_
  have hDs : D < H0.objs.size := Heap.lt_size (N0 _ (.tail _ hD)).1
  have W := Walks.list (prog := prog) (w := w) hh H0.objs.size D (Nat.ne_of_lt hDs) vs.toArray
  have hlen : vs.toArray.size = vs.length := by simp
  rw [hlen] at W
  have hIL : env.locals ≠ H0.objs.size := Nat.ne_of_lt F0.ns.lt
  have hIc : c ≠ H0.objs.size := Nat.ne_of_lt (Heap.lt_size (N0 _ (.head _)).1)
  have hIr : ∀ p ∈ rest, p.1 ≠ H0.objs.size := fun p hp => Nat.ne_of_lt (Heap.lt_size (N0 p (.tail _ hp)).1)
  have hIg : g.get? H0.objs.size = none := next_is_new F0
  have hcL := (N0 _ (.head _)).2.1
  have hcg := (N0 _ (.head _)).2.2
  have never : ∀ (E : Value → Shared → Prop) {α : Type} {t : Sem α} {Q' : α → Shared → Prop} {s' : Shared}, wpAny (model prog w) A t Q' (fun _ _ => False) s' → wpAny (model prog w) A t Q' E s' := fun E _ _ _ _ h => wpAny_mono h (fun _ _ x => x) fun _ _ x => x.elim
  refine codeAny_forLoop (fun k s' => ∃ h' tk m' oc v i, s' = { s with heap := h', toks := tk } ∧ (h'.IsListIter H0.objs.size D i ∧ h'.IsList D vs.toArray) ∧ Fr g env.locals h' m' ∧ News g env.locals h' ((c, oc) :: rest) ∧ oc.data = .cell v ∧ J i m' ∧ i ≤ vs.length ∧ k = vs.length + 1 - i) ?_ (vs.length + 1)
    ⟨_, _, m₀, o0, v0, 0, rfl, ⟨⟨_, Heap.get?_push_size _ rfl, rfl, rfl⟩, hDl.at fun o e => Heap.get?_push_of_some _ e⟩, F0.push _, fun p hp => ⟨Heap.get?_push_of_some _ (N0 p hp).1, (N0 p hp).2⟩, hd0, hj0, Nat.zero_le _, rfl⟩
  rintro k s' ⟨H, tk, m', oc, v, i, rfl, hst, F, N, hd, hj, hi, rfl⟩
  by_cases hlt : i < vs.length
  · refine W.item i _ _ _ hlt hst fun v' h₁ tk₁ hP hst₁ hk₁ => ?_
    have hv' : vs[i]? = some v' := by rw [← List.getElem?_toArray]; exact hP
    have F1 : Fr g env.locals h₁ m' := ⟨F.ns.at' fun o e => hk₁ _ o (by simpa using hIL) e, fun b o e => hk₁ b o (by simp; rintro rfl; rw [hIg] at e; cases e) (F.keep b o e), F.above⟩
    have N1 : News g env.locals h₁ ((c, oc) :: rest) := fun p hp => by
      refine ⟨hk₁ _ _ ?_ (N p hp).1, (N p hp).2⟩
      rcases List.mem_cons.mp hp with rfl | hp
      · simpa using hIc
      · simpa using hIr p hp
    refine wpAny_assign_Name (wpAny_storeName_cell hk hx hc ⟨oc, (N1 _ (.head _)).1, hd⟩ fun h₂ hv₂ hs₂ => ?_)
    obtain ⟨oc2, hoc2, hd2⟩ := hv₂
    have F2 := F1.change hs₂ hcL hcg
    have N2 : News g env.locals h₂ ((c, oc2) :: rest) := news_set (pre := []) N1 (by simp) hoff hs₂ hoc2
    obtain ⟨⟨oI, hoI, hI1, hI2⟩, hDl1⟩ := hst₁
    have hoI2 : h₂.get? H0.objs.size = some oI := hs₂.extBut _ _ (Ne.symm hIc) hoI
    have N3 : News g env.locals h₂ ((c, oc2) :: (rest ++ [(H0.objs.size, oI)])) := fun p hp => by
      rcases List.mem_cons.mp hp with rfl | hp
      · exact N2 _ (.head _)
      · rcases List.mem_append.mp hp with hp | hp
        · exact N2 _ (.tail _ hp)
        · rw [List.mem_singleton.mp hp]; exact ⟨hoI2, Ne.symm hIL, hIg⟩
    refine never _ (wpAny_mono (turn i v' m' oc2 [(H0.objs.size, oI)] h₂ _ hv' hj (fun p hp => by rw [List.mem_singleton.mp hp]; exact Ne.symm hIc) F2 N3 hd2) (fun f s₃ h₃ => ?_) fun _ _ e => e)
    have fin : (∃ h' tk m' oc' v', s₃ = { s with heap := h', toks := tk } ∧ Fr g env.locals h' m' ∧ News g env.locals h' ((c, oc') :: (rest ++ [(H0.objs.size, oI)])) ∧ oc'.data = .cell v' ∧ J (i + 1) m') →
        ∃ m, m < vs.length + 1 - i ∧ ∃ h' tk m' oc v i, s₃ = { s with heap := h', toks := tk } ∧ (h'.IsListIter H0.objs.size D i ∧ h'.IsList D vs.toArray) ∧ Fr g env.locals h' m' ∧ News g env.locals h' ((c, oc) :: rest) ∧ oc.data = .cell v ∧ J i m' ∧ i ≤ vs.length ∧ m = vs.length + 1 - i := by
      rintro ⟨h', tk, m', oc', v', rfl, F', N', hd', hj'⟩
      refine ⟨vs.length + 1 - (i + 1), by omega, h', tk, m', oc', v', i + 1, rfl, ⟨⟨oI, (N' (H0.objs.size, oI) (by simp)).1, hI1, hI2⟩, ⟨oD, (N' (D, oD) (by simp [hD])).1, hDo.1, hDo.2⟩⟩, F', fun p hp => N' p ?_, hd', hj', hlt, rfl⟩
      rcases List.mem_cons.mp hp with rfl | hp
      · exact .head _
      · exact .tail _ (List.mem_append_left _ hp)
    cases f with
    | ret v => exact h₃
    | brk => exact h₃
    | next => exact fin h₃
    | cont => exact fin h₃
  · obtain rfl : i = vs.length := by omega
    refine W.done _ _ _ hst fun h₁ tk₁ hk₁ => wpAny_execs_nil ?_
    refine done m' oc v h₁ tk₁ hj ⟨F.ns.at' fun o e => hk₁ _ o (by simpa using hIL) e, fun b o e => hk₁ b o (by simp; rintro rfl; rw [hIg] at e; cases e) (F.keep b o e), F.above⟩ (fun p hp => ?_) hd
    refine ⟨hk₁ _ _ ?_ (N p hp).1, (N p hp).2⟩
    rcases List.mem_cons.mp hp with rfl | hp
    · simpa using hIc
    · simpa using hIr p hp
end
end Mine
end

-- part Ca
section
open PySem PySem.W PySem.Calls PyProof.Rows
set_option Elab.async false
set_option maxRecDepth 100000
set_option maxHeartbeats 8000000
namespace Mine
section
variable {prog : Program} {w : World} {A : Around} {E : Value → Shared → Prop} {s : Shared} {env : Env} {h₀ : Heap} {m : Str → Option Value} {news : List (Addr × Obj)}
  {scope : Scope} {cl : List (Str × Addr)} {x y : Str} {ifs : List Expr} {elt : Expr} {p : Value → Bool} {F : Value → Value → Prop} {Q : Flow → Shared → Prop}
/-- a block over a range that a name is given to -/
theorem lcRA {r : Addr} {a₀ b₀ : Int} {t₀ u₀ v₀ : Tok} {n : Nat} {L : Addr} (hL : env.locals = L) (hh : A.handled = none) (hr : IsRange s.heap r a₀ b₀ 1 t₀ u₀ v₀) (hsmall : Builtin.Range.small a₀ b₀ 1 = true) (hn : Builtin.Range.rangeSize a₀ b₀ 1 = (n : Int)) (hsz : n ≤ sizeLine)
    (F0 : Fr h₀ L s.heap m) (N0 : News h₀ L s.heap news) (ht : LcTurns prog w A env scope cl x ifs elt p F (fun i v => ∃ t, v = .int (a₀ + (i : Int)) t) n s)
    (done : ∀ D h' tk k ys (vs : List Value), Fr h₀ L h' (fun z => if z = y then some (.ref D) else m z) → News h₀ L h' ((D, listOf ys k) :: news) → (∀ q ∈ news, q.1 ≠ D) → vs.length = n → (∀ (j : Nat) (v : Value), vs[j]? = some v → ∃ t, v = .int (a₀ + (j : Int)) t) → Paired F (vs.filter p) ys.toList → Q .next { s with heap := h', toks := tk }) :
    wpAny (model prog w) A (pyIter (.ref r)) (fun it s₂ => ∃ I fp wr n P St m, it = .ref I ∧ Walks prog w A I fp wr n P St ∧ n ≤ sizeLine ∧ St 0 s₂.heap ∧ (∀ b ∈ fp, b < s₂.heap.objs.size) ∧
      L ∉ wr ∧ s₂.heap.Ns L m ∧ QuietOnC prog w A env scope cl x ifs elt wr P p F s₂ ∧
      (∀ D h' tk ys (vs : List Value), s₂.heap.get? D = none → h'.IsList D ys → h'.PlainList D ys → vs.length = n → (∀ (j : Nat) (v : Value), vs[j]? = some v → P j v) → Paired F (vs.filter p) ys.toList →
        h'.Ns L (fun z => if z = y then some (.ref D) else m z) → (∀ b o, b ≠ L → b ∉ wr → s₂.heap.get? b = some o → h'.get? b = some o) → Q .next { s₂ with heap := h', toks := tk })) E s := by
  subst hL
  refine wpAny_pyIter_range hr hsmall ?_
  have W : Walks prog w A s.heap.objs.size [s.heap.objs.size] [s.heap.objs.size] n (fun i v => i < n ∧ ∃ t, v = .int (a₀ + (i : Int)) t)
      (fun i h => IsRangeIter h s.heap.objs.size (a₀ + (i : Nat) * 1) ((n : Int) - (i : Nat)) 1) := by
    have W := (Walks.range (prog := prog) (w := w) hh s.heap.objs.size a₀ 1 n).bound
    simp only [Int.mul_one] at W ⊢
    exact W
  have hsize : ∀ oI, (s.heap.push oI).objs.size = s.heap.objs.size + 1 := fun _ => Heap.size_push _ _
  have old : ∀ b o, s.heap.get? b = some o → b ∉ [s.heap.objs.size] := fun b o e q => by
    rw [List.mem_singleton.mp q] at e
    exact Nat.lt_irrefl _ (Heap.lt_size e)
  have fr : ∀ oI C h m₃, s.heap.objs.size + 1 ≤ C → h.Ns C m₃ → (∀ b o, b ∉ [s.heap.objs.size] → (s.heap.push oI).get? b = some o → h.get? b = some o) → Fr s.heap C h m₃ := fun oI C h m₃ hC hn hk =>
    ⟨hn, fun b o e => hk b o (old b o e) (Heap.get?_push_of_some _ e), Nat.le_of_succ_le hC⟩
  have hL0 : h₀.get? env.locals = none := by
    cases e : h₀.get? env.locals with
    | none => rfl
    | some o => exact absurd (Heap.lt_size e) (Nat.not_lt.mpr F0.above)
  refine ⟨_, _, _, n, _, _, m, rfl, W, hsz, ?_, fun b hb => by rw [List.mem_singleton.mp hb, hsize]; exact Nat.lt_succ_self _, ?_, (F0.push _).ns, ⟨?_, ?_⟩, ?_⟩
  · show IsRangeIter _ _ _ _ _
    rw [hn]; simpa using Heap.get?_push_size _ rfl
  · intro q
    exact Nat.lt_irrefl _ ((List.mem_singleton.mp q) ▸ F0.ns.lt)
  · intro C i v s₃ m₃ E' hC hP hn hm hk _
    exact ht.1 C i v s₃ m₃ E' hP.1 hP.2 (fr _ C _ _ (by rw [hsize] at hC; exact hC) hn hk) hm
  · intro C i v s₃ m₃ E' hC hP hpv hn hm hk _
    exact ht.2 C i v s₃ m₃ E' hP.1 hP.2 hpv (fr _ C _ _ (by rw [hsize] at hC; exact hC) hn hk) hm
  · intro D h' tk ys vs hD _ hpl hlen hP hF hNs hk
    have keep : ∀ b o, b ≠ env.locals → s.heap.get? b = some o → h'.get? b = some o := fun b o hb e => hk b o hb (old b o e) (Heap.get?_push_of_some _ e)
    have hDs : s.heap.get? D = none := by
      cases e : s.heap.get? D with
      | none => rfl
      | some o => rw [Heap.get?_push_of_some _ e] at hD; cases hD
    obtain ⟨k, hDo⟩ := hpl
    have hne : ∀ b o, h₀.get? b = some o → b ≠ env.locals := fun b o e q => by rw [q, hL0] at e; cases e
    refine done D h' tk k ys vs ⟨hNs, fun b o e => keep b o (hne b o e) (F0.keep b o e), F0.above⟩ ?_ ?_ hlen (fun j v e => (hP j v e).2) hF
    · intro q hq
      rcases List.mem_cons.mp hq with rfl | hq
      · refine ⟨hDo, ?_, ?_⟩
        · rintro rfl
          obtain ⟨o, _, _, ho, _⟩ := F0.ns
          rw [hDs] at ho; cases ho
        · cases e : h₀.get? D with
          | none => rfl
          | some o => rw [F0.keep _ _ e] at hDs; cases hDs
      · exact ⟨keep _ _ (N0 q hq).2.1 (N0 q hq).1, (N0 q hq).2⟩
    · rintro q hq rfl
      have := (N0 q hq).1
      rw [hDs] at this; cases this
end
end Mine
end

-- part L14
section
open PySem PySem.W PySem.Calls PyProof.Rows
set_option Elab.async false
set_option maxRecDepth 100000
set_option maxHeartbeats 8000000
set_option pp.maxSteps 300
set_option pp.deepTerms false
namespace Mine
theorem warmL14 : (∀ P, _root_.hd.heap_39 P = _root_.hd.heap_39 P) ∧ PySem.Challenge.rw_dj5002_01 = PySem.Challenge.rw_dj5002_01 := by
  k_fill
  exact ⟨fun _ => rfl, rfl⟩
local macro_rules | `(tactic| walk_at "look") => `(tactic| first | with_reducible assumption | exact upd_eq | (refine upd_ne (by decide) ?_; walk_at "look") | exact if_pos rfl | (refine Eq.trans (if_neg (by decide)) ?_; walk_at "look"))
local macro_rules | `(tactic| walk_at "eval Name") => `(tactic| (k_here; k_dflt (first
  | (refine' nmL ?F ?e ?a ?b ?d ?v ?_; (case F => k_asm); (case e => rfl); (case a => rfl); (case b => rfl); (case d => decide); (case v => walk_at "look"); k_whole)
  | (refine' nmC ?F ?a ?b ?c ?o ?d ?e ?_; (case F => k_asm); (case a => rfl); (case b => rfl); (case c => rfl); (case o => exact News.get (by k_asm) (by k_mem)); (case d => k_asm); (case e => decide); k_whole)
  | (refine' nmB ?F ?X ?T ?g ?bb ?a ?b ?d ?e ?v ?n ?_; (case F => k_asm); (case X => k_asm); (case T => k_asm); (case g => rfl); (case bb => rfl); (case a => rfl); (case b => rfl); (case d => decide); (case e => k_is); (case v => boot_fast); (case n => decide); k_whole)
  | (refine' nmK ?F ?X ?T ?g ?a ?b ?d ?e ?_; (case F => k_asm); (case X => k_asm); (case T => k_asm); (case g => rfl); (case a => rfl); (case b => rfl); (case d => decide); (case e => k_is); k_whole))))
local macro_rules | `(tactic| walk_at "loadName") => `(tactic| (k_here; k_dflt (refine' ldn ?F ?v ?_ ?a ?b; (case F => k_asm); (case a => rfl); (case b => rfl); (case v => walk_at "look"); k_whole)))
local macro_rules | `(tactic| walk_at "stop") => `(tactic| first
  | (with_reducible show InvPostN _ _ _ _ _ _ _ _ _)
  | (with_reducible show InvEndN _ _ _ _ _ _ _)
  | (with_reducible show wpAny _ _ (eval (Expr.ListComp _ _ _ _) _) _ _ _)
  | (with_reducible show wpAny _ _ (pyIter _) _ _ _)
  | (with_reducible show wpAny _ _ (exec (Stmt.For _ _ _ _ _) _) _ _ _)
  | (with_reducible show wpAny _ _ (exec (Stmt.While _ _ _ _) _) _ _ _)
  | (with_reducible show wpAny _ _ (call (Value.ref _) _ _) _ _ _)
  | (with_reducible show wpAny _ _ (call (Value.builtin "sorted") _ _) _ _ _)
  | (with_reducible show wpAny _ _ (call (Value.builtin "str.join") _ _) _ _ _)
  | (with_reducible show wpAny _ _ (subscriptTail _ _ (Value.str _ _) (Value.int _ _)) _ _ _)
  | (with_reducible show wpAny _ _ (compareOp CmpOp.NotIn _ (Value.ref _)) _ _ _))
local macro_rules | `(tactic| walk_at "steps") => `(tactic| repeat (first | (k_unfold; (try dsimp only)) | ((fail_if_success walk_at "stop"); walk1) | ((fail_if_success walk_at "stop"); dsimp only; (fail_if_success walk_at "stop"); walk1)))
local macro_rules | `(tactic| walk_at "rest") => `(tactic| (with_reducible show wpAny _ _ (execs _ _) _ _ _))
local macro_rules | `(tactic| walk_at "stmt") => `(tactic| repeat ((fail_if_success walk_at "rest"); first | (k_unfold; (try dsimp only)) | ((fail_if_success walk_at "stop"); walk1) | ((fail_if_success walk_at "stop"); dsimp only; (fail_if_success walk_at "stop"); walk1)))
local macro_rules | `(tactic| walk_at "one") => `(tactic| first | (k_unfold; (try dsimp only)) | ((fail_if_success walk_at "stop"); walk1) | ((fail_if_success walk_at "stop"); dsimp only; (fail_if_success walk_at "stop"); walk1))
local macro_rules | `(tactic| walk_at "loadName") => `(tactic| (k_here; k_dflt (refine' ldA ?F ?e ?a ?b ?v ?_; (case F => k_asm); (case e => rfl); (case a => rfl); (case b => rfl); (case v => walk_at "look"); k_whole)))
local macro_rules | `(tactic| k_all) => `(tactic| first | exact List.forall_mem_nil _ | with_reducible assumption | (refine' List.forall_mem_cons.mpr ⟨?a, ?b⟩; (case a => k_ne); (case b => k_all)))
local macro_rules | `(tactic| walk_at "stop") => `(tactic| first | (with_reducible show InvPostG _ _ _ _ _ _ _ _) | (with_reducible show wpAny _ _ (setItem _ _ _) _ _ _) | (with_reducible show wpAny _ _ (subscriptTail _ _ (Value.ref _) (Value.str _ _)) _ _ _) | (with_reducible show wpAny _ _ (call (Value.builtin "list.append") _ _) _ _ _) | (with_reducible show wpAny _ _ (call (Value.builtin "len") [Value.ref _]) _ _ _) | (with_reducible show wpAny _ _ (getMethod (Value.ref _) _ _) _ _ _))
local macro_rules | `(tactic| walk_at "stop") => `(tactic| first | (with_reducible show InvPostC _ _ _ _ _ _ _ _ _) | (with_reducible show wpAny _ _ (exec (Stmt.Assign _ (Expr.ListComp _ _ _ _) _) _) _ _ _) | (with_reducible show wpAny _ _ (compareOp CmpOp.NotEq (Value.ref _) (Value.ref _)) _ _ _))
def forBody : List Stmt := match lawBody.drop 24 with
  | .For _ _ b _ _ :: _ => b
  | _ => []
def dueL (wh wd : List Nat) : List Nat := (List.range wh.length).filter fun p => decide ((wh.drop p).take wd.length = wd)
def dueP (wh wd : List Nat) (v : Value) : Bool := match v with
  | .int i _ => decide ((wh.drop i.toNat).take wd.length = wd)
  | _ => false
theorem due_ints {wh wd : List Nat} {vs : List Value} {ys : Array Value} (hlen : vs.length = wh.length) (hP : ∀ (j : Nat) (v : Value), vs[j]? = some v → ∃ t, v = .int (0 + (j : Int)) t) (hF : Paired (fun v y => y = v) (vs.filter (dueP wh wd)) ys.toList) : IntsAre ys.toList ((dueL wh wd).map Int.ofNat) := by
  have e : ys.toList = vs.filter (dueP wh wd) := by
    have : ∀ {a b : List Value}, Paired (fun v y => y = v) a b → b = a := fun {a b} h => by
      induction h with
      | nil => rfl
      | cons h _ ih => rw [h, ih]
    exact this hF
  rw [e]
  have key : ∀ (k n : Nat) (zs : List Value), zs.length = n → (∀ (j : Nat) (v : Value), zs[j]? = some v → ∃ t, v = .int ((k + j : Nat) : Int) t) → IntsAre (zs.filter (dueP wh wd)) (((List.range' k n).filter fun p => decide ((wh.drop p).take wd.length = wd)).map Int.ofNat) := by
    intro k n
    induction n generalizing k with
    | zero => intro zs hl _; rw [List.length_eq_zero_iff.mp hl]; exact .nil
    | succ n ih =>
      intro zs hl h
      cases zs with
      | nil => simp at hl
      | cons z r =>
        obtain ⟨t, rfl⟩ := h 0 z rfl
        have ih' := ih (k + 1) r (by simpa using hl) fun j v hv => by
          obtain ⟨t, rfl⟩ := h (j + 1) v (by simpa using hv)
          exact ⟨t, by rw [show k + 1 + j = k + (j + 1) by omega]⟩
        rw [List.range'_succ, List.filter_cons, List.filter_cons]
        have e0 : dueP wh wd (Value.int ((k + 0 : Nat) : Int) t) = decide ((wh.drop k).take wd.length = wd) := rfl
        rw [e0]
        by_cases q : (wh.drop k).take wd.length = wd
        · rw [decide_eq_true q, if_pos rfl, if_pos rfl]
          exact .cons _ _ ih'
        · rw [decide_eq_false q, if_neg (by simp), if_neg (by simp)]
          exact ih'
  have := key 0 wh.length vs hlen fun j v hv => by
    obtain ⟨t, rfl⟩ := hP j v hv
    exact ⟨t, by rw [show (0 + (j : Int)) = ((0 + j : Nat) : Int) by omega]⟩
  unfold dueL
  rw [List.range_eq_range']
  exact this

local macro_rules | `(tactic| walk_at "subscriptTail Name Slice str ref") => `(tactic| ((with_reducible show wpAny _ _ (subscriptTail _ (Expr.Slice _ _ _ _) (Value.str _ _) (Value.ref _)) _ _ _); (with_reducible rename Fr _ _ _ _ => F'); (with_reducible rename Heap.StaysIn _ _ => K'); (first | refine slice_B_sn (s := ⟨_, _, _, _, _⟩) F' K' ?z ?_ | refine slice_B_ns (s := ⟨_, _, _, _, _⟩) F' K' ?z ?_ | refine slice_B_ss (s := ⟨_, _, _, _, _⟩) F' K' ?z ?_); (case z => (rw [sizeLine_eq, str_len]; omega)); intro _ _ _ _ _))
theorem t0 {w : World} {A : Around} {E : Value → Shared → Prop} {s : Shared} {g : Heap} {p : Program} {loose : List Str} {mg mb : Str → Option Value} {Q : Flow → Shared → Prop} {L fa : Addr} {cd : Value} {m : Str → Option Value} {o1 o2 o3 o4 o5 o6 o7 o8 : Obj} {wh wd : List Nat} {n : Nat} {u2 u4 u8 : Tok} {tl : List (Addr × Obj)} (X : (hd.heap_39 w.params).In g) (T : TopRead p loose mg mb g) (hA : A.handled = none)
    (F : Fr g L s.heap m) (N : News g L s.heap ((L+1+1+1+1+1+1+1+1, o8) :: (L+1+1+1+1+1+1+1, o7) :: (L+1+1+1+1+1+1, o6) :: (L+1+1+1+1+1, o5) :: (L+1+1+1+1, o4) :: (L+1+1+1, o3) :: (L+1+1, o2) :: (L+1, o1) :: tl)) (hn : wh.length = n) (h16 : n ≤ 17) (hwl : wd.length ≤ 17)
    (m4 : m "count" = some (.int (n : Nat) u4)) (d3 : o3.data = .cell (some (.str ⟨wh.toArray⟩ u2))) (d8 : o8.data = .cell (some (.str ⟨wd.toArray⟩ u8)))
    (hK : ∀ h' tk m' Dd k ys, Fr g L h' m' → News g L h' ((L+1+1+1+1+1+1+1+1, o8) :: (L+1+1+1+1+1+1+1, o7) :: (L+1+1+1+1+1+1, o6) :: (L+1+1+1+1+1, o5) :: (L+1+1+1+1, o4) :: (L+1+1+1, o3) :: (L+1+1, o2) :: (L+1, o1) :: (Dd, listOf ys k) :: tl) → (∀ y : Str, y ≠ Str.ofString "due" → m' y = m y) → m' "due" = some (.ref Dd) → IntsAre ys.toList ((dueL wh wd).map Int.ofNat) →
      wpAny (model PG w) A (execs (forBody.drop 1) (lawEnv L fa cd)) Q E { s with heap := h', toks := tk }) :
    wpAny (model PG w) A (execs (forBody.drop 0) (lawEnv L fa cd)) Q E s := by
  have e1 : forBody.drop 0 = _ :: _ := rfl
  have e2 : lawScope = Scope.mk _ _ _ _ _ := rfl
  unfold lawEnv
  rw [e1, e2]
  clear e1 e2
  refine wpAny_execs_cons ?_
  k_unmd
  k_fold
  refine wpAny_Assign_ListComp_free (dueP wh wd) (fun v y => y = v) (by with_unfolding_all rfl) (by with_unfolding_all rfl) (by decide) rfl (by decide) rfl rfl rfl ?_
  walk_at "stmt"
  (with_reducible rename IsRange _ _ _ _ _ _ _ _ => hRg)
  (with_reducible rename News _ _ _ _ => N4)
  (with_reducible rename Fr _ _ _ _ => F4)
  have X4 := X.keeps F4.keep
  have T4 := T.keeps F4.keep
  refine' lcRA (n := n) rfl hA hRg ?k1 (rangeSize_upNat _) ?k2 F4 N4 ⟨?kT, ?kE⟩ ?kD
  case k1 => exact small_one (by omega) (by omega) (by omega) (by omega)
  case k2 => rw [sizeLine_eq]; omega
  case kT =>
    intro C i v s₃ m₃ E' hi hP F5 hm
    obtain ⟨t, rfl⟩ := hP
    have hi0 : (0 + (i : Int)) = ((i : Nat) : Int) := by omega
    rw [hi0] at hm ⊢
    dsimp only at F5
    have K5 : s₃.heap.StaysIn s₃.heap := fun _ _ e => e
    refine wpAny_tests_one ?_
    walk_at "steps"
    refine PySem.P.len_str (by rw [str_len]; omega) ?_
    rw [str_len]
    walk_at "steps"
    · rw [show (i : Int) + (wd.length : Int) = ((i + wd.length : Nat) : Int) by omega, slice_ft wh i (i + wd.length) (by omega) (by omega), Nat.add_sub_cancel_left]
      show _ = decide ((wh.drop ((i : Nat) : Int).toNat).take wd.length = wd)
      rw [Int.toNat_natCast, Bool.eq_iff_iff, beq_iff_eq, decide_eq_true_iff]
      constructor
      · intro e
        simpa using congrArg (fun x : Str => x.cps.toList) e
      · intro e
        rw [e]
    · (with_reducible rename Heap.StaysIn _ _ => K6)
      exact Keeps.intro' K6
  case kE =>
    intro C i v s₃ m₃ E' hi hP hp F5 hm
    dsimp only at F5
    walk_at "steps"
    exact Keeps.intro' fun _ _ e => e
  case kD =>
    intro D h9 tk9 k9 ys9 vs9 F9 N9 hD9 hlen9 hP9 hF9
    k_unfold
    dsimp only
    have hS9 := due_ints (wh := wh) (wd := wd) (by omega) hP9 hF9
    exact hK _ _ _ D k9 ys9 F9 (fun q hq => N9 q (by
      simp only [List.mem_cons] at hq ⊢
      rcases hq with h | h | h | h | h | h | h | h | h | h <;> simp [h])) (fun y hy => if_neg hy) (if_pos rfl) hS9
end Mine
end

-- part L15
section
open PySem PySem.W PySem.Calls PyProof.Rows
set_option Elab.async false
set_option maxRecDepth 100000
set_option maxHeartbeats 8000000
set_option pp.maxSteps 300
set_option pp.deepTerms false
namespace Mine
theorem warmL15 : (∀ P, _root_.hd.heap_39 P = _root_.hd.heap_39 P) ∧ PySem.Challenge.rw_dj5002_01 = PySem.Challenge.rw_dj5002_01 := by
  k_fill
  exact ⟨fun _ => rfl, rfl⟩
local macro_rules | `(tactic| walk_at "look") => `(tactic| first | with_reducible assumption | exact upd_eq | (refine upd_ne (by decide) ?_; walk_at "look") | exact if_pos rfl | (refine Eq.trans (if_neg (by decide)) ?_; walk_at "look"))
local macro_rules | `(tactic| walk_at "eval Name") => `(tactic| (k_here; k_dflt (first
  | (refine' nmL ?F ?e ?a ?b ?d ?v ?_; (case F => k_asm); (case e => rfl); (case a => rfl); (case b => rfl); (case d => decide); (case v => walk_at "look"); k_whole)
  | (refine' nmC ?F ?a ?b ?c ?o ?d ?e ?_; (case F => k_asm); (case a => rfl); (case b => rfl); (case c => rfl); (case o => exact News.get (by k_asm) (by k_mem)); (case d => k_asm); (case e => decide); k_whole)
  | (refine' nmB ?F ?X ?T ?g ?bb ?a ?b ?d ?e ?v ?n ?_; (case F => k_asm); (case X => k_asm); (case T => k_asm); (case g => rfl); (case bb => rfl); (case a => rfl); (case b => rfl); (case d => decide); (case e => k_is); (case v => boot_fast); (case n => decide); k_whole)
  | (refine' nmK ?F ?X ?T ?g ?a ?b ?d ?e ?_; (case F => k_asm); (case X => k_asm); (case T => k_asm); (case g => rfl); (case a => rfl); (case b => rfl); (case d => decide); (case e => k_is); k_whole))))
local macro_rules | `(tactic| walk_at "loadName") => `(tactic| (k_here; k_dflt (refine' ldn ?F ?v ?_ ?a ?b; (case F => k_asm); (case a => rfl); (case b => rfl); (case v => walk_at "look"); k_whole)))
local macro_rules | `(tactic| walk_at "stop") => `(tactic| first
  | (with_reducible show InvPostN _ _ _ _ _ _ _ _ _)
  | (with_reducible show InvEndN _ _ _ _ _ _ _)
  | (with_reducible show wpAny _ _ (eval (Expr.ListComp _ _ _ _) _) _ _ _)
  | (with_reducible show wpAny _ _ (pyIter _) _ _ _)
  | (with_reducible show wpAny _ _ (exec (Stmt.For _ _ _ _ _) _) _ _ _)
  | (with_reducible show wpAny _ _ (exec (Stmt.While _ _ _ _) _) _ _ _)
  | (with_reducible show wpAny _ _ (call (Value.ref _) _ _) _ _ _)
  | (with_reducible show wpAny _ _ (call (Value.builtin "sorted") _ _) _ _ _)
  | (with_reducible show wpAny _ _ (call (Value.builtin "str.join") _ _) _ _ _)
  | (with_reducible show wpAny _ _ (subscriptTail _ _ (Value.str _ _) (Value.int _ _)) _ _ _)
  | (with_reducible show wpAny _ _ (compareOp CmpOp.NotIn _ (Value.ref _)) _ _ _))
local macro_rules | `(tactic| walk_at "steps") => `(tactic| repeat (first | (k_unfold; (try dsimp only)) | ((fail_if_success walk_at "stop"); walk1) | ((fail_if_success walk_at "stop"); dsimp only; (fail_if_success walk_at "stop"); walk1)))
local macro_rules | `(tactic| walk_at "rest") => `(tactic| (with_reducible show wpAny _ _ (execs _ _) _ _ _))
local macro_rules | `(tactic| walk_at "stmt") => `(tactic| repeat ((fail_if_success walk_at "rest"); first | (k_unfold; (try dsimp only)) | ((fail_if_success walk_at "stop"); walk1) | ((fail_if_success walk_at "stop"); dsimp only; (fail_if_success walk_at "stop"); walk1)))
local macro_rules | `(tactic| walk_at "one") => `(tactic| first | (k_unfold; (try dsimp only)) | ((fail_if_success walk_at "stop"); walk1) | ((fail_if_success walk_at "stop"); dsimp only; (fail_if_success walk_at "stop"); walk1))
local macro_rules | `(tactic| walk_at "loadName") => `(tactic| (k_here; k_dflt (refine' ldA ?F ?e ?a ?b ?v ?_; (case F => k_asm); (case e => rfl); (case a => rfl); (case b => rfl); (case v => walk_at "look"); k_whole)))
local macro_rules | `(tactic| k_all) => `(tactic| first | exact List.forall_mem_nil _ | with_reducible assumption | (refine' List.forall_mem_cons.mpr ⟨?a, ?b⟩; (case a => k_ne); (case b => k_all)))
local macro_rules | `(tactic| walk_at "stop") => `(tactic| first | (with_reducible show InvPostG _ _ _ _ _ _ _ _) | (with_reducible show wpAny _ _ (setItem _ _ _) _ _ _) | (with_reducible show wpAny _ _ (subscriptTail _ _ (Value.ref _) (Value.str _ _)) _ _ _) | (with_reducible show wpAny _ _ (call (Value.builtin "list.append") _ _) _ _ _) | (with_reducible show wpAny _ _ (call (Value.builtin "len") [Value.ref _]) _ _ _) | (with_reducible show wpAny _ _ (getMethod (Value.ref _) _ _) _ _ _))
theorem t1 {w : World} {A : Around} {E : Value → Shared → Prop} {s : Shared} {g : Heap} {p : Program} {loose : List Str} {mg mb : Str → Option Value} {Q : Flow → Shared → Prop} {L fa : Addr} {cd : Value} {m : Str → Option Value} {o1 o2 o3 o4 o5 o6 o7 o8 : Obj} {last sa wh wd : List Nat} {n : Nat} {u4 u8 : Tok} {P Ls K : Addr} {tl tf : List (Addr × Obj)} (X : (hd.heap_39 w.params).In g) (T : TopRead p loose mg mb g) (hA : A.handled = none) (hdep : A.depth + 2 < recursionLimit)
    (F : Fr g L s.heap m) (N : News g L s.heap ((L+1+1+1+1+1+1+1+1, o8) :: (L+1+1+1+1+1+1+1, o7) :: (L+1+1+1+1+1+1, o6) :: (L+1+1+1+1+1, o5) :: (L+1+1+1+1, o4) :: (L+1+1+1, o3) :: (L+1+1, o2) :: (L+1, o1) :: tl)) (hn : last.length = n) (h16 : n ≤ 17) (hwl : wd.length ≤ 17)
    (Y : ∀ h : Heap, (∀ p ∈ tf, h.get? p.1 = some p.2) → FM w h P Ls K last sa) (htf : ∀ p ∈ tf, p ∈ tl)
    (m4 : m "count" = some (.int (n : Nat) u4)) (d8 : o8.data = .cell (some (.str ⟨wd.toArray⟩ u8))) (d6 : o6.data = .cell (some (.ref P))) (d7 : o7.data = .cell (some (.ref Ls)))
    (hK : ∀ h' tk m' ua ub, Fr g L h' m' → News g L h' ((L+1+1+1+1+1+1+1+1, o8) :: (L+1+1+1+1+1+1+1, o7) :: (L+1+1+1+1+1+1, o6) :: (L+1+1+1+1+1, o5) :: (L+1+1+1+1, o4) :: (L+1+1+1, o3) :: (L+1+1, o2) :: (L+1, o1) :: tl) → (∀ y : Str, y ≠ Str.ofString "lo" → y ≠ Str.ofString "hi" → m' y = m y) →
      m' "lo" = some (.int (if ∀ c ∈ wd, c ∈ last then srch last n wd else (0, 0)).1 ua) → m' "hi" = some (.int (if ∀ c ∈ wd, c ∈ last then srch last n wd else (0, 0)).2 ub) →
      wpAny (model PG w) A (execs (forBody.drop 2) (lawEnv L fa cd)) Q E { s with heap := h', toks := tk }) :
    wpAny (model PG w) A (execs (forBody.drop 1) (lawEnv L fa cd)) Q E s := by
  have e1 : forBody.drop 1 = _ :: _ := rfl
  have e2 : lawScope = Scope.mk _ _ _ _ _ := rfl
  unfold lawEnv
  rw [e1, e2]
  clear e1 e2
  refine wpAny_execs_cons ?_
  walk_at "stmt"
  (with_reducible rename Fr _ _ _ _ => F7)
  (with_reducible rename News _ _ _ _ => N7)
  refine wpAny_call (srch_call (X.keeps F7.keep) (T.keeps F7.keep) hA hdep (Y _ fun p hp => (N7 p (by simp [htf p hp])).1) (by omega) (by omega) fun h₄ tk₄ v₄ a b u₁ u₂ k₄ ht₄ hab => ?_)
  have F8 := Fr.kept F7 k₄
  have N8 := News.grown N7 k₄
  clear F7 N7
  dsimp only
  refine wpAny_assign_Tuple hA ht₄ rfl rfl fun h₅ he₅ => ?_
  have k₅ : h₄.StaysIn h₅ := fun b o e => he₅ b o (Nat.ne_of_lt (Heap.lt_size e)) e
  have F9 := Fr.kept F8 k₅
  have N9 := News.grown N8 k₅
  clear F8 N8
  rw [← hab] at hK
  show wpAny _ _ (assignInOrder [_, _] [_, _]) _ _ _
  walk_at "stmt"
  exact hK _ _ _ _ _ (by k_asm) (by k_asm) (fun y h1 h2 => (if_neg h2).trans (if_neg h1)) (by walk_at "look") (by walk_at "look")

theorem told_ints {sa : List Nat} {lo n : Nat} {vs : List Value} {ys : Array Value} (hlen : vs.length = n) (hsz : lo + n ≤ sa.length) (hP : ∀ (j : Nat) (v : Value), vs[j]? = some v → ∃ t, v = .int ((lo : Int) + (j : Int)) t)
    (hF : Paired (fun v y => ∀ (r q : Nat) t, v = .int (r : Int) t → sa[r]? = some q → ∃ u, y = .int (q : Int) u) (vs.filter fun _ => true) ys.toList) : IntsAre ys.toList (((sa.drop lo).take n).map Int.ofNat) := by
  rw [List.filter_eq_self.mpr (fun _ _ => rfl)] at hF
  have hl := paired_len hF
  have key : ∀ (zs : List Value) (ns : List Int), zs.length = ns.length → (∀ (i : Nat) (c : Int), ns[i]? = some c → ∃ u, zs[i]? = some (.int c u)) → IntsAre zs ns := by
    intro zs
    induction zs with
    | nil => intro l hl h; cases l with
      | nil => exact .nil
      | cons _ _ => simp at hl
    | cons z zs ih => intro l hl h; cases l with
      | nil => simp at hl
      | cons q l =>
        obtain ⟨u, hu⟩ := h 0 q rfl
        obtain rfl : z = _ := Option.some.inj hu
        exact .cons _ _ (ih l (by simpa using hl) fun i c hc => by simpa using h (i + 1) c (by simpa using hc))
  refine key _ _ (by rw [← hl, hlen]; simp; omega) fun i c hc => ?_
  rw [List.getElem?_map] at hc
  obtain ⟨q, hq, rfl⟩ := Option.map_eq_some_iff.mp hc
  have hin : i < n := by
    have := (List.getElem?_eq_some_iff.mp hq).1
    rw [List.length_take] at this; omega
  rw [List.getElem?_take, if_pos hin, List.getElem?_drop] at hq
  obtain ⟨v, hv⟩ : ∃ v, vs[i]? = some v := ⟨vs[i]'(by omega), by simp⟩
  obtain ⟨t, rfl⟩ := hP i v hv
  obtain ⟨y, hy, hh⟩ := paired_get hF i _ hv
  obtain ⟨u, rfl⟩ := hh (lo + i) q t (by rw [show ((lo + i : Nat) : Int) = (lo : Int) + (i : Int) by omega]) hq
  exact ⟨u, hy⟩

theorem t2 {w : World} {A : Around} {E : Value → Shared → Prop} {s : Shared} {g : Heap} {p : Program} {loose : List Str} {mg mb : Str → Option Value} {Q : Flow → Shared → Prop} {L fa : Addr} {cd : Value} {m : Str → Option Value} {o1 o2 o3 o4 o5 o6 o7 o8 : Obj} {last sa : List Nat} {lo hi : Nat} {ua ub u3 : Tok} {P Ls K : Addr} {tl tf : List (Addr × Obj)} (X : (hd.heap_39 w.params).In g) (T : TopRead p loose mg mb g) (hA : A.handled = none) (hdep : A.depth + 3 < recursionLimit)
    (F : Fr g L s.heap m) (N : News g L s.heap ((L+1+1+1+1+1+1+1+1, o8) :: (L+1+1+1+1+1+1+1, o7) :: (L+1+1+1+1+1+1, o6) :: (L+1+1+1+1+1, o5) :: (L+1+1+1+1, o4) :: (L+1+1+1, o3) :: (L+1+1, o2) :: (L+1, o1) :: tl)) (h16 : last.length ≤ 17) (hlh : lo ≤ hi) (hhi : hi ≤ last.length)
    (Y : ∀ h : Heap, (∀ p ∈ tf, h.get? p.1 = some p.2) → FM w h P Ls K last sa) (htf : ∀ p ∈ tf, p ∈ tl)
    (hsa : sa.length = last.length) (hLF : ∀ r q c : Nat, sa[r]? = some (q + 1) → last[r]? = some c → ∃ r' : Nat, sa[r']? = some q ∧ bef last c (r : Int) = (r' : Int))
    (ma : m "lo" = some (.int (lo : Nat) ua)) (mb : m "hi" = some (.int (hi : Nat) ub))
    (d4 : o4.data = .cell (some (.str ⟨last.toArray⟩ u3))) (d5 : o5.data = .cell (some (.ref K))) (d6 : o6.data = .cell (some (.ref P))) (d7 : o7.data = .cell (some (.ref Ls)))
    (hK : ∀ h' tk m' Dt k ys, Fr g L h' m' → News g L h' ((L+1+1+1+1+1+1+1+1, o8) :: (L+1+1+1+1+1+1+1, o7) :: (L+1+1+1+1+1+1, o6) :: (L+1+1+1+1+1, o5) :: (L+1+1+1+1, o4) :: (L+1+1+1, o3) :: (L+1+1, o2) :: (L+1, o1) :: (Dt, listOf ys k) :: tl) → (∀ y : Str, y ≠ Str.ofString "told" → m' y = m y) → m' "told" = some (.ref Dt) → IntsAre ys.toList (((sa.drop lo).take (hi - lo)).map Int.ofNat) →
      wpAny (model PG w) A (execs (forBody.drop 3) (lawEnv L fa cd)) Q E { s with heap := h', toks := tk }) :
    wpAny (model PG w) A (execs (forBody.drop 2) (lawEnv L fa cd)) Q E s := by
  have e1 : forBody.drop 2 = _ :: _ := rfl
  have e2 : lawScope = Scope.mk _ _ _ _ _ := rfl
  unfold lawEnv
  rw [e1, e2]
  clear e1 e2
  refine wpAny_execs_cons ?_
  k_unmd
  k_fold
  refine wpAny_Assign_ListComp_free (fun _ => true) (fun v y => ∀ (r q : Nat) t, v = .int (r : Int) t → sa[r]? = some q → ∃ u, y = .int (q : Int) u) (by with_unfolding_all rfl) (by with_unfolding_all rfl) (by decide) rfl (by decide) rfl rfl rfl ?_
  walk_at "stmt"
  (with_reducible rename IsRange _ _ _ _ _ _ _ _ => hRg)
  (with_reducible rename News _ _ _ _ => N4)
  (with_reducible rename Fr _ _ _ _ => F4)
  have X4 := X.keeps F4.keep
  have T4 := T.keeps F4.keep
  have hrs : Builtin.Range.rangeSize (lo : Int) (hi : Int) 1 = ((hi - lo : Nat) : Int) := by rw [rangeSize_one]; split <;> omega
  refine' lcRA (n := hi - lo) rfl hA hRg ?k1 hrs ?k2 F4 N4 ?kT ?kD
  case k1 => exact small_one (by omega) (by omega) (by omega) (by omega)
  case k2 => rw [sizeLine_eq]; omega
  case kT =>
    refine lc_plain fun C i v s₃ m₃ E' hi hP F5 hm => ?_
    obtain ⟨t, rfl⟩ := hP
    have hi0 : ((lo : Int) + (i : Int)) = ((lo + i : Nat) : Int) := by omega
    rw [hi0] at hm ⊢
    dsimp only at F5
    walk_at "steps"
    have hqx : lo + i < sa.length := by omega
    obtain ⟨q, hq⟩ : ∃ q, sa[lo + i]? = some q := ⟨sa[lo + i], by simp⟩
    refine wpAny_call (where_call (X4.keeps F5.keep) (T4.keeps F5.keep) hA (by omega) (Y _ fun p hp => F5.keep _ _ (N4 p (by simp [htf p hp])).1) (by omega) hsa hq hLF fun h₄ tk₄ u₄ k₄ => ?_)
    refine ⟨fun r' q' t' e hq' => ?_, Keeps.intro' k₄⟩
    have : r' = lo + i := by injection e with e _; omega
    subst this
    rw [hq] at hq'; cases hq'
    exact ⟨u₄, rfl⟩
  case kD =>
    intro D h9 tk9 k9 ys9 vs9 F9 N9 hD9 hlen9 hP9 hF9
    k_unfold
    dsimp only
    have hS9 := told_ints (sa := sa) hlen9 (by omega) hP9 hF9
    exact hK _ _ _ D k9 ys9 F9 (fun q hq => N9 q (by
      simp only [List.mem_cons] at hq ⊢
      rcases hq with h | h | h | h | h | h | h | h | h | h <;> simp [h])) (fun y hy => if_neg hy) (if_pos rfl) hS9
end Mine
end

-- part L16
section
open PySem PySem.W PySem.Calls PyProof.Rows
set_option Elab.async false
set_option maxRecDepth 100000
set_option maxHeartbeats 8000000
set_option pp.maxSteps 300
set_option pp.deepTerms false
namespace Mine
theorem warmL16 : (∀ P, _root_.hd.heap_39 P = _root_.hd.heap_39 P) ∧ PySem.Challenge.rw_dj5002_01 = PySem.Challenge.rw_dj5002_01 := by
  k_fill
  exact ⟨fun _ => rfl, rfl⟩
local macro_rules | `(tactic| walk_at "look") => `(tactic| first | with_reducible assumption | exact upd_eq | (refine upd_ne (by decide) ?_; walk_at "look") | exact if_pos rfl | (refine Eq.trans (if_neg (by decide)) ?_; walk_at "look"))
local macro_rules | `(tactic| walk_at "eval Name") => `(tactic| (k_here; k_dflt (first
  | (refine' nmL ?F ?e ?a ?b ?d ?v ?_; (case F => k_asm); (case e => rfl); (case a => rfl); (case b => rfl); (case d => decide); (case v => walk_at "look"); k_whole)
  | (refine' nmC ?F ?a ?b ?c ?o ?d ?e ?_; (case F => k_asm); (case a => rfl); (case b => rfl); (case c => rfl); (case o => exact News.get (by k_asm) (by k_mem)); (case d => k_asm); (case e => decide); k_whole)
  | (refine' nmB ?F ?X ?T ?g ?bb ?a ?b ?d ?e ?v ?n ?_; (case F => k_asm); (case X => k_asm); (case T => k_asm); (case g => rfl); (case bb => rfl); (case a => rfl); (case b => rfl); (case d => decide); (case e => k_is); (case v => boot_fast); (case n => decide); k_whole)
  | (refine' nmK ?F ?X ?T ?g ?a ?b ?d ?e ?_; (case F => k_asm); (case X => k_asm); (case T => k_asm); (case g => rfl); (case a => rfl); (case b => rfl); (case d => decide); (case e => k_is); k_whole))))
local macro_rules | `(tactic| walk_at "loadName") => `(tactic| (k_here; k_dflt (refine' ldn ?F ?v ?_ ?a ?b; (case F => k_asm); (case a => rfl); (case b => rfl); (case v => walk_at "look"); k_whole)))
local macro_rules | `(tactic| walk_at "stop") => `(tactic| first
  | (with_reducible show InvPostN _ _ _ _ _ _ _ _ _)
  | (with_reducible show InvEndN _ _ _ _ _ _ _)
  | (with_reducible show wpAny _ _ (eval (Expr.ListComp _ _ _ _) _) _ _ _)
  | (with_reducible show wpAny _ _ (pyIter _) _ _ _)
  | (with_reducible show wpAny _ _ (exec (Stmt.For _ _ _ _ _) _) _ _ _)
  | (with_reducible show wpAny _ _ (exec (Stmt.While _ _ _ _) _) _ _ _)
  | (with_reducible show wpAny _ _ (call (Value.ref _) _ _) _ _ _)
  | (with_reducible show wpAny _ _ (call (Value.builtin "sorted") _ _) _ _ _)
  | (with_reducible show wpAny _ _ (call (Value.builtin "str.join") _ _) _ _ _)
  | (with_reducible show wpAny _ _ (subscriptTail _ _ (Value.str _ _) (Value.int _ _)) _ _ _)
  | (with_reducible show wpAny _ _ (compareOp CmpOp.NotIn _ (Value.ref _)) _ _ _))
local macro_rules | `(tactic| walk_at "steps") => `(tactic| repeat (first | (k_unfold; (try dsimp only)) | ((fail_if_success walk_at "stop"); walk1) | ((fail_if_success walk_at "stop"); dsimp only; (fail_if_success walk_at "stop"); walk1)))
local macro_rules | `(tactic| walk_at "rest") => `(tactic| (with_reducible show wpAny _ _ (execs _ _) _ _ _))
local macro_rules | `(tactic| walk_at "stmt") => `(tactic| repeat ((fail_if_success walk_at "rest"); first | (k_unfold; (try dsimp only)) | ((fail_if_success walk_at "stop"); walk1) | ((fail_if_success walk_at "stop"); dsimp only; (fail_if_success walk_at "stop"); walk1)))
local macro_rules | `(tactic| walk_at "one") => `(tactic| first | (k_unfold; (try dsimp only)) | ((fail_if_success walk_at "stop"); walk1) | ((fail_if_success walk_at "stop"); dsimp only; (fail_if_success walk_at "stop"); walk1))
local macro_rules | `(tactic| walk_at "loadName") => `(tactic| (k_here; k_dflt (refine' ldA ?F ?e ?a ?b ?v ?_; (case F => k_asm); (case e => rfl); (case a => rfl); (case b => rfl); (case v => walk_at "look"); k_whole)))
local macro_rules | `(tactic| k_all) => `(tactic| first | exact List.forall_mem_nil _ | with_reducible assumption | (refine' List.forall_mem_cons.mpr ⟨?a, ?b⟩; (case a => k_ne); (case b => k_all)))
local macro_rules | `(tactic| walk_at "stop") => `(tactic| first | (with_reducible show InvPostG _ _ _ _ _ _ _ _) | (with_reducible show wpAny _ _ (setItem _ _ _) _ _ _) | (with_reducible show wpAny _ _ (subscriptTail _ _ (Value.ref _) (Value.str _ _)) _ _ _) | (with_reducible show wpAny _ _ (call (Value.builtin "list.append") _ _) _ _ _) | (with_reducible show wpAny _ _ (call (Value.builtin "len") [Value.ref _]) _ _ _) | (with_reducible show wpAny _ _ (getMethod (Value.ref _) _ _) _ _ _))
local macro_rules | `(tactic| walk_at "stop") => `(tactic| first | (with_reducible show InvPostC _ _ _ _ _ _ _ _ _) | (with_reducible show wpAny _ _ (compareOp CmpOp.NotEq (Value.ref _) (Value.ref _)) _ _ _))
theorem t3 {w : World} {A : Around} {E : Value → Shared → Prop} {s : Shared} {g : Heap} {p : Program} {loose : List Str} {mg mb : Str → Option Value} {Q : Flow → Shared → Prop} {L fa : Addr} {cd : Value} {m : Str → Option Value} {o1 o2 o3 o4 o5 o6 o7 o8 : Obj} {wh wd qs : List Nat} {Dd Dt : Addr} {kd kt : Nat} {yd yt : Array Value} {k : Int} {uk : Tok} {tl : List (Addr × Obj)} (X : (hd.heap_39 w.params).In g) (T : TopRead p loose mg mb g) (hA : A.handled = none) (hu : A.units + 64 < cLine)
    (F : Fr g L s.heap m) (N : News g L s.heap ((L+1+1+1+1+1+1+1+1, o8) :: (L+1+1+1+1+1+1+1, o7) :: (L+1+1+1+1+1+1, o6) :: (L+1+1+1+1+1, o5) :: (L+1+1+1+1, o4) :: (L+1+1+1, o3) :: (L+1+1, o2) :: (L+1, o1) :: (Dt, listOf yt kt) :: (Dd, listOf yd kd) :: tl)) (h16 : wh.length ≤ 17)
    (hId : IntsAre yd.toList ((dueL wh wd).map Int.ofNat)) (hIt : IntsAre yt.toList (qs.map Int.ofNat)) (hp : qs.Perm (dueL wh wd))
    (m1 : m "due" = some (.ref Dd)) (m2 : m "told" = some (.ref Dt)) (m3 : m "rows_told" = some (.int k uk))
    (hK : ∀ h' tk m' u, Fr g L h' m' → News g L h' ((L+1+1+1+1+1+1+1+1, o8) :: (L+1+1+1+1+1+1+1, o7) :: (L+1+1+1+1+1+1, o6) :: (L+1+1+1+1+1, o5) :: (L+1+1+1+1, o4) :: (L+1+1+1, o3) :: (L+1+1, o2) :: (L+1, o1) :: tl) → (∀ y : Str, y ≠ Str.ofString "rows_told" → m' y = m y) → m' "rows_told" = some (.int (k + (qs.length : Nat)) u) →
      wpAny (model PG w) A (execs (forBody.drop 5) (lawEnv L fa cd)) Q E { s with heap := h', toks := tk }) :
    wpAny (model PG w) A (execs (forBody.drop 3) (lawEnv L fa cd)) Q E s := by
  have e1 : forBody.drop 3 = _ :: _ := rfl
  have e2 : lawScope = Scope.mk _ _ _ _ _ := rfl
  unfold lawEnv
  rw [e1, e2]
  clear e1 e2
  refine wpAny_execs_cons ?_
  have hdl : (dueL wh wd).length ≤ 17 := Nat.le_trans (List.length_filter_le _ _) (by rw [List.length_range]; exact h16)
  have hql : qs.length ≤ 17 := by rw [hp.length_eq]; exact hdl
  have htl : yt.toList.length = qs.length := by rw [hIt.length, List.length_map]
  walk_at "stmt"
  (with_reducible rename News _ _ _ _ => N4)
  (with_reducible rename Fr _ _ _ _ => F4)
  refine sorted_N (vs := yt.toList) F4 N4 ⟨_, (N4 (Dt, listOf yt kt) (by simp)).1, rfl, kt, by simp [PySem.W.listOf]⟩ hIt (by omega) fun h5 vs5 ns5 e5 F5 N5 hI5 hp5 hs5 => ?_
  have hds : ((dueL wh wd).map Int.ofNat).Pairwise (· ≤ ·) := by
    rw [List.pairwise_map]
    exact (List.pairwise_lt_range.filter _).imp fun h => Int.ofNat_le.mpr (Nat.le_of_lt h)
  obtain rfl : ns5 = (dueL wh wd).map Int.ofNat := lks_uniq (hp5.trans (hp.map _)) hs5 hds
  have l1 : h5.IsList (s.heap.objs.size + 1) (List.toArray vs5) := ⟨_, (N5 _ (.head _)).1, rfl, _, rfl⟩
  have l2 : h5.IsList Dd yd.toList.toArray := ⟨_, (N5 (Dd, listOf yd kd) (by simp)).1, rfl, kd, by simp [PySem.W.listOf]⟩
  have N6 : News g L h5 ((L+1+1+1+1+1+1+1+1, o8) :: (L+1+1+1+1+1+1+1, o7) :: (L+1+1+1+1+1+1, o6) :: (L+1+1+1+1+1, o5) :: (L+1+1+1+1, o4) :: (L+1+1+1, o3) :: (L+1+1, o2) :: (L+1, o1) :: (Dt, listOf yt kt) :: (Dd, listOf yd kd) :: tl) := fun q hq => N5 q (.tail _ hq)
  clear N4 N5 F4
  walk_at "stmt"
  refine ke_ne_ints l1 l2 hI5 hId hu ?_
  rw [decide_eq_true rfl]
  walk_at "stmt"
  refine wpAny_execs_nil ?_
  dsimp only
  refine wpAny_execs_cons ?_
  walk_at "stmt"
  (with_reducible rename News _ _ _ _ => N7)
  have l3 : h5.IsList Dt yt := ⟨_, (N7 (Dt, listOf yt kt) (by simp)).1, rfl, kt, rfl⟩
  refine len_list l3 (by have : yt.size = yt.toList.length := by simp
                         rw [this]; omega) ?_
  rw [show yt.size = qs.length by rw [← htl]; simp]
  walk_at "stmt"

  (with_reducible rename News _ _ _ _ => N8)
  exact hK _ _ _ _ (by k_asm) (fun q hq => N8 q (by
      simp only [List.mem_cons] at hq ⊢
      rcases hq with h | h | h | h | h | h | h | h | h <;> simp [h])) (fun y hy => if_neg hy) (if_pos rfl)
end Mine
end

-- part L17
section
open PySem PySem.W PySem.Calls PyProof.Rows
set_option Elab.async false
set_option maxRecDepth 100000
set_option maxHeartbeats 8000000
set_option pp.maxSteps 300
set_option pp.deepTerms false
namespace Mine
theorem warmL17 : (∀ P, _root_.hd.heap_39 P = _root_.hd.heap_39 P) ∧ PySem.Challenge.rw_dj5002_01 = PySem.Challenge.rw_dj5002_01 := by
  k_fill
  exact ⟨fun _ => rfl, rfl⟩
local macro_rules | `(tactic| walk_at "look") => `(tactic| first | with_reducible assumption | exact upd_eq | (refine upd_ne (by decide) ?_; walk_at "look") | exact if_pos rfl | (refine Eq.trans (if_neg (by decide)) ?_; walk_at "look"))
local macro_rules | `(tactic| walk_at "eval Name") => `(tactic| (k_here; k_dflt (first
  | (refine' nmL ?F ?e ?a ?b ?d ?v ?_; (case F => k_asm); (case e => rfl); (case a => rfl); (case b => rfl); (case d => decide); (case v => walk_at "look"); k_whole)
  | (refine' nmC ?F ?a ?b ?c ?o ?d ?e ?_; (case F => k_asm); (case a => rfl); (case b => rfl); (case c => rfl); (case o => exact News.get (by k_asm) (by k_mem)); (case d => k_asm); (case e => decide); k_whole)
  | (refine' nmB ?F ?X ?T ?g ?bb ?a ?b ?d ?e ?v ?n ?_; (case F => k_asm); (case X => k_asm); (case T => k_asm); (case g => rfl); (case bb => rfl); (case a => rfl); (case b => rfl); (case d => decide); (case e => k_is); (case v => boot_fast); (case n => decide); k_whole)
  | (refine' nmK ?F ?X ?T ?g ?a ?b ?d ?e ?_; (case F => k_asm); (case X => k_asm); (case T => k_asm); (case g => rfl); (case a => rfl); (case b => rfl); (case d => decide); (case e => k_is); k_whole))))
local macro_rules | `(tactic| walk_at "loadName") => `(tactic| (k_here; k_dflt (refine' ldn ?F ?v ?_ ?a ?b; (case F => k_asm); (case a => rfl); (case b => rfl); (case v => walk_at "look"); k_whole)))
local macro_rules | `(tactic| walk_at "stop") => `(tactic| first
  | (with_reducible show InvPostN _ _ _ _ _ _ _ _ _)
  | (with_reducible show InvEndN _ _ _ _ _ _ _)
  | (with_reducible show wpAny _ _ (eval (Expr.ListComp _ _ _ _) _) _ _ _)
  | (with_reducible show wpAny _ _ (pyIter _) _ _ _)
  | (with_reducible show wpAny _ _ (exec (Stmt.For _ _ _ _ _) _) _ _ _)
  | (with_reducible show wpAny _ _ (exec (Stmt.While _ _ _ _) _) _ _ _)
  | (with_reducible show wpAny _ _ (call (Value.ref _) _ _) _ _ _)
  | (with_reducible show wpAny _ _ (call (Value.builtin "sorted") _ _) _ _ _)
  | (with_reducible show wpAny _ _ (call (Value.builtin "str.join") _ _) _ _ _)
  | (with_reducible show wpAny _ _ (subscriptTail _ _ (Value.str _ _) (Value.int _ _)) _ _ _)
  | (with_reducible show wpAny _ _ (compareOp CmpOp.NotIn _ (Value.ref _)) _ _ _))
local macro_rules | `(tactic| walk_at "steps") => `(tactic| repeat (first | (k_unfold; (try dsimp only)) | ((fail_if_success walk_at "stop"); walk1) | ((fail_if_success walk_at "stop"); dsimp only; (fail_if_success walk_at "stop"); walk1)))
local macro_rules | `(tactic| walk_at "rest") => `(tactic| (with_reducible show wpAny _ _ (execs _ _) _ _ _))
local macro_rules | `(tactic| walk_at "stmt") => `(tactic| repeat ((fail_if_success walk_at "rest"); first | (k_unfold; (try dsimp only)) | ((fail_if_success walk_at "stop"); walk1) | ((fail_if_success walk_at "stop"); dsimp only; (fail_if_success walk_at "stop"); walk1)))
local macro_rules | `(tactic| walk_at "one") => `(tactic| first | (k_unfold; (try dsimp only)) | ((fail_if_success walk_at "stop"); walk1) | ((fail_if_success walk_at "stop"); dsimp only; (fail_if_success walk_at "stop"); walk1))
local macro_rules | `(tactic| walk_at "loadName") => `(tactic| (k_here; k_dflt (refine' ldA ?F ?e ?a ?b ?v ?_; (case F => k_asm); (case e => rfl); (case a => rfl); (case b => rfl); (case v => walk_at "look"); k_whole)))
local macro_rules | `(tactic| k_all) => `(tactic| first | exact List.forall_mem_nil _ | with_reducible assumption | (refine' List.forall_mem_cons.mpr ⟨?a, ?b⟩; (case a => k_ne); (case b => k_all)))
local macro_rules | `(tactic| walk_at "stop") => `(tactic| first | (with_reducible show InvPostG _ _ _ _ _ _ _ _) | (with_reducible show wpAny _ _ (setItem _ _ _) _ _ _) | (with_reducible show wpAny _ _ (subscriptTail _ _ (Value.ref _) (Value.str _ _)) _ _ _) | (with_reducible show wpAny _ _ (call (Value.builtin "list.append") _ _) _ _ _) | (with_reducible show wpAny _ _ (call (Value.builtin "len") [Value.ref _]) _ _ _) | (with_reducible show wpAny _ _ (getMethod (Value.ref _) _ _) _ _ _))
/-- what a word must be -/
structure WordOK (wh last sa wd : List Nat) : Prop where
  len : wd.length ≤ 17
  res : ∃ lo hi : Nat, hi ≤ wh.length ∧ lo ≤ hi ∧ (if ∀ c ∈ wd, c ∈ last then srch last wh.length wd else (0, 0)) = ((lo : Int), (hi : Int)) ∧ ((sa.drop lo).take (hi - lo)).Perm (dueL wh wd)
theorem seg23 {w : World} {A : Around} {E : Value → Shared → Prop} {s : Shared} {g : Heap} {p : Program} {loose : List Str} {mg mb : Str → Option Value} {Q : Flow → Shared → Prop} {L fa : Addr} {cd : Value} {m : Str → Option Value} {o1 o2 o3 o4 o5 o6 o7 o8 : Obj} {tl : List (Addr × Obj)} (X : (hd.heap_39 w.params).In g) (T : TopRead p loose mg mb g) (hA : A.handled = none)
    (F : Fr g L s.heap m) (N : News g L s.heap ((L+1+1+1+1+1+1+1+1, o8) :: (L+1+1+1+1+1+1+1, o7) :: (L+1+1+1+1+1+1, o6) :: (L+1+1+1+1+1, o5) :: (L+1+1+1+1, o4) :: (L+1+1+1, o3) :: (L+1+1, o2) :: (L+1, o1) :: tl))
    (hK : ∀ h' tk m' u, Fr g L h' m' → News g L h' ((L+1+1+1+1+1+1+1+1, o8) :: (L+1+1+1+1+1+1+1, o7) :: (L+1+1+1+1+1+1, o6) :: (L+1+1+1+1+1, o5) :: (L+1+1+1+1, o4) :: (L+1+1+1, o3) :: (L+1+1, o2) :: (L+1, o1) :: tl) → (∀ y : Str, y ≠ Str.ofString "rows_told" → m' y = m y) → m' "rows_told" = some (.int 0 u) →
      wpAny (model PG w) A (execs (lawBody.drop 24) (lawEnv L fa cd)) Q E { s with heap := h', toks := tk }) :
    wpAny (model PG w) A (execs (lawBody.drop 23) (lawEnv L fa cd)) Q E s := by
  have e1 : lawBody.drop 23 = _ :: _ := rfl
  have e2 : lawScope = Scope.mk _ _ _ _ _ := rfl
  unfold lawEnv
  rw [e1, e2]
  clear e1 e2
  refine wpAny_execs_cons ?_
  walk_at "stmt"
  exact hK _ _ _ _ (by k_asm) (by k_asm) (fun y hy => if_neg hy) (by walk_at "look")

theorem seg24 {w : World} {A : Around} {E : Value → Shared → Prop} {s : Shared} {g : Heap} {p : Program} {loose : List Str} {mg mb : Str → Option Value} {Q : Flow → Shared → Prop} {L fa : Addr} {cd : Value} {m : Str → Option Value} {o1 o2 o3 o4 o5 o6 o7 o8 : Obj} {wh last sa : List Nat} {ws : List (List Nat)} {vsW : List Value} {c n : Nat} {u1 u2 u3 u4 : Tok} {P Ls K W : Addr} {tl : List (Addr × Obj)} (X : (hd.heap_39 w.params).In g) (T : TopRead p loose mg mb g) (hA : A.handled = none) (hE : E = fun _ _ => False) (hdep : A.depth + 3 < recursionLimit) (hu : A.units + 64 < cLine)
    (F : Fr g L s.heap m) (N : News g L s.heap ((W, listOf (List.toArray vsW) c) :: ((L+1+1+1+1+1+1+1+1, o8) :: (L+1+1+1+1+1+1+1, o7) :: (L+1+1+1+1+1+1, o6) :: (L+1+1+1+1+1, o5) :: (L+1+1+1+1, o4) :: (L+1+1+1, o3) :: (L+1+1, o2) :: (L+1, o1) :: tl))) (hn : wh.length = n) (hnl : last.length = n) (h16 : n ≤ 17) (hoff : ∀ p ∈ (W, listOf (List.toArray vsW) c) :: tl, p.1 ≠ L+1+1+1+1+1+1+1+1)
    (Y : ∀ h : Heap, (∀ p ∈ tl, h.get? p.1 = some p.2) → FM w h P Ls K last sa)
    (hsa : sa.length = last.length) (hLF : ∀ r q c : Nat, sa[r]? = some (q + 1) → last[r]? = some c → ∃ r' : Nat, sa[r']? = some q ∧ bef last c (r : Int) = (r' : Int))
    (m4 : m "count" = some (.int (n : Nat) u4)) (m6 : m "words" = some (.ref W)) (m7 : m "rows_told" = some (.int 0 u1))
    (d3 : o3.data = .cell (some (.str ⟨wh.toArray⟩ u2))) (d4 : o4.data = .cell (some (.str ⟨last.toArray⟩ u3))) (d5 : o5.data = .cell (some (.ref K))) (d6 : o6.data = .cell (some (.ref P))) (d7 : o7.data = .cell (some (.ref Ls))) (d8 : o8.data = .cell none)
    (hS : StrsAre vsW (ws.map TX)) (hw : ∀ x ∈ ws, WordOK wh last sa x) (hnil : ∃ r, ws = [] :: r)
    (hK : ∀ h' tk m' o8 k u, (n : Int) ≤ k → Fr g L h' m' → News g L h' ((L+1+1+1+1+1+1+1+1, o8) :: (L+1+1+1+1+1+1+1, o7) :: (L+1+1+1+1+1+1, o6) :: (L+1+1+1+1+1, o5) :: (L+1+1+1+1, o4) :: (L+1+1+1, o3) :: (L+1+1, o2) :: (L+1, o1) :: tl) → m' "count" = some (.int (n : Nat) u4) → m' "rows_told" = some (.int k u) →
      wpAny (model PG w) A (execs (lawBody.drop 25) (lawEnv L fa cd)) Q E { s with heap := h', toks := tk }) :
    wpAny (model PG w) A (execs (lawBody.drop 24) (lawEnv L fa cd)) Q E s := by
  subst hE
  have e1 : lawBody.drop 24 = _ :: _ := rfl
  have e2 : lawScope = Scope.mk _ _ _ _ _ := rfl
  unfold lawEnv
  rw [e1, e2]
  clear e1 e2
  refine wpAny_execs_cons ?_
  have Nr : ∀ h, News g L h ((W, listOf (List.toArray vsW) c) :: ((L+1+1+1+1+1+1+1+1, o8) :: (L+1+1+1+1+1+1+1, o7) :: (L+1+1+1+1+1+1, o6) :: (L+1+1+1+1+1, o5) :: (L+1+1+1+1, o4) :: (L+1+1+1, o3) :: (L+1+1, o2) :: (L+1, o1) :: tl)) → News g L h ((L+1+1+1+1+1+1+1+1, o8) :: (L+1+1+1+1+1+1+1, o7) :: (L+1+1+1+1+1+1, o6) :: (L+1+1+1+1+1, o5) :: (L+1+1+1+1, o4) :: (L+1+1+1, o3) :: (L+1+1, o2) :: (L+1, o1) :: (W, listOf (List.toArray vsW) c) :: tl) := fun h N p hp => N p (by
    simp only [List.mem_cons] at hp ⊢
    rcases hp with h | h | h | h | h | h | h | h | h | h <;> simp [h])
  have N1 := Nr _ N
  clear Nr
  generalize hrest : (L+1+1+1+1+1+1+1, o7) :: (L+1+1+1+1+1+1, o6) :: (L+1+1+1+1+1, o5) :: (L+1+1+1+1, o4) :: (L+1+1+1, o3) :: (L+1+1, o2) :: (L+1, o1) :: (W, listOf (List.toArray vsW) c) :: tl = rest at N1
  refine for_cell (g := g) (c := L+1+1+1+1+1+1+1+1) (D := W) (oD := listOf (List.toArray vsW) c) (rest := rest) (vs := vsW) (fun i m' => (∀ y : Str, y = Str.ofString "count" → m' y = m y) ∧ ∃ k u, m' "rows_told" = some (.int k u) ∧ 0 ≤ k ∧ (0 < i → (n : Int) ≤ k)) hA rfl rfl rfl (by subst hrest; simp) ⟨rfl, c, rfl⟩ ?_ ?_ ?_ ?_
  · intro p hp
    subst hrest
    simp only [List.mem_cons] at hp
    have hlt : ∀ a b : Nat, a < b → a ≠ b := fun _ _ => Nat.ne_of_lt
    rcases hp with h | h | h | h | h | h | h | h | h
    · rw [h]; exact hlt _ _ (by omega)
    · rw [h]; exact hlt _ _ (by omega)
    · rw [h]; exact hlt _ _ (by omega)
    · rw [h]; exact hlt _ _ (by omega)
    · rw [h]; exact hlt _ _ (by omega)
    · rw [h]; exact hlt _ _ (by omega)
    · rw [h]; exact hlt _ _ (by omega)
    · rw [h]; exact hoff _ (.head _)
    · exact hoff _ (.tail _ h)
  · exact nmL F rfl rfl rfl (by decide) m6 ⟨rfl, _, _, m, o8, none, rfl, F, N1, d8, fun _ _ => rfl, 0, _, m7, Int.le_refl _, fun h => absurd h (Nat.lt_irrefl _)⟩
  · rintro i v m₁ oc own h₁ tk hv ⟨hm, k, u, j7, hk0, hk1⟩ hown F₁ N₁ dc
    subst hrest
    have N₂ : News g L h₁ ((L+1+1+1+1+1+1+1+1, oc) :: (L+1+1+1+1+1+1+1, o7) :: (L+1+1+1+1+1+1, o6) :: (L+1+1+1+1+1, o5) :: (L+1+1+1+1, o4) :: (L+1+1+1, o3) :: (L+1+1, o2) :: (L+1, o1) :: (W, listOf (List.toArray vsW) c) :: (tl ++ own)) := N₁
    clear N₁ N1 N
    obtain ⟨wd, hwd⟩ : ∃ wd, ws[i]? = some wd := by
      have : i < ws.length := by
        have h1 := (List.getElem?_eq_some_iff.mp hv).1
        rw [hS.len_eq, List.length_map] at h1; exact h1
      exact ⟨ws[i], by simp⟩
    obtain ⟨tv, rfl⟩ : ∃ tv, v = .str (TX wd) tv := by
      obtain ⟨tv, htv⟩ := hS.get i (TX wd) (by rw [List.getElem?_map, hwd]; rfl)
      rw [hv] at htv
      exact ⟨tv, Option.some.inj htv⟩
    have hW := hw wd (List.mem_of_getElem? hwd)
    have hwl := hW.len
    have j4 : m₁ "count" = some (.int (n : Nat) u4) := (hm _ rfl).trans m4
    subst hn
    have hmemtl : ∀ p ∈ tl, p ∈ (W, listOf (List.toArray vsW) c) :: (tl ++ own) := fun p hp => by simp [hp]
    show wpAny (model PG w) A (execs (forBody.drop 0) (lawEnv L fa cd)) _ _ _
    refine t0 X T hA (tl := (W, listOf (List.toArray vsW) c) :: (tl ++ own)) F₁ N₂ rfl h16 hwl j4 d3 dc fun h2 tk2 m2 Dd kd yd F2 N2 hm2 md hId => ?_
    refine t1 X T hA (wh := wh) (by omega) (tf := tl) (tl := (Dd, listOf yd kd) :: (W, listOf (List.toArray vsW) c) :: (tl ++ own)) F2 N2 hnl h16 hwl Y (fun p hp => .tail _ (hmemtl p hp)) ((hm2 _ (by decide)).trans j4) dc d6 d7 fun h3 tk3 m3 ua ub F3 N3 hm3 mlo mhi => ?_
    obtain ⟨lo, hi, hhi, hlh, hres, hperm⟩ := hW.res
    rw [hres] at mlo mhi
    refine t2 X T hA hdep (tf := tl) (tl := (Dd, listOf yd kd) :: (W, listOf (List.toArray vsW) c) :: (tl ++ own)) F3 N3 (by omega) hlh (by omega) Y (fun p hp => .tail _ (hmemtl p hp)) hsa hLF mlo mhi d4 d5 d6 d7 fun h4 tk4 m4' Dt kt yt F4 N4 hm4 mt hIt => ?_
    have mdue : m4' "due" = some (.ref Dd) := (hm4 _ (by decide)).trans ((hm3 _ (by decide) (by decide)).trans md)
    have mrows : m4' "rows_told" = some (.int k u) := (hm4 _ (by decide)).trans ((hm3 _ (by decide) (by decide)).trans ((hm2 _ (by decide)).trans j7))
    refine t3 X T hA (tl := (W, listOf (List.toArray vsW) c) :: (tl ++ own)) hu F4 N4 h16 hId hIt hperm mdue mt mrows fun h5 tk5 m5 u5 F5 N5 hm5 mr5 => ?_
    show wpAny _ _ (execs [] _) _ _ _
    refine wpAny_execs_nil ?_
    refine InvPostC.intro F5 N5 dc ⟨fun y hy => ?_, _, u5, mr5, by omega, fun _ => ?_⟩
    · subst hy
      exact (hm5 _ (by decide)).trans ((hm4 _ (by decide)).trans ((hm3 _ (by decide) (by decide)).trans ((hm2 _ (by decide)).trans (hm _ rfl))))
    · by_cases h0 : 0 < i
      · have := hk1 h0; omega
      · obtain ⟨r, rfl⟩ := hnil
        obtain rfl : i = 0 := by omega
        obtain rfl : wd = [] := by simpa using hwd.symm
        have : ((sa.drop lo).take (hi - lo)).length = wh.length := by
          rw [hperm.length_eq]
          unfold dueL
          rw [List.filter_eq_self.mpr (by simp), List.length_range]
        rw [this]; omega
  · rintro m₁ oc v h tk ⟨hm, k, u, j7, hk0, hk1⟩ F₁ N₁ dc
    subst hrest
    dsimp only
    refine hK _ _ _ oc k u (hk1 ?_) F₁ (fun p hp => N₁ p (by
      simp only [List.mem_cons] at hp ⊢
      rcases hp with h | h | h | h | h | h | h | h | h <;> simp [h])) ((hm _ rfl).trans m4) j7
    obtain ⟨r, rfl⟩ := hnil
    rw [hS.len_eq]; simp

theorem seg25 {w : World} {A : Around} {E : Value → Shared → Prop} {s : Shared} {g : Heap} {p : Program} {loose : List Str} {mg mb : Str → Option Value} {Q : Flow → Shared → Prop} {L fa : Addr} {cd : Value} {m : Str → Option Value} {o1 o2 o3 o4 o5 o6 o7 o8 : Obj} {k n : Int} {u u4 : Tok} (X : (hd.heap_39 w.params).In g) (T : TopRead p loose mg mb g) (hA : A.handled = none)
    (F : Fr g L s.heap m) (N : News g L s.heap [(L+1+1+1+1+1+1+1+1, o8), (L+1+1+1+1+1+1+1, o7), (L+1+1+1+1+1+1, o6), (L+1+1+1+1+1, o5), (L+1+1+1+1, o4), (L+1+1+1, o3), (L+1+1, o2), (L+1, o1)]) (hk : n ≤ k) (m4 : m "count" = some (.int n u4)) (m7 : m "rows_told" = some (.int k u))
    (hK : ∀ h' tk, Fr g L h' m → Q (.ret (.bool true)) { s with heap := h', toks := tk }) :
    wpAny (model PG w) A (execs (lawBody.drop 25) (lawEnv L fa cd)) Q E s := by
  have e1 : lawBody.drop 25 = _ :: _ := rfl
  have e2 : lawScope = Scope.mk _ _ _ _ _ := rfl
  unfold lawEnv
  rw [e1, e2]
  clear e1 e2
  refine wpAny_execs_cons ?_
  walk_at "stmt"
  dsimp only
  rw [decide_eq_true hk]
  exact hK s.heap s.toks F
end Mine
end

-- part Pm
section
set_option Elab.async false
set_option maxRecDepth 100000
set_option maxHeartbeats 4000000
namespace Mine
-- lists
theorem lt_cons {a b : Nat} {u v : List Nat} : a :: u < b :: v ↔ a < b ∨ a = b ∧ u < v := List.cons_lt_cons_iff
theorem lt_app : ∀ {wd a b : List Nat}, wd.length ≤ a.length → (a ++ b < wd ↔ a < wd)
  | [], a, b, _ => ⟨fun h => absurd h (List.not_lt_nil _), fun h => absurd h (List.not_lt_nil _)⟩
  | w :: ws, [], b, h => by simp at h
  | w :: ws, x :: a, b, h => by
    rw [List.cons_append, lt_cons, lt_cons, lt_app (by simpa using h)]
theorem not_lt_self_app {wd b : List Nat} : ¬ wd ++ b < wd := fun h => List.lt_irrefl _ ((lt_app (Nat.le_refl _)).mp h)
theorem take_cmp : ∀ {u v : List Nat} (k : Nat), u < v → u.take k < v.take k ∨ u.take k = v.take k
  | _, _, 0, _ => .inr (by simp)
  | u, [], k + 1, h => absurd h (List.not_lt_nil _)
  | [], y :: v, k + 1, _ => .inl (by simp)
  | x :: u, y :: v, k + 1, h => by
    rw [List.take_succ_cons, List.take_succ_cons, lt_cons]
    rcases lt_cons.mp h with q | ⟨rfl, q⟩
    · exact .inl (.inl q)
    · rcases take_cmp k q with r | r
      · exact .inl (.inr ⟨rfl, r⟩)
      · exact .inr (by rw [r])

section cnt
variable {α : Type}
def cnt (p : α → Bool) (l : List α) : Nat := (l.filter p).length
theorem cnt_row {p : α → Bool} : ∀ {l : List α}, l.Pairwise (fun a b => p b = true → p a = true) → ∀ (j : Nat) (x : α), l[j]? = some x → (p x = true ↔ j < cnt p l)
  | [], _, j, x, h => by simp at h
  | y :: r, hd, j, x, h => by
    have h2 := List.pairwise_cons.mp hd
    unfold cnt
    cases hp : p y with
    | true =>
      rw [List.filter_cons_of_pos hp, List.length_cons]
      cases j with
      | zero => simp at h; subst h; simp [hp]
      | succ j =>
        have := cnt_row h2.2 j x (by simpa using h)
        unfold cnt at this
        rw [this]; omega
    | false =>
      have hr : ∀ z ∈ r, ¬ p z = true := fun z hz q => by have := h2.1 z hz q; rw [hp] at this; cases this
      rw [List.filter_cons_of_neg (by simp [hp]), List.filter_eq_nil_iff.mpr hr]
      cases j with
      | zero => simp at h; subst h; simp [hp]
      | succ j =>
        have hx : x ∈ r := List.mem_of_getElem? (by simpa using h)
        simp [hr x hx]
theorem seg_filter {p q : α → Bool} : ∀ {l : List α}, l.Pairwise (fun a b => p b = true → p a = true) → l.Pairwise (fun a b => q b = true → q a = true) → (∀ x ∈ l, p x = true → q x = true) →
    (l.drop (cnt p l)).take (cnt q l - cnt p l) = l.filter fun x => q x && !p x
  | [], _, _, _ => by simp
  | y :: r, hp, hq, hpq => by
    have hp2 := List.pairwise_cons.mp hp
    have hq2 := List.pairwise_cons.mp hq
    have ih := seg_filter hp2.2 hq2.2 fun x hx => hpq x (.tail _ hx)
    unfold cnt at ih ⊢
    cases hpy : p y with
    | true =>
      have hqy := hpq y (.head _) hpy
      rw [List.filter_cons_of_pos hpy, List.filter_cons_of_pos hqy, List.filter_cons_of_neg (by simp [hpy]), List.length_cons, List.length_cons, List.drop_succ_cons, Nat.add_sub_add_right]
      exact ih
    | false =>
      have hr : ∀ z ∈ r, ¬ p z = true := fun z hz e => by have := hp2.1 z hz e; rw [hpy] at this; cases this
      have e0 : r.filter p = [] := List.filter_eq_nil_iff.mpr hr
      have e1 : (y :: r).filter p = [] := by rw [List.filter_cons_of_neg (p := p) (by simp [hpy]), e0]
      rw [e1, List.length_nil, List.drop_zero, Nat.sub_zero]
      rw [e0, List.length_nil, List.drop_zero, Nat.sub_zero] at ih
      cases hqy : q y with
      | true =>
        rw [List.filter_cons_of_pos hqy, List.filter_cons_of_pos (by simp [hpy, hqy]), List.length_cons, List.take_succ_cons, ih]
      | false =>
        have hr2 : ∀ z ∈ r, ¬ q z = true := fun z hz e => by have := hq2.1 z hz e; rw [hqy] at this; cases this
        have e2 : (y :: r).filter q = [] := by rw [List.filter_cons_of_neg (p := q) (by simp [hqy]), List.filter_eq_nil_iff.mpr hr2]
        have e3 : (y :: r).filter (fun x => q x && !p x) = [] := by
          rw [List.filter_cons_of_neg (p := fun x => q x && !p x) (by simp [hqy]), List.filter_eq_nil_iff.mpr (fun z hz => by simp [hr2 z hz])]
        rw [e2, e3]; simp
theorem cnt_perm {p : α → Bool} {l l' : List α} (h : l.Perm l') : cnt p l = cnt p l' := (h.filter p).length_eq
theorem cnt_or {p q r : α → Bool} : ∀ {l : List α}, (∀ x ∈ l, r x = (p x || q x)) → (∀ x ∈ l, ¬ (p x = true ∧ q x = true)) → cnt r l = cnt p l + cnt q l
  | [], _, _ => rfl
  | y :: l, h1, h2 => by
    have ih := cnt_or (l := l) (fun x hx => h1 x (.tail _ hx)) (fun x hx => h2 x (.tail _ hx))
    have e1 := h1 y (.head _)
    have e2 := h2 y (.head _)
    unfold cnt at ih ⊢
    simp only [List.filter_cons]
    cases hp : p y <;> cases hq : q y <;> simp [hp, hq] at e1 e2 <;> simp [e1] <;> omega
theorem cnt_map {β : Type} {f : α → β} {p : β → Bool} {l : List α} : cnt p (l.map f) = cnt (fun x => p (f x)) l := by
  unfold cnt; rw [List.filter_map, List.length_map]; rfl
theorem cnt_congr {p q : α → Bool} {l : List α} (h : ∀ x ∈ l, p x = q x) : cnt p l = cnt q l := by unfold cnt; rw [List.filter_congr h]
end cnt
theorem cnt_range (l : List Nat) (p : Nat → Nat → Bool) (f : Nat → Bool) (h : ∀ (j : Nat) (x : Nat), l[j]? = some x → p j x = f x) : cnt (fun j => p j (l.getD j 0)) (List.range l.length) = cnt f l := by
  have e : (List.range l.length).map (fun j => l.getD j 0) = l := by
    apply List.ext_getElem?
    intro i
    rw [List.getElem?_map]
    by_cases hi : i < l.length
    · rw [List.getElem?_range hi, Option.map_some, List.getD_eq_getElem?_getD, List.getElem?_eq_getElem hi]; rfl
    · rw [List.getElem?_eq_none (by simpa using hi), List.getElem?_eq_none (by simpa using hi)]; rfl
  have : cnt f ((List.range l.length).map (fun j => l.getD j 0)) = cnt f l := by rw [e]
  rw [← this, cnt_map]
  refine cnt_congr fun j hj => ?_
  have hj' := List.mem_range.mp hj
  have hx : l[j]? = some (l.getD j 0) := by rw [List.getD_eq_getElem?_getD, List.getElem?_eq_getElem hj']; rfl
  exact h j _ hx
end Mine
end

-- part Pn
section
set_option Elab.async false
set_option maxRecDepth 100000
set_option maxHeartbeats 4000000
namespace Mine
section
variable {wh sa : List Nat}
def lc (wh : List Nat) (q : Nat) : Nat := (rotL wh q).getD (wh.length - 1) 0
def prv (n q : Nat) : Nat := if q = 0 then n - 1 else q - 1
theorem prv_lt {n q : Nat} (h : q < n) : prv n q < n := by unfold prv; split <;> omega
theorem prv_perm (n : Nat) : ((List.range n).map (prv n)).Perm (List.range n) := by
  cases n with
  | zero => exact .refl _
  | succ n =>
    have e : (List.range (n + 1)).map (prv (n + 1)) = n :: List.range n := by
      apply List.ext_getElem?
      intro i
      rw [List.getElem?_map]
      cases i with
      | zero => simp [prv]
      | succ i =>
        rw [List.getElem?_cons_succ]
        by_cases h : i < n
        · rw [List.getElem?_range h, List.getElem?_range (by omega)]; simp [prv]
        · rw [List.getElem?_eq_none (by simpa using h), List.getElem?_eq_none (by simpa using h)]; rfl
    rw [e, List.range_succ]
    exact (List.perm_append_singleton n (List.range n)).symm
theorem rot_prv {q : Nat} (hq : q < wh.length) : rotL wh (prv wh.length q) = lc wh q :: (rotL wh q).take (wh.length - 1) := by
  apply List.ext_getElem?
  intro i
  unfold lc rotL prv
  cases i with
  | zero =>
    rw [List.getElem?_cons_zero]
    by_cases h0 : q = 0
    · subst h0
      simp only [if_true, List.drop_zero, List.take_zero, List.append_nil]
      rw [List.getElem?_append_left (by rw [List.length_drop]; omega), List.getElem?_drop, List.getD_eq_getElem?_getD, Nat.add_zero, List.getElem?_eq_getElem (by omega)]
      rfl
    · rw [if_neg h0, List.getElem?_append_left (by rw [List.length_drop]; omega), List.getElem?_drop, List.getD_eq_getElem?_getD, List.getElem?_append_right (by rw [List.length_drop]; omega), List.length_drop, List.getElem?_take, if_pos (by omega),
        show wh.length - 1 - (wh.length - q) = q - 1 by omega, Nat.add_zero, List.getElem?_eq_getElem (by omega)]
      rfl
  | succ i =>
    rw [List.getElem?_cons_succ, List.getElem?_take]
    by_cases h0 : q = 0
    · subst h0
      simp only [if_true, List.drop_zero, List.take_zero, List.append_nil]
      by_cases hi : i < wh.length - 1
      · rw [if_pos hi, List.getElem?_append_right (by rw [List.length_drop]; omega), List.length_drop, List.getElem?_take, if_pos (by omega)]
        congr 1; omega
      · rw [if_neg hi, List.getElem?_eq_none (by rw [List.length_append, List.length_drop, List.length_take]; omega)]
    · rw [if_neg h0]
      by_cases hi : i < wh.length - 1
      · rw [if_pos hi]
        by_cases h1 : i < wh.length - q
        · rw [List.getElem?_append_left (by rw [List.length_drop]; omega), List.getElem?_append_left (by rw [List.length_drop]; omega), List.getElem?_drop, List.getElem?_drop]
          congr 1; omega
        · rw [List.getElem?_append_right (by rw [List.length_drop]; omega), List.getElem?_append_right (by rw [List.length_drop]; omega), List.length_drop, List.length_drop, List.getElem?_take, List.getElem?_take, if_pos (by omega), if_pos (by omega)]
          congr 1; omega
      · rw [if_neg hi, List.getElem?_eq_none (by rw [List.length_append, List.length_drop, List.length_take]; omega)]
theorem rot_snoc {q : Nat} (hq : q < wh.length) : rotL wh q = (rotL wh q).take (wh.length - 1) ++ [lc wh q] := by
  have hl := rot_len hq
  have e : (rotL wh q).drop (wh.length - 1) = [lc wh q] := by
    rw [List.drop_eq_getElem_cons (by omega), List.drop_eq_nil_of_le (by omega)]
    unfold lc
    rw [List.getD_eq_getElem?_getD, List.getElem?_eq_getElem (by omega)]; rfl
  rw [← e, List.take_append_drop]

theorem last_get (hS : SA wh sa) : ∀ (r : Nat) (q : Nat), sa[r]? = some q → (lastL wh sa)[r]? = some (lc wh q) := fun r q h => by
  unfold lastL; rw [List.getElem?_map, h]; rfl
theorem last_len (hS : SA wh sa) : (lastL wh sa).length = wh.length := by
  unfold lastL; rw [List.length_map, hS.perm.length_eq, List.length_range]
theorem sa_len (hS : SA wh sa) : sa.length = wh.length := by rw [hS.perm.length_eq, List.length_range]
theorem sa_lt (hS : SA wh sa) {r q : Nat} (h : sa[r]? = some q) : q < wh.length := List.mem_range.mp (hS.perm.mem_iff.mp (List.mem_of_getElem? h))

/-- the one counting step -/
theorem bef_step (hS : SA wh sa) (D D' : Nat → Bool) (c : Nat) (hD : ∀ p, p < wh.length → D' (prv wh.length p) = (decide (lc wh p < c) || (lc wh p == c && D p)))
    (hdown : sa.Pairwise fun a b => D b = true → D a = true) :
    bef (lastL wh sa) c (cnt D (List.range wh.length) : Nat) = (cnt D' (List.range wh.length) : Nat) := by
  have hsl := sa_len hS
  have hll := last_len hS
  have e1 : cnt D (List.range wh.length) = cnt D sa := cnt_perm hS.perm.symm
  have e2 : cnt D' (List.range wh.length) = cnt (fun p => D' (prv wh.length p)) (List.range wh.length) := by
    rw [← cnt_map (f := prv wh.length)]; exact cnt_perm (prv_perm _).symm
  have e3 : cnt (fun p => D' (prv wh.length p)) (List.range wh.length) = cnt (fun p => decide (lc wh p < c)) (List.range wh.length) + cnt (fun p => lc wh p == c && D p) (List.range wh.length) := by
    refine cnt_or (fun p hp => hD p (List.mem_range.mp hp)) fun p _ h => ?_
    have h1 := of_decide_eq_true h.1
    have h2 := h.2
    rw [Bool.and_eq_true, beq_iff_eq] at h2
    omega
  have e4 : lessI (lastL wh sa) c = (cnt (fun p => decide (lc wh p < c)) (List.range wh.length) : Nat) := by
    unfold lessI
    congr 1
    show cnt (fun x => decide (x < c)) (lastL wh sa) = _
    unfold lastL
    rw [cnt_map]
    exact cnt_perm hS.perm
  have e5 : (((posI (lastL wh sa) c).filter (· < ((cnt D (List.range wh.length) : Nat) : Int))).length : Nat) = cnt (fun p => lc wh p == c && D p) (List.range wh.length) := by
    rw [e1]
    unfold posI
    rw [List.filter_map, List.length_map, List.filter_filter, hll]
    have : cnt (fun j => (fun j x => decide ((lastL wh sa)[j]? = some c) && decide (j < cnt D sa)) j (sa.getD j 0)) (List.range sa.length) = cnt (fun p => lc wh p == c && D p) sa := by
      refine cnt_range sa (fun j x => decide ((lastL wh sa)[j]? = some c) && decide (j < cnt D sa)) _ fun j x hx => ?_
      have h1 := last_get hS j x hx
      have h2 := cnt_row hdown j x hx
      rw [h1, Bool.eq_iff_iff, Bool.and_eq_true, Bool.and_eq_true, decide_eq_true_iff, decide_eq_true_iff, beq_iff_eq, h2]
      simp
    rw [cnt_perm hS.perm.symm, ← this, hsl]
    unfold cnt
    refine congrArg List.length (List.filter_congr fun j _ => ?_)
    rw [Bool.eq_iff_iff]
    simp [and_comm]
  unfold bef
  rw [e4, e5, e2, e3]
  omega

theorem rot_down (hS : SA wh sa) (x : List Nat) : sa.Pairwise fun a b => decide (rotL wh b < x) = true → decide (rotL wh a < x) = true :=
  hS.srt.imp fun h q => decide_eq_true (List.lt_trans h (of_decide_eq_true q))
def idx (wh : List Nat) (q : Nat) : Nat := cnt (fun p => decide (rotL wh p < rotL wh q)) (List.range wh.length)
theorem idx_row (hS : SA wh sa) {r q : Nat} (h : sa[r]? = some q) : idx wh q = r := by
  have hl := sa_len hS
  have hr : r < sa.length := (List.getElem?_eq_some_iff.mp h).1
  have hrq : sa[r] = q := (List.getElem?_eq_some_iff.mp h).2
  have hp := List.pairwise_iff_getElem.mp hS.srt
  have e : idx wh q = cnt (fun p => decide (rotL wh p < rotL wh q)) sa := cnt_perm hS.perm.symm
  rw [e]
  generalize hk : cnt (fun p => decide (rotL wh p < rotL wh q)) sa = k
  have hrow : ∀ (j : Nat) (x : Nat), sa[j]? = some x → (decide (rotL wh x < rotL wh q) = true ↔ j < k) := fun j x hx => by rw [← hk]; exact cnt_row (rot_down hS (rotL wh q)) j x hx
  have h1 : ¬ r < k := fun hlt => by
    have := of_decide_eq_true ((hrow r q h).mpr hlt)
    exact List.lt_irrefl _ this
  rcases Nat.lt_or_ge k r with h2 | h2
  · have hkx : sa[k]? = some sa[k] := by simp
    have h3 := (hrow k _ hkx).mp (decide_eq_true (hrq ▸ hp k r (by omega) hr h2))
    exact absurd h3 (Nat.lt_irrefl _)
  · omega
theorem row_idx (hS : SA wh sa) {q : Nat} (hq : q < wh.length) : sa[idx wh q]? = some q := by
  obtain ⟨r, hr, e⟩ := List.mem_iff_getElem.mp (hS.perm.mem_iff.mpr (List.mem_range.mpr hq))
  have h : sa[r]? = some q := by rw [List.getElem?_eq_getElem hr, e]
  rw [idx_row hS h]; exact h

/-- a row's way back -/
theorem lf (hS : SA wh sa) {q : Nat} (hq : q < wh.length) : bef (lastL wh sa) (lc wh q) (idx wh q : Nat) = (idx wh (prv wh.length q) : Nat) := by
  refine bef_step hS (fun p => decide (rotL wh p < rotL wh q)) (fun p => decide (rotL wh p < rotL wh (prv wh.length q))) (lc wh q) (fun p hp => ?_) (rot_down hS _)
  rw [rot_prv hp, rot_prv hq, Bool.eq_iff_iff, decide_eq_true_iff, lt_cons, Bool.or_eq_true, decide_eq_true_iff, Bool.and_eq_true, beq_iff_eq, decide_eq_true_iff]
  have key : lc wh p = lc wh q → ((rotL wh p).take (wh.length - 1) < (rotL wh q).take (wh.length - 1) ↔ rotL wh p < rotL wh q) := fun e => by
    have h1 := rot_snoc hp
    have h2 := rot_snoc hq
    generalize (rotL wh p).take (wh.length - 1) = a at h1
    have hla : a.length = wh.length - 1 := by have := rot_len hp; rw [h1] at this; simp at this; omega
    generalize (rotL wh q).take (wh.length - 1) = b at h2
    have hlb : b.length = wh.length - 1 := by have := rot_len hq; rw [h2] at this; simp at this; omega
    rw [h1, h2, e]
    have cmp : ∀ (a b : List Nat) (x : Nat), a.length = b.length → (a < b ↔ a ++ [x] < b ++ [x]) := by
      intro a
      induction a with
      | nil => intro b x h; cases b with
        | nil => simp [List.lt_irrefl]
        | cons _ _ => simp at h
      | cons u a ih => intro b x h; cases b with
        | nil => simp at h
        | cons v b =>
          rw [List.cons_append, List.cons_append, lt_cons, lt_cons, ih b x (by simpa using h)]
    exact cmp a b _ (by omega)
  constructor
  · rintro (h | ⟨h, h'⟩)
    · exact .inl h
    · exact .inr ⟨h, (key h).mp h'⟩
  · rintro (h | ⟨h, h'⟩)
    · exact .inl h
    · exact .inr ⟨h, (key h).mpr h'⟩
end
end Mine
end

-- part Po
section
set_option Elab.async false
set_option maxRecDepth 100000
set_option maxHeartbeats 4000000
namespace Mine
section
variable {wh sa : List Nat}
def loD (wh wd : List Nat) (p : Nat) : Bool := decide (rotL wh p < wd)
def pfD (wh wd : List Nat) (p : Nat) : Bool := decide ((rotL wh p).take wd.length = wd)
def hiD (wh wd : List Nat) (p : Nat) : Bool := loD wh wd p || pfD wh wd p
theorem hi_down (hS : SA wh sa) {wd : List Nat} (hw : wd.length ≤ wh.length) : sa.Pairwise fun a b => hiD wh wd b = true → hiD wh wd a = true := by
  have hm : ∀ a ∈ sa, a < wh.length := fun a h => List.mem_range.mp (hS.perm.mem_iff.mp h)
  refine List.Pairwise.imp_of_mem (fun {a b} ha hb h q => ?_) hS.srt
  unfold hiD loD pfD at *
  rw [Bool.or_eq_true, decide_eq_true_iff, decide_eq_true_iff] at *
  rcases q with q | q
  · exact .inl (List.lt_trans h q)
  · rcases take_cmp wd.length h with r | r
    · rw [q] at r
      refine .inl ?_
      have hl := rot_len (hm a ha)
      have := (lt_app (wd := wd) (a := (rotL wh a).take wd.length) (b := (rotL wh a).drop wd.length) (by rw [List.length_take]; omega)).mpr r
      rwa [List.take_append_drop] at this
    · exact .inr (r.trans q)

theorem srch_is (hS : SA wh sa) : ∀ wd : List Nat, wd.length ≤ wh.length →
    srch (lastL wh sa) wh.length wd = (((cnt (loD wh wd) (List.range wh.length) : Nat) : Int), ((cnt (hiD wh wd) (List.range wh.length) : Nat) : Int))
  | [], _ => by
    have h1 : cnt (loD wh []) (List.range wh.length) = 0 := by
      unfold cnt; rw [List.filter_eq_nil_iff.mpr (fun p _ => by simp [loD, List.not_lt_nil])]; rfl
    have h2 : cnt (hiD wh []) (List.range wh.length) = wh.length := by
      unfold cnt; rw [List.filter_eq_self.mpr (fun p _ => by simp [hiD, pfD]), List.length_range]
    rw [h1, h2]; rfl
  | c :: wd, h => by
    have hw : wd.length ≤ wh.length - 1 := by rw [List.length_cons] at h; omega
    have ih := srch_is hS wd (by omega)
    have lo : ∀ p, p < wh.length → ((rotL wh p).take (wh.length - 1) < wd ↔ rotL wh p < wd) := fun p hp => by
      have hl := rot_len hp
      have := lt_app (wd := wd) (a := (rotL wh p).take (wh.length - 1)) (b := [lc wh p]) (by rw [List.length_take]; omega)
      rw [← rot_snoc hp] at this
      exact this.symm
    have pf : ∀ p, p < wh.length → (((rotL wh p).take (wh.length - 1)).take wd.length = wd ↔ (rotL wh p).take wd.length = wd) := fun p hp => by
      rw [List.take_take, Nat.min_eq_left hw]
    show (bef (lastL wh sa) c (srch (lastL wh sa) wh.length wd).1, bef (lastL wh sa) c (srch (lastL wh sa) wh.length wd).2) = _
    rw [ih]
    refine Prod.ext ?_ ?_
    · refine bef_step hS (loD wh wd) (loD wh (c :: wd)) c (fun p hp => ?_) (rot_down hS wd)
      unfold loD
      rw [rot_prv hp, Bool.eq_iff_iff, decide_eq_true_iff, lt_cons, Bool.or_eq_true, decide_eq_true_iff, Bool.and_eq_true, beq_iff_eq, decide_eq_true_iff, lo p hp]
    · refine bef_step hS (hiD wh wd) (hiD wh (c :: wd)) c (fun p hp => ?_) (hi_down hS (by omega))
      unfold hiD loD pfD
      rw [rot_prv hp, Bool.eq_iff_iff, Bool.or_eq_true, decide_eq_true_iff, decide_eq_true_iff, lt_cons, Bool.or_eq_true, decide_eq_true_iff, Bool.and_eq_true, beq_iff_eq, Bool.or_eq_true, decide_eq_true_iff, decide_eq_true_iff, lo p hp, List.length_cons, List.take_succ_cons, List.cons.injEq, pf p hp]
      constructor
      · rintro ((h | ⟨h, h'⟩) | ⟨h, h'⟩)
        · exact .inl h
        · exact .inr ⟨h, .inl h'⟩
        · exact .inr ⟨h, .inr h'⟩
      · rintro (h | ⟨h, h' | h'⟩)
        · exact .inl (.inl h)
        · exact .inl (.inr ⟨h, h'⟩)
        · exact .inr ⟨h, h'⟩

/-- the rows of a stretch -/
theorem stretch (hS : SA wh sa) {wd : List Nat} (hw : wd.length ≤ wh.length) :
    (sa.drop (cnt (loD wh wd) (List.range wh.length))).take (cnt (hiD wh wd) (List.range wh.length) - cnt (loD wh wd) (List.range wh.length)) = sa.filter (pfD wh wd) := by
  rw [cnt_perm (p := loD wh wd) hS.perm.symm, cnt_perm (p := hiD wh wd) hS.perm.symm, seg_filter (p := loD wh wd) (q := hiD wh wd) (rot_down hS wd) (hi_down hS hw) fun x _ h => by unfold hiD; rw [h]; rfl]
  refine List.filter_congr fun p hp => ?_
  have hpl : p < wh.length := List.mem_range.mp (hS.perm.mem_iff.mp hp)
  unfold hiD
  cases h1 : loD wh wd p with
  | false => simp
  | true =>
    cases h2 : pfD wh wd p with
    | false => simp
    | true =>
      exfalso
      have a1 : rotL wh p < wd := of_decide_eq_true h1
      have a2 : (rotL wh p).take wd.length = wd := of_decide_eq_true h2
      rw [← List.take_append_drop wd.length (rotL wh p), a2] at a1
      exact not_lt_self_app a1
theorem cnt_le {α : Type} {p q : α → Bool} : ∀ {l : List α}, (∀ x ∈ l, p x = true → q x = true) → cnt p l ≤ cnt q l
  | [], _ => Nat.le_refl _
  | y :: l, h => by
    have ih := cnt_le (l := l) fun x hx => h x (.tail _ hx)
    have := h y (.head _)
    unfold cnt at ih ⊢
    simp only [List.filter_cons]
    cases hp : p y <;> cases hq : q y <;> simp [hp, hq] at this ⊢ <;> omega

theorem last_perm (hS : SA wh sa) : (lastL wh sa).Perm wh := by
  have h1 : (lastL wh sa).Perm ((List.range wh.length).map (lc wh)) := hS.perm.map _
  have h2 : (List.range wh.length).map (lc wh) = ((List.range wh.length).map (prv wh.length)).map fun q => wh.getD q 0 := by
    rw [List.map_map]
    refine List.map_congr_left fun p hp => ?_
    have hp := List.mem_range.mp hp
    have h := rot_prv hp
    have h3 := congrArg (fun l : List Nat => l[0]?) h
    have h3 : (rotL wh (prv wh.length p))[0]? = some (lc wh p) := h3
    unfold rotL at h3
    have hq := prv_lt hp
    rw [List.getElem?_append_left (by rw [List.length_drop]; omega), List.getElem?_drop, Nat.add_zero] at h3
    show lc wh p = wh.getD (prv wh.length p) 0
    rw [List.getD_eq_getElem?_getD, h3]; rfl
  have h3 : ((List.range wh.length).map fun q => wh.getD q 0) = wh := by
    apply List.ext_getElem?
    intro i
    rw [List.getElem?_map]
    by_cases hi : i < wh.length
    · rw [List.getElem?_range hi, Option.map_some, List.getD_eq_getElem?_getD, List.getElem?_eq_getElem hi]; rfl
    · rw [List.getElem?_eq_none (by simpa using hi), List.getElem?_eq_none (by simpa using hi)]; rfl
  rw [h2] at h1
  have h4 := (prv_perm wh.length).map fun q => wh.getD q 0
  rw [h3] at h4
  exact h1.trans h4

/-- the words that are asked for: the closing sign stands at their end at most -/
theorem word_ok {tx : List Nat} (hw : wh = tx ++ [36]) (h36 : 36 ∉ tx) (h17 : wh.length ≤ 17) (hS : SA wh sa) {wd : List Nat} (hl : wd.length ≤ wh.length) (hd : 36 ∉ wd.dropLast) : WordOK wh (lastL wh sa) sa wd := by
  refine ⟨by omega, ?_⟩
  by_cases hc : ∀ c ∈ wd, c ∈ lastL wh sa
  · refine ⟨cnt (loD wh wd) (List.range wh.length), cnt (hiD wh wd) (List.range wh.length), ?_, cnt_le fun p _ h => by unfold hiD; rw [h]; rfl, ?_, ?_⟩
    · have := List.length_filter_le (hiD wh wd) (List.range wh.length)
      rw [List.length_range] at this; exact this
    · rw [if_pos hc]; exact srch_is hS wd hl
    · rw [stretch hS hl]
      refine (hS.perm.filter _).trans (List.Perm.of_eq ?_)
      unfold dueL
      refine List.filter_congr fun p hp => ?_
      have hp := List.mem_range.mp hp
      unfold pfD
      rw [Bool.eq_iff_iff, decide_eq_true_iff, decide_eq_true_iff]
      by_cases hk : wd.length ≤ wh.length - p
      · unfold rotL
        rw [List.take_append_of_le_length (by rw [List.length_drop]; exact hk)]
      · constructor
        · intro e
          exfalso
          apply hd
          have hwl : wh.length = tx.length + 1 := by rw [hw]; simp
          have h36' : (rotL wh p)[wh.length - 1 - p]? = some 36 := by
            unfold rotL
            rw [List.getElem?_append_left (by rw [List.length_drop]; omega), List.getElem?_drop, show p + (wh.length - 1 - p) = tx.length by omega, hw, List.getElem?_append_right (Nat.le_refl _)]
            simp
          have h2 : wd[wh.length - 1 - p]? = some 36 := by
            rw [← e, List.getElem?_take, if_pos (by omega)]; exact h36'
          refine List.mem_of_getElem? (i := wh.length - 1 - p) ?_
          rw [List.getElem?_dropLast, if_pos (by omega)]; exact h2
        · intro e
          exfalso
          have := congrArg List.length e
          rw [List.length_take, List.length_drop] at this
          omega
  · refine ⟨0, 0, Nat.zero_le _, Nat.le_refl _, by rw [if_neg hc]; rfl, ?_⟩
    have : dueL wh wd = [] := by
      unfold dueL
      refine List.filter_eq_nil_iff.mpr fun p _ h => hc fun c hcw => ?_
      have e : (wh.drop p).take wd.length = wd := of_decide_eq_true h
      rw [← e] at hcw
      exact (last_perm hS).mem_iff.mpr (List.mem_of_mem_drop (List.mem_of_mem_take hcw))
    rw [this]; simp
end
end Mine
end

-- part Pq
section
set_option Elab.async false
set_option maxRecDepth 100000
set_option maxHeartbeats 4000000
namespace Mine
section
variable {tx sa : List Nat}
theorem rot_inj (h36 : 36 ∉ tx) : ∀ i j, i < (tx ++ [36]).length → j < (tx ++ [36]).length → rotL (tx ++ [36]) i = rotL (tx ++ [36]) j → i = j := by
  have hn : (tx ++ [36]).length = tx.length + 1 := by simp
  have key : ∀ i j, i < j → j < (tx ++ [36]).length → rotL (tx ++ [36]) i ≠ rotL (tx ++ [36]) j := by
    intro i j hij hj e
    have h1 : (rotL (tx ++ [36]) j)[tx.length - j]? = some 36 := by
      unfold rotL
      rw [List.getElem?_append_left (by rw [List.length_drop]; omega), List.getElem?_drop, show j + (tx.length - j) = tx.length by omega, List.getElem?_append_right (Nat.le_refl _)]
      simp
    rw [← e] at h1
    unfold rotL at h1
    rw [List.getElem?_append_left (by rw [List.length_drop]; omega), List.getElem?_drop, List.getElem?_append_left (by omega)] at h1
    exact h36 (List.mem_of_getElem? h1)
  intro i j hi hj e
  rcases Nat.lt_trichotomy i j with q | q | q
  · exact absurd e (key i j q hj)
  · exact q
  · exact absurd e.symm (key j i q hi)

def qi (n i : Nat) : Nat := if i < n then n - 1 - i else n - 1
def ri (wh : List Nat) (i : Nat) : Nat := idx wh (qi wh.length i)
theorem idx_top (h97 : ∀ c ∈ tx, 97 ≤ c) : idx (tx ++ [36]) tx.length = 0 := by
  unfold idx cnt
  rw [List.filter_eq_nil_iff.mpr]
  · rfl
  · intro p hp h
    have hp := List.mem_range.mp hp
    have hn : (tx ++ [36]).length = tx.length + 1 := by simp
    have h := of_decide_eq_true h
    have e : rotL (tx ++ [36]) tx.length = 36 :: tx := by
      unfold rotL; simp
    rw [e] at h
    by_cases q : p < tx.length
    · have e2 : rotL (tx ++ [36]) p = tx[p] :: (rotL (tx ++ [36]) p).drop 1 := by
        unfold rotL
        rw [List.drop_append_of_le_length (by omega), List.drop_eq_getElem_cons q]; rfl
      rw [e2, lt_cons] at h
      have := h97 tx[p] (by simp)
      omega
    · obtain rfl : p = tx.length := by omega
      rw [e] at h
      exact List.lt_irrefl _ h
theorem qi_lt {n i : Nat} (h : 0 < n) : qi n i < n := by unfold qi; split <;> omega
theorem ri_get (hS : SA (tx ++ [36]) sa) (i : Nat) : (lastL (tx ++ [36]) sa).getD (ri (tx ++ [36]) i) 0 = lc (tx ++ [36]) (qi (tx ++ [36]).length i) := by
  have hq : qi (tx ++ [36]).length i < (tx ++ [36]).length := qi_lt (by simp)
  rw [List.getD_eq_getElem?_getD, ri, last_get hS _ _ (row_idx hS hq)]; rfl
theorem ri_step (hS : SA (tx ++ [36]) sa) (i : Nat) (hi : i < (tx ++ [36]).length) :
    ri (tx ++ [36]) i < (tx ++ [36]).length ∧ bef (lastL (tx ++ [36]) sa) ((lastL (tx ++ [36]) sa).getD (ri (tx ++ [36]) i) 0) (ri (tx ++ [36]) i) = (ri (tx ++ [36]) (i + 1) : Int) := by
  have hq : qi (tx ++ [36]).length i < (tx ++ [36]).length := qi_lt (by simp)
  refine ⟨?_, ?_⟩
  · have := (List.getElem?_eq_some_iff.mp (row_idx hS hq)).1
    rw [sa_len hS] at this; exact this
  · rw [ri_get hS]
    have := lf hS hq
    rw [ri, this]
    have e : prv (tx ++ [36]).length (qi (tx ++ [36]).length i) = qi (tx ++ [36]).length (i + 1) := by
      unfold prv qi
      rw [if_pos hi]
      by_cases h1 : i + 1 < (tx ++ [36]).length
      · rw [if_pos h1, if_neg (by omega)]; omega
      · rw [if_neg h1, if_pos (by omega)]
    rw [e]; rfl
theorem ri_zero (h97 : ∀ c ∈ tx, 97 ≤ c) : ri (tx ++ [36]) 0 = 0 := by
  have hn : (tx ++ [36]).length = tx.length + 1 := by simp
  have : qi (tx ++ [36]).length 0 = tx.length := by unfold qi; rw [hn]; simp
  rw [ri, this]; exact idx_top h97
theorem ri_last (h97 : ∀ c ∈ tx, 97 ≤ c) : ri (tx ++ [36]) (tx ++ [36]).length = 0 := by
  have hn : (tx ++ [36]).length = tx.length + 1 := by simp
  have : qi (tx ++ [36]).length (tx ++ [36]).length = tx.length := by unfold qi; rw [if_neg (Nat.lt_irrefl _), hn]; simp
  rw [ri, this]; exact idx_top h97
theorem ri_perm (hS : SA (tx ++ [36]) sa) : ((List.range (tx ++ [36]).length).map fun i => (ri (tx ++ [36]) i : Int)).Perm ((List.range (tx ++ [36]).length).map Int.ofNat) := by
  generalize hwh : tx ++ [36] = wh at hS
  have e1 : (List.range wh.length).map (ri wh) = ((List.range wh.length).reverse).map (idx wh) := by
    apply List.ext_getElem?
    intro i
    rw [List.getElem?_map, List.getElem?_map]
    by_cases hi : i < wh.length
    · rw [List.getElem?_range hi, List.getElem?_reverse (by rw [List.length_range]; exact hi), List.length_range, List.getElem?_range (by omega)]
      show some (ri wh i) = some (idx wh (wh.length - 1 - i))
      unfold ri qi
      rw [if_pos hi]
    · rw [List.getElem?_eq_none (by simpa using hi), List.getElem?_eq_none (by simpa using hi)]; rfl
  have e2 : sa.map (idx wh) = List.range wh.length := by
    apply List.ext_getElem?
    intro i
    rw [List.getElem?_map]
    by_cases hi : i < wh.length
    · have hi' : i < sa.length := by rw [sa_len hS]; exact hi
      rw [List.getElem?_range hi, List.getElem?_eq_getElem hi', Option.map_some, idx_row hS (r := i) (by simp)]
    · rw [List.getElem?_eq_none (by rw [sa_len hS]; omega), List.getElem?_eq_none (by simpa using hi)]; rfl
  have p : ((List.range wh.length).map (ri wh)).Perm (List.range wh.length) := by
    rw [e1]
    refine (((List.reverse_perm _).trans hS.perm.symm).map (idx wh)).trans ?_
    rw [e2]
  have := p.map Int.ofNat
  rw [List.map_map] at this
  exact this
theorem lc_val {q : Nat} (hq : q < (tx ++ [36]).length) : lc (tx ++ [36]) q = if q = 0 then 36 else tx.getD (q - 1) 0 := by
  have hn : (tx ++ [36]).length = tx.length + 1 := by simp
  have h3 := congrArg (fun l : List Nat => l[0]?) (rot_prv hq)
  have h3 : (rotL (tx ++ [36]) (prv (tx ++ [36]).length q))[0]? = some (lc (tx ++ [36]) q) := h3
  have hp := prv_lt hq
  unfold rotL at h3
  rw [List.getElem?_append_left (by rw [List.length_drop]; omega), List.getElem?_drop, Nat.add_zero] at h3
  unfold prv at h3
  by_cases h0 : q = 0
  · rw [if_pos h0, hn, Nat.add_sub_cancel, List.getElem?_append_right (Nat.le_refl _)] at h3
    rw [if_pos h0]
    simpa using h3.symm
  · rw [if_neg h0, List.getElem?_append_left (by omega)] at h3
    rw [if_neg h0, List.getD_eq_getElem?_getD, h3]; rfl
theorem spelled_is (hS : SA (tx ++ [36]) sa) : ((List.range (tx ++ [36]).length).map fun i => (lastL (tx ++ [36]) sa).getD (ri (tx ++ [36]) i) 0).reverse = 36 :: tx := by
  have hn : (tx ++ [36]).length = tx.length + 1 := by simp
  apply List.ext_getElem?
  intro i
  by_cases hi : i < (tx ++ [36]).length
  · rw [List.getElem?_reverse (by simpa using hi), List.length_map, List.length_range, List.getElem?_map, List.getElem?_range (by omega), Option.map_some, ri_get hS, lc_val (qi_lt (by omega))]
    have e : qi (tx ++ [36]).length ((tx ++ [36]).length - 1 - i) = i := by unfold qi; rw [if_pos (by omega)]; omega
    rw [e]
    cases i with
    | zero => rfl
    | succ i =>
      rw [if_neg (by omega), List.getElem?_cons_succ, Nat.add_sub_cancel, List.getD_eq_getElem?_getD, List.getElem?_eq_getElem (by omega)]; rfl
  · rw [List.getElem?_eq_none (by simpa using hi), List.getElem?_eq_none (by rw [List.length_cons]; omega)]
theorem lf_rows (hS : SA (tx ++ [36]) sa) : ∀ r q c : Nat, sa[r]? = some (q + 1) → (lastL (tx ++ [36]) sa)[r]? = some c → ∃ r' : Nat, sa[r']? = some q ∧ bef (lastL (tx ++ [36]) sa) c (r : Int) = (r' : Int) := by
  intro r q c hr hc
  have hq := sa_lt hS hr
  have h1 := last_get hS r _ hr
  rw [h1] at hc
  obtain rfl := Option.some.inj hc
  have h2 := lf hS hq
  rw [idx_row hS hr] at h2
  have e : prv (tx ++ [36]).length (q + 1) = q := by unfold prv; rw [if_neg (by omega)]; omega
  rw [e] at h2
  exact ⟨idx (tx ++ [36]) q, row_idx hS (by omega), h2⟩
end
end Mine
end

-- part J1
section
open PySem PySem.W PySem.Calls PyProof.Rows
set_option Elab.async false
set_option maxRecDepth 100000
set_option maxHeartbeats 8000000
set_option pp.maxSteps 300
set_option pp.deepTerms false
namespace Mine
theorem warmJ1 : (∀ P, _root_.hd.heap_39 P = _root_.hd.heap_39 P) ∧ PySem.Challenge.rw_dj5002_01 = PySem.Challenge.rw_dj5002_01 := by
  k_fill
  exact ⟨fun _ => rfl, rfl⟩
local macro_rules | `(tactic| walk_at "look") => `(tactic| first | with_reducible assumption | exact upd_eq | (refine upd_ne (by decide) ?_; walk_at "look") | exact if_pos rfl | (refine Eq.trans (if_neg (by decide)) ?_; walk_at "look"))
local macro_rules | `(tactic| walk_at "eval Name") => `(tactic| (k_here; k_dflt (first
  | (refine' nmL ?F ?e ?a ?b ?d ?v ?_; (case F => k_asm); (case e => rfl); (case a => rfl); (case b => rfl); (case d => decide); (case v => walk_at "look"); k_whole)
  | (refine' nmC ?F ?a ?b ?c ?o ?d ?e ?_; (case F => k_asm); (case a => rfl); (case b => rfl); (case c => rfl); (case o => exact News.get (by k_asm) (by k_mem)); (case d => k_asm); (case e => decide); k_whole)
  | (refine' nmB ?F ?X ?T ?g ?bb ?a ?b ?d ?e ?v ?n ?_; (case F => k_asm); (case X => k_asm); (case T => k_asm); (case g => rfl); (case bb => rfl); (case a => rfl); (case b => rfl); (case d => decide); (case e => k_is); (case v => boot_fast); (case n => decide); k_whole)
  | (refine' nmK ?F ?X ?T ?g ?a ?b ?d ?e ?_; (case F => k_asm); (case X => k_asm); (case T => k_asm); (case g => rfl); (case a => rfl); (case b => rfl); (case d => decide); (case e => k_is); k_whole))))
local macro_rules | `(tactic| walk_at "loadName") => `(tactic| (k_here; k_dflt (refine' ldn ?F ?v ?_ ?a ?b; (case F => k_asm); (case a => rfl); (case b => rfl); (case v => walk_at "look"); k_whole)))
local macro_rules | `(tactic| walk_at "stop") => `(tactic| first
  | (with_reducible show InvPostN _ _ _ _ _ _ _ _ _)
  | (with_reducible show InvEndN _ _ _ _ _ _ _)
  | (with_reducible show wpAny _ _ (eval (Expr.ListComp _ _ _ _) _) _ _ _)
  | (with_reducible show wpAny _ _ (pyIter _) _ _ _)
  | (with_reducible show wpAny _ _ (exec (Stmt.For _ _ _ _ _) _) _ _ _)
  | (with_reducible show wpAny _ _ (exec (Stmt.While _ _ _ _) _) _ _ _)
  | (with_reducible show wpAny _ _ (call (Value.ref _) _ _) _ _ _)
  | (with_reducible show wpAny _ _ (call (Value.builtin "sorted") _ _) _ _ _)
  | (with_reducible show wpAny _ _ (call (Value.builtin "str.join") _ _) _ _ _)
  | (with_reducible show wpAny _ _ (subscriptTail _ _ (Value.str _ _) (Value.int _ _)) _ _ _)
  | (with_reducible show wpAny _ _ (compareOp CmpOp.NotIn _ (Value.ref _)) _ _ _))
local macro_rules | `(tactic| walk_at "steps") => `(tactic| repeat (first | (k_unfold; (try dsimp only)) | ((fail_if_success walk_at "stop"); walk1) | ((fail_if_success walk_at "stop"); dsimp only; (fail_if_success walk_at "stop"); walk1)))
local macro_rules | `(tactic| walk_at "rest") => `(tactic| (with_reducible show wpAny _ _ (execs _ _) _ _ _))
local macro_rules | `(tactic| walk_at "stmt") => `(tactic| repeat ((fail_if_success walk_at "rest"); first | (k_unfold; (try dsimp only)) | ((fail_if_success walk_at "stop"); walk1) | ((fail_if_success walk_at "stop"); dsimp only; (fail_if_success walk_at "stop"); walk1)))
local macro_rules | `(tactic| walk_at "one") => `(tactic| first | (k_unfold; (try dsimp only)) | ((fail_if_success walk_at "stop"); walk1) | ((fail_if_success walk_at "stop"); dsimp only; (fail_if_success walk_at "stop"); walk1))
local macro_rules | `(tactic| walk_at "loadName") => `(tactic| (k_here; k_dflt (refine' ldA ?F ?e ?a ?b ?v ?_; (case F => k_asm); (case e => rfl); (case a => rfl); (case b => rfl); (case v => walk_at "look"); k_whole)))
local macro_rules | `(tactic| k_all) => `(tactic| first | exact List.forall_mem_nil _ | with_reducible assumption | (refine' List.forall_mem_cons.mpr ⟨?a, ?b⟩; (case a => k_ne); (case b => k_all)))
local macro_rules | `(tactic| walk_at "stop") => `(tactic| first | (with_reducible show InvPostG _ _ _ _ _ _ _ _) | (with_reducible show wpAny _ _ (setItem _ _ _) _ _ _) | (with_reducible show wpAny _ _ (subscriptTail _ _ (Value.ref _) (Value.str _ _)) _ _ _) | (with_reducible show wpAny _ _ (call (Value.builtin "list.append") _ _) _ _ _) | (with_reducible show wpAny _ _ (call (Value.builtin "len") [Value.ref _]) _ _ _) | (with_reducible show wpAny _ _ (getMethod (Value.ref _) _ _) _ _ _))
theorem txt_range {sz : Nat} {xs : List Int} (h4 : sz ≤ 4) (h2 : 2 ≤ sz) : ∀ c ∈ txtN sz xs, 97 ≤ c ∧ c ≤ 100 := by
  intro c hc
  obtain ⟨x, _, rfl⟩ := List.mem_map.mp hc
  have := Nat.mod_lt x.natAbs (show 0 < sz by omega)
  omega
theorem news_sub {g h : Heap} {L : Addr} {A B : List (Addr × Obj)} (N : News g L h A) (hs : ∀ p ∈ B, p ∈ A) : News g L h B := fun p hp => N p (hs p hp)

/-- what the ledger holds, as the functions read it -/
theorem fm_of {w : World} {last sa : List Nat} {P Ls K : Addr} {oP oL oK : Obj} {es : List Ent} {kvL : List (Str × Value)} {kvK : List (Int × Value)} {tg : List (Addr × Obj)} (Y : PlacesOK w last P oP es tg) (hL : (Ls, oL) ∈ tg) (hK : (K, oK) ∈ tg) (nL : (Ls == sysModules) = false) (nK : (K == sysModules) = false)
    (dL : oL.IsDictOf (PySem.strKind PG w) kvL) (hless : ∀ c ∈ last, ∃ u, valueAt kvL (CS c) = some (.int (lessI last c) u)) (dK : oK.IsDictOf (intKind PG w) kvK) (hkv : KeptKV sa sa.length kvK) :
    ∀ h : Heap, (∀ p ∈ tg, h.get? p.1 = some p.2) → FM w h P Ls K last sa := fun h hh => by
  refine ⟨⟨valueAt (es.map Ent.kv), (Heap.dictOf_iff.mpr ⟨oP, hh _ Y.hm, Y.hd⟩).mapOf, fun c hc => ?_, fun c hc => ?_⟩, ⟨valueAt kvL, (Heap.dictOf_iff.mpr ⟨oL, hh _ hL, dL⟩).mapOf, hless⟩, ⟨valueAt kvK, (Heap.dictOf_iff.mpr ⟨oK, hh _ hK, dK⟩).mapOf, fun i q hq => ?_⟩, Y.ns, nL, nK⟩
  · obtain ⟨e, he, hec⟩ := List.mem_map.mp (Y.all c hc)
    refine ⟨e.a, e.vs, (valueAt_ents (c := c) Y.nd).1 e he hec, ⟨_, hh _ (Y.he e he), rfl, _, rfl⟩, ?_⟩
    rw [← hec]; exact Y.pos e he
  · refine (valueAt_ents (c := c) Y.nd).2 fun h => hc ?_
    obtain ⟨e, he, rfl⟩ := List.mem_map.mp h
    exact Y.mem e he
  · exact hkv.2.2 i q (List.getElem?_eq_some_iff.mp hq).1 hq

theorem words_ok {tx wh sa : List Nat} {sz : Nat} (hw : wh = tx ++ [36]) (hr : ∀ c ∈ tx, 97 ≤ c ∧ c ≤ 100) (h4 : 4 ≤ tx.length) (h16 : tx.length ≤ 16) (hS : SA wh sa) (hsz : sz ≤ 4) :
    (∀ x ∈ wordsL tx wh (letN sz), WordOK wh (lastL wh sa) sa x) ∧ ∀ a b, WordOK wh (lastL wh sa) sa ((tx.drop a).take b) := by
  have h36 : 36 ∉ tx := fun h => by have := hr 36 h; omega
  have hn : wh.length = tx.length + 1 := by rw [hw]; simp
  have ok : ∀ wd : List Nat, wd.length ≤ tx.length + 1 → 36 ∉ wd.dropLast → WordOK wh (lastL wh sa) sa wd := fun wd h1 h2 => word_ok hw h36 (by omega) hS (by omega) h2
  have hlet : ∀ a ∈ letN sz, 97 ≤ a := fun a ha => by
    obtain ⟨i, _, rfl⟩ := List.mem_map.mp ha; omega
  refine ⟨fun x hx => ?_, fun a b => ok _ (by rw [List.length_take, List.length_drop]; omega) fun h => h36 (List.mem_of_mem_drop (List.mem_of_mem_take (List.dropLast_subset _ h)))⟩
  unfold wordsL at hx
  simp only [List.mem_append, List.mem_cons, List.not_mem_nil, or_false] at hx
  rcases hx with ((h | h | h | h | h | h) | h) | h
  · subst h; exact ok _ (Nat.zero_le _) (by simp)
  · subst h; exact ok _ (by simp) (by simp)
  · subst h; exact ok _ (by simp) (by simp)
  · subst h; exact ok _ (by omega) fun h => h36 (List.dropLast_subset _ h)
  · subst h; exact ok _ (by omega) (by rw [hw, List.dropLast_concat]; exact h36)
  · subst h; exact ok _ (by rw [List.length_append, List.length_take, List.length_singleton]; omega) (by rw [List.dropLast_concat]; exact fun h => h36 (List.mem_of_mem_take h))
  · obtain ⟨a, _, rfl⟩ := List.mem_map.mp h
    exact ok _ (by simp) (by simp)
  · obtain ⟨a, ha, h⟩ := List.mem_flatMap.mp h
    obtain ⟨b, _, rfl⟩ := List.mem_map.mp h
    refine ok _ (by simp; omega) fun h => ?_
    have h : 36 ∈ [a] := h
    have := hlet a ha
    have := List.mem_singleton.mp h
    omega

theorem words_len {tx wh : List Nat} {sz : Nat} (hsz : sz ≤ 4) : (wordsL tx wh (letN sz)).length ≤ 26 := by
  have hll : (letN sz).length = sz := by simp [letN]
  unfold wordsL
  rw [List.length_append, List.length_append, List.length_map, List.length_flatMap]
  simp only [List.length_map, List.map_const', hll, List.sum_replicate_nat, List.length_cons, List.length_nil]
  have : sz * sz ≤ 4 * 4 := Nat.mul_le_mul hsz hsz
  omega
end Mine
end

-- part J2
section
open PySem PySem.W PySem.Calls PyProof.Rows
set_option Elab.async false
set_option maxRecDepth 100000
set_option maxHeartbeats 8000000
set_option pp.maxSteps 300
set_option pp.deepTerms false
namespace Mine
theorem warmJ2 : (∀ P, _root_.hd.heap_39 P = _root_.hd.heap_39 P) ∧ PySem.Challenge.rw_dj5002_01 = PySem.Challenge.rw_dj5002_01 := by
  k_fill
  exact ⟨fun _ => rfl, rfl⟩
local macro_rules | `(tactic| walk_at "look") => `(tactic| first | with_reducible assumption | exact upd_eq | (refine upd_ne (by decide) ?_; walk_at "look") | exact if_pos rfl | (refine Eq.trans (if_neg (by decide)) ?_; walk_at "look"))
local macro_rules | `(tactic| walk_at "eval Name") => `(tactic| (k_here; k_dflt (first
  | (refine' nmL ?F ?e ?a ?b ?d ?v ?_; (case F => k_asm); (case e => rfl); (case a => rfl); (case b => rfl); (case d => decide); (case v => walk_at "look"); k_whole)
  | (refine' nmC ?F ?a ?b ?c ?o ?d ?e ?_; (case F => k_asm); (case a => rfl); (case b => rfl); (case c => rfl); (case o => exact News.get (by k_asm) (by k_mem)); (case d => k_asm); (case e => decide); k_whole)
  | (refine' nmB ?F ?X ?T ?g ?bb ?a ?b ?d ?e ?v ?n ?_; (case F => k_asm); (case X => k_asm); (case T => k_asm); (case g => rfl); (case bb => rfl); (case a => rfl); (case b => rfl); (case d => decide); (case e => k_is); (case v => boot_fast); (case n => decide); k_whole)
  | (refine' nmK ?F ?X ?T ?g ?a ?b ?d ?e ?_; (case F => k_asm); (case X => k_asm); (case T => k_asm); (case g => rfl); (case a => rfl); (case b => rfl); (case d => decide); (case e => k_is); k_whole))))
local macro_rules | `(tactic| walk_at "loadName") => `(tactic| (k_here; k_dflt (refine' ldn ?F ?v ?_ ?a ?b; (case F => k_asm); (case a => rfl); (case b => rfl); (case v => walk_at "look"); k_whole)))
local macro_rules | `(tactic| walk_at "stop") => `(tactic| first
  | (with_reducible show InvPostN _ _ _ _ _ _ _ _ _)
  | (with_reducible show InvEndN _ _ _ _ _ _ _)
  | (with_reducible show wpAny _ _ (eval (Expr.ListComp _ _ _ _) _) _ _ _)
  | (with_reducible show wpAny _ _ (pyIter _) _ _ _)
  | (with_reducible show wpAny _ _ (exec (Stmt.For _ _ _ _ _) _) _ _ _)
  | (with_reducible show wpAny _ _ (exec (Stmt.While _ _ _ _) _) _ _ _)
  | (with_reducible show wpAny _ _ (call (Value.ref _) _ _) _ _ _)
  | (with_reducible show wpAny _ _ (call (Value.builtin "sorted") _ _) _ _ _)
  | (with_reducible show wpAny _ _ (call (Value.builtin "str.join") _ _) _ _ _)
  | (with_reducible show wpAny _ _ (subscriptTail _ _ (Value.str _ _) (Value.int _ _)) _ _ _)
  | (with_reducible show wpAny _ _ (compareOp CmpOp.NotIn _ (Value.ref _)) _ _ _))
local macro_rules | `(tactic| walk_at "steps") => `(tactic| repeat (first | (k_unfold; (try dsimp only)) | ((fail_if_success walk_at "stop"); walk1) | ((fail_if_success walk_at "stop"); dsimp only; (fail_if_success walk_at "stop"); walk1)))
local macro_rules | `(tactic| walk_at "rest") => `(tactic| (with_reducible show wpAny _ _ (execs _ _) _ _ _))
local macro_rules | `(tactic| walk_at "stmt") => `(tactic| repeat ((fail_if_success walk_at "rest"); first | (k_unfold; (try dsimp only)) | ((fail_if_success walk_at "stop"); walk1) | ((fail_if_success walk_at "stop"); dsimp only; (fail_if_success walk_at "stop"); walk1)))
local macro_rules | `(tactic| walk_at "one") => `(tactic| first | (k_unfold; (try dsimp only)) | ((fail_if_success walk_at "stop"); walk1) | ((fail_if_success walk_at "stop"); dsimp only; (fail_if_success walk_at "stop"); walk1))
theorem nodup_len : ∀ {a b : List Nat}, a.Nodup → (∀ c ∈ a, c ∈ b) → a.length ≤ b.length
  | [], _, _, _ => Nat.zero_le _
  | x :: a, b, h, hs => by
    have h2 := List.nodup_cons.mp h
    obtain ⟨p, q, rfl⟩ := List.append_of_mem (hs x (.head _))
    have := nodup_len (b := p ++ q) h2.2 fun c hc => by
      have := hs c (.tail _ hc)
      simp only [List.mem_append, List.mem_cons] at this ⊢
      rcases this with r | rfl | r
      · exact .inl r
      · exact absurd hc h2.1
      · exact .inr r
    simp only [List.length_append, List.length_cons] at this ⊢
    omega
theorem law_walk {w : World} {A : Around} {E : Value → Shared → Prop} {s : Shared} {g : Heap} {p : Program} {loose : List Str} {mg mb : Str → Option Value} {Q : Flow → Shared → Prop} {L fa : Addr} {cd : Value} {m : Str → Option Value} {o1 o2 o3 o4 o5 o6 o7 o8 : Obj} {l : Addr} {vs : List Value} {ns : List Int} (X : (hd.heap_39 w.params).In g) (T : TopRead p loose mg mb g) (hA : A.handled = none) (hE : E = fun _ _ => False) (hdep : A.depth + 3 < recursionLimit) (hu : A.units + 64 < cLine)
    (hl : g.IsList l vs.toArray) (hI : IntsAre vs ns) (hn : ns.length ≤ 63) (F : Fr g L s.heap m) (N : News g L s.heap [(L+1+1+1+1+1+1+1+1, o8), (L+1+1+1+1+1+1+1, o7), (L+1+1+1+1+1+1, o6), (L+1+1+1+1+1, o5), (L+1+1+1+1, o4), (L+1+1+1, o3), (L+1+1, o2), (L+1, o1)]) (ms : m "script" = some (.ref l))
    (d1 : o1.data = .cell none) (d2 : o2.data = .cell none) (d3 : o3.data = .cell none) (d4 : o4.data = .cell none) (d5 : o5.data = .cell none) (d6 : o6.data = .cell none) (d7 : o7.data = .cell none) (d8 : o8.data = .cell none)
    (hQ : ∀ h' tk m', Fr g L h' m' → Q (.ret (.bool true)) { s with heap := h', toks := tk }) :
    wpAny (model PG w) A (execs (lawBody.drop 0) (lawEnv L fa cd)) Q E s := by
  refine seg1 X T hA hl hI hn F N ms d1 d2 fun h1 tk1 m1 o1 o2 sz u1 u2 hs2 hs4 F1 N1 ms1 d1 d2 => ?_
  clear F N
  refine seg2 X T hA hl hI hn F1 N1 hs2 hs4 ms1 d1 d2 fun h2 tk2 m2 xs u3 hx4 hx16 F2 N2 ms2 mt2 => ?_
  clear F1 N1
  have hr := txt_range (xs := xs) hs4 hs2
  have hxl : (txtN sz xs).length = xs.length := by simp [txtN]
  generalize htx : txtN sz xs = tx at mt2 hr hxl
  have h36 : 36 ∉ tx := fun h => by have := hr 36 h; omega
  have h97 : ∀ c ∈ tx, 97 ≤ c := fun c hc => (hr c hc).1
  refine seg3 X T hA F2 N2 (by omega) mt2 (fun h3 tk3 m3 u4 u5 o3 F3 N3 hm3 d3 mc3 => ?_) d3
  clear F2 N2
  have hwl : (tx ++ [36]).length = tx.length + 1 := by simp
  refine seg4 X T hA (by omega) F3 N3 (by omega) (by omega) (rot_inj h36) d3 mc3 fun h4 tk4 m4 D vsR cR prs sa F4 N4 hm4 mr4 hR hS => ?_
  clear F3 N3
  have hll := last_len hS
  have hsl := sa_len hS
  have hlp := last_perm hS
  refine seg5 X T hA (u2 := u4) F4 N4 (by omega) (by omega) hR hS mr4 d4 fun h5 tk5 m5 o4 u6 F5 N5 hm5 d4 => ?_
  clear F4 N4
  have hseq : ∀ p ∈ (D, listOf (List.toArray vsR) cR) :: prs, ∃ v n, p.2.data = .seq v n := fun p hp => by
    rcases List.mem_cons.mp hp with rfl | hp
    · exact ⟨_, _, rfl⟩
    · exact hR.seq p hp
  have hoffD := off_cell (tl := (D, listOf (List.toArray vsR) cR) :: prs) N5 hseq (fun p hp => by simp only [List.mem_cons] at hp ⊢; rcases hp with h | h <;> simp [h]) (c := L+1+1+1+1+1) (o := o5) (by simp) d5
  refine seg6 X T hA (tl := (D, listOf (List.toArray vsR) cR) :: prs) F5 N5 d5 hoffD fun h6 tk6 o5 K oK F6 N6 d5 hnsK hdK hoffK => ?_
  clear F5 N5
  have mc5 : m5 "count" = some (.int ((tx ++ [36]).length : Nat) u5) := (hm5 _).trans ((hm4 _ (by decide)).trans mc3)
  have mr5 : m5 "rotations" = some (.ref D) := (hm5 _).trans mr4
  refine seg7 X T hA hE F6 N6 (by omega) (by omega) hoffK hR hS mr5 mc5 d5 hnsK hdK fun h7 tk7 m7 oK kvK F7 N7 hm7 hdK hkvK => ?_
  clear F6 N6
  have N7' : News g L h7 ((L+1+1+1+1+1+1+1+1, o8) :: (L+1+1+1+1+1+1+1, o7) :: (L+1+1+1+1+1+1, o6) :: (L+1+1+1+1+1, o5) :: (L+1+1+1+1, o4) :: (L+1+1+1, o3) :: (L+1+1, o2) :: (L+1, o1) :: [(K, oK)]) := news_sub N7 fun p hp => by
    simp only [List.mem_cons, List.not_mem_nil, or_false] at hp ⊢
    rcases hp with h | h | h | h | h | h | h | h | h <;> simp [h]
  have hK6 : K ≠ L+1+1+1+1+1+1 := (hoffK (L+1+1+1+1+1+1, o6) (by simp)).symm
  have hK7 : K ≠ L+1+1+1+1+1+1+1 := (hoffK (L+1+1+1+1+1+1+1, o7) (by simp)).symm
  have hK8 : K ≠ L+1+1+1+1+1+1+1+1 := (hoffK (L+1+1+1+1+1+1+1+1, o8) (by simp)).symm
  refine seg8 X T hA (tl := [(K, oK)]) F7 N7' d6 (fun p hp => by rw [List.mem_singleton.mp hp]; exact hK6) fun h8 tk8 o6 P oP F8 N8 d6 hnsP hdP hoffP => ?_
  clear F7 N7 N7'
  have mc7 : m7 "count" = some (.int ((lastL (tx ++ [36]) sa).length : Nat) u5) := by rw [hll]; exact (hm7 _ (by decide)).trans mc5
  refine seg9 X T hA hE (tl := [(K, oK)]) F8 N8 (by omega) hoffP mc7 d4 d6 hnsP hdP fun h9 tk9 m9 oP es F9 N9 hm9 hdP hPI => ?_
  clear F8 N8
  generalize htf : (P, oP) :: (es.map Ent.o ++ [(K, oK)]) = tf
  have N9' : News g L h9 ((L+1+1+1+1+1+1+1+1, o8) :: (L+1+1+1+1+1+1+1, o7) :: (L+1+1+1+1+1+1, o6) :: (L+1+1+1+1+1, o5) :: (L+1+1+1+1, o4) :: (L+1+1+1, o3) :: (L+1+1, o2) :: (L+1, o1) :: tf) := news_sub N9 fun p hp => by
    subst htf
    simp only [List.mem_cons, List.mem_append, List.not_mem_nil, or_false] at hp ⊢
    rcases hp with h | h | h | h | h | h | h | h | h | h | h <;> simp [h]
  have hlel : es.length ≤ (lastL (tx ++ [36]) sa).length := by
    have h1 := hPI.nd
    have h2 : ∀ c ∈ es.map (·.c), c ∈ lastL (tx ++ [36]) sa := fun c hc => by
      obtain ⟨e, he, rfl⟩ := List.mem_map.mp hc
      exact hPI.mem e he
    have := nodup_len h1 h2
    rwa [List.length_map] at this
  have Y : PlacesOK w (lastL (tx ++ [36]) sa) P oP es tf := by
    subst htf
    exact ⟨by simp, fun e he => by simp only [List.mem_cons, List.mem_append]; exact .inr (.inl (List.mem_map.mpr ⟨e, he, rfl⟩)), hdP, hnsP, by simpa using hPI.pos, hPI.mem, by simpa using hPI.all, hPI.nd, hlel⟩
  have hcell : ∀ (k : Addr) (o : Obj), (k, o) ∈ ((L+1+1+1+1+1+1+1+1, o8) :: (L+1+1+1+1+1+1+1, o7) :: (L+1+1+1+1+1+1, o6) :: (L+1+1+1+1+1, o5) :: (L+1+1+1+1, o4) :: (L+1+1+1, o3) :: (L+1+1, o2) :: (L+1, o1) :: [(K, oK)]) → K ≠ k → ∀ p ∈ tf, p.1 ≠ k := fun k o hk hKk p hp => by
    subst htf
    simp only [List.mem_cons, List.mem_append, List.not_mem_nil, or_false] at hp
    rcases hp with h | h | h
    · rw [h]; exact (hoffP (k, o) hk).symm
    · obtain ⟨e, he, rfl⟩ := List.mem_map.mp h
      exact (hPI.aR e he (k, o) hk).symm
    · rw [h]; exact hKk
  have ht7 := hcell (L+1+1+1+1+1+1+1) o7 (by simp) hK7
  have ht8 := hcell (L+1+1+1+1+1+1+1+1) o8 (by simp) hK8
  have hKtf : (K, oK) ∈ tf := by subst htf; simp
  clear N9 htf hcell hoffP
  refine seg12 X T hA (tl := tf) F9 N9' d7 ht7 fun h12 tk12 m12 o7 Ls oL u7 F12 N12 hm12 mtot d7 hnsL hdL hoffL => ?_
  clear F9 N9'
  refine seg14 X T hA hE F12 N12 (by omega) hoffL Y mtot d6 d7 hnsL hdL fun h14 tk14 m14 oL kvL F14 N14 hm14 hdL hless => ?_
  clear F12 N12
  have hL8 : Ls ≠ L+1+1+1+1+1+1+1+1 := (hoffL (L+1+1+1+1+1+1+1+1, o8) (by simp)).symm
  generalize htg : (Ls, oL) :: tf = tg
  have N14' : News g L h14 ((L+1+1+1+1+1+1+1+1, o8) :: (L+1+1+1+1+1+1+1, o7) :: (L+1+1+1+1+1+1, o6) :: (L+1+1+1+1+1, o5) :: (L+1+1+1+1, o4) :: (L+1+1+1, o3) :: (L+1+1, o2) :: (L+1, o1) :: tg) := news_sub N14 fun p hp => by
    subst htg
    simp only [List.mem_cons] at hp ⊢
    rcases hp with h | h | h | h | h | h | h | h | h | h <;> simp [h]
  have hg8 : ∀ p ∈ tg, p.1 ≠ L+1+1+1+1+1+1+1+1 := fun p hp => by
    subst htg
    rcases List.mem_cons.mp hp with rfl | hp
    · exact hL8
    · exact ht8 p hp
  have Y' : PlacesOK w (lastL (tx ++ [36]) sa) P oP es tg := by
    subst htg
    exact ⟨.tail _ Y.hm, fun e he => .tail _ (Y.he e he), Y.hd, Y.ns, Y.pos, Y.mem, Y.all, Y.nd, Y.len⟩
  have FMh := fm_of (w := w) (sa := sa) Y' (Ls := Ls) (oL := oL) (K := K) (oK := oK) (by subst htg; simp) (by subst htg; exact .tail _ hKtf) hnsL hnsK hdL hless hdK (by rw [hsl]; exact hkvK)
  clear N14 htg
  refine seg15 X T hA (tl := tg) hu F14 N14' (by omega) hlp (fun c hc => ?_) d3 d4 fun h15 tk15 F15 N15 => ?_
  · rcases List.mem_append.mp hc with h | h
    · have := hr c h; omega
    · have := List.mem_singleton.mp h; omega
  clear F14 N14'
  refine seg16 X T hA (tl := tg) F15 N15 fun h16 tk16 m16 Sn u8 u9 F16 N16 hoffS hm16 mrow mseen mspel => ?_
  clear F15 N15
  have up16 : ∀ y : Str, y ≠ Str.ofString "row" → y ≠ Str.ofString "seen" → y ≠ Str.ofString "spelled" → y ≠ Str.ofString "sign" → y ≠ Str.ofString "total" → y ≠ Str.ofString "p" → y ≠ Str.ofString "rotations" → y ≠ Str.ofString "count" → m16 y = m2 y := fun y a1 a2 a3 a4 a5 a6 a7 a8 =>
    (hm16 y a1 a2 a3).trans ((hm14 y a4 a5).trans ((hm12 y a5).trans ((hm9 y a6).trans ((hm7 y a1).trans ((hm5 y).trans ((hm4 y a7).trans (hm3 y a8)))))))
  have mc16 : m16 "count" = some (.int ((tx ++ [36]).length : Nat) u5) := (hm16 _ (by decide) (by decide) (by decide)).trans ((hm14 _ (by decide) (by decide)).trans ((hm12 _ (by decide)).trans ((hm9 _ (by decide)).trans ((hm7 _ (by decide)).trans mc5))))
  have ms16 : m16 "script" = some (.ref l) := (up16 _ (by decide) (by decide) (by decide) (by decide) (by decide) (by decide) (by decide) (by decide)).trans ms2
  have mt16 : m16 "text" = some (.str ⟨tx.toArray⟩ u3) := (up16 _ (by decide) (by decide) (by decide) (by decide) (by decide) (by decide) (by decide) (by decide)).trans mt2
  refine seg19 X T hA hE (by omega) F16 N16 (n := (tx ++ [36]).length) hll (by omega) hoffS FMh (ri := ri (tx ++ [36])) (ri_zero h97) (fun i hi => ri_step hS i hi) mrow mseen mspel mc16 d4 d6 d7 fun h19 tk19 m19 vsS cS u10 u11 F19 N19 hm19 hIS mrow mspel => ?_
  clear F16 N16
  rw [ri_last h97] at mrow
  rw [spelled_is hS] at mspel
  refine seg20 X T hA hu F19 N19 (n := (tx ++ [36]).length) (by omega) hIS (ri_perm hS) mrow ((hm19 _ (by decide) (by decide) (by decide)).trans mseen) mspel ((hm19 _ (by decide) (by decide) (by decide)).trans mc16) ((hm19 _ (by decide) (by decide) (by decide)).trans mt16) (by omega) fun h20 tk20 F20 N20 => ?_
  clear F19 N19
  refine seg21 X T hA (tl := tg) F20 N20 (by omega) (by omega) hs4 ((hm19 _ (by decide) (by decide) (by decide)).trans mt16) d2 d3 fun h21 tk21 m21 W vsW cW F21 N21 hoffW hm21 mw hSW => ?_
  clear F20 N20
  have hwo := words_ok (sz := sz) rfl hr (by omega) (by omega) hS hs4
  have mc21 : m21 "count" = some (.int ((tx ++ [36]).length : Nat) u5) := (hm21 _ (by decide)).trans ((hm19 _ (by decide) (by decide) (by decide)).trans mc16)
  refine seg22 X T hA hE hl hI hn ((hm21 _ (by decide)).trans ((hm19 _ (by decide) (by decide) (by decide)).trans ms16)) F21 N21 hoffW (P := WordOK (tx ++ [36]) (lastL (tx ++ [36]) sa) sa) (by omega) (by omega) ((hm21 _ (by decide)).trans ((hm19 _ (by decide) (by decide) (by decide)).trans mt16)) mw hSW (words_len hs4) hwo.1 ⟨_, rfl⟩ hwo.2
    fun h22 tk22 m22 vsW ws cW F22 N22 hm22 hSW hwsl hwsP hwsn => ?_
  clear F21 N21
  have N22' : News g L h22 ((L+1+1+1+1+1+1+1+1, o8) :: (L+1+1+1+1+1+1+1, o7) :: (L+1+1+1+1+1+1, o6) :: (L+1+1+1+1+1, o5) :: (L+1+1+1+1, o4) :: (L+1+1+1, o3) :: (L+1+1, o2) :: (L+1, o1) :: (W, listOf (List.toArray vsW) cW) :: tg) := news_sub N22 fun p hp => by
    simp only [List.mem_cons] at hp ⊢
    rcases hp with h | h | h | h | h | h | h | h | h | h <;> simp [h]
  refine seg23 X T hA (tl := (W, listOf (List.toArray vsW) cW) :: tg) F22 N22' fun h23 tk23 m23 u12 F23 N23 hm23 mrt => ?_
  clear F22 N22 N22'
  have N23' : News g L h23 ((W, listOf (List.toArray vsW) cW) :: ((L+1+1+1+1+1+1+1+1, o8) :: (L+1+1+1+1+1+1+1, o7) :: (L+1+1+1+1+1+1, o6) :: (L+1+1+1+1+1, o5) :: (L+1+1+1+1, o4) :: (L+1+1+1, o3) :: (L+1+1, o2) :: (L+1, o1) :: tg)) := news_sub N23 fun p hp => by
    simp only [List.mem_cons] at hp ⊢
    rcases hp with h | h | h | h | h | h | h | h | h | h <;> simp [h]
  have hW8 : W ≠ L+1+1+1+1+1+1+1+1 := (hoffW (L+1+1+1+1+1+1+1+1, o8) (by simp)).symm
  refine seg24 X T hA hE hdep hu F23 N23' (n := (tx ++ [36]).length) rfl hll (by omega) (fun p hp => by
      rcases List.mem_cons.mp hp with rfl | hp
      · exact hW8
      · exact hg8 p hp) FMh (by omega) (lf_rows hS) ((hm23 _ (by decide)).trans ((hm22 _ (by decide) (by decide)).trans mc21)) ((hm23 _ (by decide)).trans ((hm22 _ (by decide) (by decide)).trans mw)) mrt d3 d4 d5 d6 d7 d8 hSW hwsP hwsn
    fun h24 tk24 m24 o8 k24 u13 hk24 F24 N24 mc24 mr24 => ?_
  clear F23 N23 N23'
  have N25 : News g L h24 [(L+1+1+1+1+1+1+1+1, o8), (L+1+1+1+1+1+1+1, o7), (L+1+1+1+1+1+1, o6), (L+1+1+1+1+1, o5), (L+1+1+1+1, o4), (L+1+1+1, o3), (L+1+1, o2), (L+1, o1)] := news_sub N24 fun p hp => by
    simp only [List.mem_cons, List.not_mem_nil, or_false] at hp ⊢
    rcases hp with h | h | h | h | h | h | h | h <;> simp [h]
  refine seg25 X T hA F24 N25 hk24 mc24 mr24 fun h25 tk25 F25 => ?_
  exact hQ h25 tk25 m24 F25
end Mine
end
open PySem PySem.W PySem.W.X PySem.Calls PyProof.Rows
set_option maxRecDepth 100000 in
set_option maxHeartbeats 8000000 in
theorem PySem.Challenge.cw_dj5002_01_holds : PySem.Challenge.rw_dj5002_01.Holds := by
 exact hd (by
  k_go0
  show wpAny (model Mine.PG _) (callerA.deeper _) (execs (Mine.lawBody.drop 0) (Mine.lawEnv _ _ _)) _ _ _
  refine wpAny_noRaise ?_
  (with_reducible rename Fr _ _ _ _ => F)
  (with_reducible rename News _ _ _ _ => N0)
  (with_reducible rename IntsAre _ _ => hI)
  (with_reducible rename Top _ _ _ _ _ _ => T)
  (with_reducible rename Heap.IsList _ _ _ => hL)
  refine' Mine.law_walk ?X (topRead_of T) ?hA rfl ?hdep ?hu hL hI ?hn F N0 ?ms ?d1 ?d2 ?d3 ?d4 ?d5 ?d6 ?d7 ?d8 ?hQ
  case X => assumption
  case hA => rfl
  case hdep => simp only [depth_deeper, depth_caller]; decide
  case hu => simp only [units_deeper, units_caller, cLine_is]; decide
  case hn => omega
  case ms => rfl
  case d1 => assumption
  case d2 => assumption
  case d3 => assumption
  case d4 => assumption
  case d5 => assumption
  case d6 => assumption
  case d7 => assumption
  case d8 => assumption
  case hQ =>
    intro h' tk m' F'
    wrow_close)

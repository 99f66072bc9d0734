import PyProof.Rows.All
import Wide.All
import OpenK.AllK
import Wide.FinOn
import PyProof.ListRange
import PyProof.CollectIter
import Lean
import PySem.Challenge.RW_be0026_01
open PySem PySem.W PyProof.Rows
set_option Elab.async false
set_option maxRecDepth 100000
set_option maxHeartbeats 8000000
set_option compiler.extract_closed false
open_top hd for PySem.Challenge.rw_be0026_01
namespace Mine
open PySem PySem.W PySem.Spec PySem.Calls PyProof.Rows

section

abbrev Led := List (Addr × Obj)

/-- no object of the one ledger stands at an address of the other -/
def Off (lv rest : Led) : Prop := ∀ p ∈ lv, ∀ q ∈ rest, p.1 ≠ q.1
noncomputable def updAt (r : Addr) (o : Obj) (l : Led) : Led := l.map fun p => if p.1 = r then (r, o) else p

theorem updAt_fst (r : Addr) (o : Obj) (l : Led) : (updAt r o l).map (·.1) = l.map (·.1) := by
  unfold updAt
  rw [List.map_map]
  apply List.map_congr_left
  intro p _
  by_cases h : p.1 = r
  · simp [h]
  · simp [h]
theorem Off.congr {lv lv' rest : Led} (h : Off lv rest) (e : lv'.map (·.1) = lv.map (·.1)) : Off lv' rest := by
  intro p hp q hq
  have : p.1 ∈ lv'.map (·.1) := List.mem_map_of_mem hp
  rw [e] at this
  obtain ⟨p', hp', e'⟩ := List.mem_map.mp this
  rw [← e']
  exact h p' hp' q hq
theorem Off.sub {lv rest rest' : Led} (h : Off lv rest) (hs : ∀ p ∈ rest', p ∈ rest) : Off lv rest' := fun p hp q hq => h p hp q (hs q hq)
theorem Off.app {lv r1 r2 : Led} (h1 : Off lv r1) (h2 : Off lv r2) : Off lv (r1 ++ r2) := fun p hp q hq => (List.mem_append.mp hq).elim (h1 p hp q) (h2 p hp q)
theorem Off.cons {lv r2 : Led} {x : Addr × Obj} (h1 : ∀ p ∈ lv, p.1 ≠ x.1) (h2 : Off lv r2) : Off lv (x :: r2) := fun p hp q hq => by
  rcases List.mem_cons.mp hq with rfl | hq
  · exact h1 p hp
  · exact h2 p hp q hq
theorem updAt_self {r : Addr} {o o0 : Obj} {l : Led} (h : (r, o0) ∈ l) : (r, o) ∈ updAt r o l := by
  refine List.mem_map.mpr ⟨(r, o0), h, ?_⟩
  simp
theorem updAt_other {r : Addr} {o : Obj} {l : Led} {p : Addr × Obj} (h : p ∈ l) (hn : p.1 ≠ r) : p ∈ updAt r o l := by
  refine List.mem_map.mpr ⟨p, h, ?_⟩
  simp [hn]
theorem news_upd {h₀ h h' : Heap} {L r : Addr} {o o' : Obj} {lv rest : Led} (N : News h₀ L h (lv ++ rest)) (hr : (r, o) ∈ lv) (ho : Off lv rest) (hs : Heap.SameBut r h h') (hg : h'.get? r = some o') :
    News h₀ L h' (updAt r o' lv ++ rest) := by
  intro p hp
  rcases List.mem_append.mp hp with hp | hp
  · obtain ⟨q, hq, e⟩ := List.mem_map.mp hp
    have hN := N q (List.mem_append_left _ hq)
    by_cases c : q.1 = r
    · rw [if_pos c] at e
      subst e
      exact ⟨hg, c ▸ hN.2.1, c ▸ hN.2.2⟩
    · rw [if_neg c] at e
      subst e
      exact ⟨(hs.2 q.1 c).trans hN.1, hN.2⟩
  · have hN := N p (List.mem_append_right _ hp)
    exact ⟨(hs.2 p.1 (ho _ hr p hp).symm).trans hN.1, hN.2⟩

theorem nodup_inj {α : Type} {l : List α} (h : l.Nodup) {i j : Nat} (hi : i < l.length) (hj : j < l.length) (e : l[i] = l[j]) : i = j := by
  unfold List.Nodup at h
  rw [List.pairwise_iff_getElem] at h
  rcases Nat.lt_trichotomy i j with c | c | c
  · exact absurd e (h i j hi hj c)
  · exact c
  · exact absurd e.symm (h j i hj hi c)

/-- a list of ints: place j holds g j -/
def RowIs (vs : List Value) (q : Nat) (g : Int → Int) : Prop := vs.length = q ∧ ∀ j : Nat, j < q → ∃ t, vs[j]? = some (.int (g j) t)

structure LevC (lv : Led) (a : Addr) (p q : Nat) (G : Int → Int → Int) (ra : List Addr) : Prop where
  len : ra.length = p
  top : ∃ n0, (a, listOf (ra.map Value.ref).toArray n0) ∈ lv
  nd : ra.Nodup
  off : a ∉ ra
  rows : ∀ (i : Nat) r, ra[i]? = some r → ∃ vs n, (r, listOf vs.toArray n) ∈ lv ∧ RowIs vs q (G i)

def LevAt (lv : Led) (a : Addr) (p q : Nat) (G : Int → Int → Int) : Prop := ∃ ra, LevC lv a p q G ra
def RowA (lv : Led) (a : Addr) (p q : Nat) (G : Int → Int → Int) (k : Int) (r : Addr) : Prop := 0 ≤ k ∧ ∃ ra, LevC lv a p q G ra ∧ ra[k.toNat]? = some r
noncomputable def setG (G : Int → Int → Int) (i j v : Int) : Int → Int → Int := fun x y => if x = i ∧ y = j then v else G x y

section
variable {prog : Program} {w : World} {A : Around} {E : Value → Shared → Prop} {s : Shared} {h₀ : Heap} {L a r : Addr} {m : Str → Option Value} {news lv rest : Led} {p q : Nat} {G : Int → Int → Int} {k j x : Int} {t u : Tok}

theorem isList_of {h : Heap} {vs : List Value} {n : Nat} (h1 : h.get? a = some (listOf vs.toArray n)) : h.IsList a vs.toArray := ⟨_, h1, rfl, n, rfl⟩

theorem LevAt.row (C : LevAt lv a p q G) (h0 : 0 ≤ k) (h1 : k < p) : ∃ r, RowA lv a p q G k r := by
  obtain ⟨ra, C⟩ := C
  have hk : k.toNat < ra.length := by rw [C.len]; lia
  exact ⟨ra[k.toNat], h0, ra, C, by simp [hk]⟩

theorem lev_item {value slice : PySem.Expr} {Q : Value → Shared → Prop} (N : News h₀ L s.heap news) (C : LevAt lv a p q G) (hsub : ∀ z ∈ lv, z ∈ news) (h0 : 0 ≤ k) (h1 : k < p) (hp : (p : Int) < 2 ^ 62)
    (h : ∀ r, RowA lv a p q G k r → Q (.ref r) s)
    (hs : subscripted slice false (.ref a) (.int k u) = operate [.ref a, .int k u] (getItem (.ref a) (.int k u)) := by with_unfolding_all rfl) (hg : ∀ r, letTemporaryGo value (.ref a) r = pure () := by intro _; with_unfolding_all rfl) :
    wpAny (model prog w) A (subscriptTail value slice (.ref a) (.int k u)) Q E s := by
  obtain ⟨ra, C⟩ := C
  have hk : k.toNat < ra.length := by rw [C.len]; lia
  obtain ⟨n0, ht⟩ := C.top
  refine item_listL (l := ra.map Value.ref) (isList_of (N _ (hsub _ ht)).1) h0 (by lia) (x := .ref ra[k.toNat]) (by simp [hk]) (h _ ⟨h0, ra, C, by simp [hk]⟩) hs hg

theorem row_item {value slice : PySem.Expr} {Q : Value → Shared → Prop} (N : News h₀ L s.heap news) (C : RowA lv a p q G k r) (hsub : ∀ z ∈ lv, z ∈ news) (h0 : 0 ≤ j) (h1 : j < q) (hq : (q : Int) < 2 ^ 62)
    (h : ∀ t, Q (.int (G k j) t) s)
    (hs : subscripted slice false (.ref r) (.int j u) = operate [.ref r, .int j u] (getItem (.ref r) (.int j u)) := by with_unfolding_all rfl) (hg : ∀ z, letTemporaryGo value (.ref r) z = pure () := by intro _; with_unfolding_all rfl) :
    wpAny (model prog w) A (subscriptTail value slice (.ref r) (.int j u)) Q E s := by
  obtain ⟨hk0, ra, C, hr⟩ := C
  obtain ⟨vs, n, hm, hl, hv⟩ := C.rows _ _ hr
  obtain ⟨t, ht⟩ := hv j.toNat (by lia)
  rw [Int.toNat_of_nonneg hk0, Int.toNat_of_nonneg h0] at ht
  exact item_listL (isList_of (N _ (hsub _ hm)).1) h0 (by lia) ht (h t) hs hg

theorem row_len (N : News h₀ L s.heap news) (C : RowA lv a p q G k r) (hsub : ∀ z ∈ lv, z ∈ news) : ∃ vs : List Value, s.heap.IsList r vs.toArray ∧ vs.length = q := by
  obtain ⟨hk0, ra, C, hr⟩ := C
  obtain ⟨vs, n, hm, hl, hv⟩ := C.rows _ _ hr
  exact ⟨vs, isList_of (N _ (hsub _ hm)).1, hl⟩
theorem lev_len (N : News h₀ L s.heap news) (C : LevAt lv a p q G) (hsub : ∀ z ∈ lv, z ∈ news) : ∃ vs : List Value, s.heap.IsList a vs.toArray ∧ vs.length = p := by
  obtain ⟨ra, C⟩ := C
  obtain ⟨n0, ht⟩ := C.top
  exact ⟨_, isList_of (N _ (hsub _ ht)).1, by rw [List.length_map, C.len]⟩

theorem LevC.set {ra : List Addr} {i : Nat} {o : Obj} {vs : List Value} {n : Nat} (C : LevC lv a p q G ra) (hr : ra[i]? = some r) (hm : (r, o) ∈ lv) (hv : RowIs vs q (setG G i j x i)) :
    LevC (updAt r (listOf vs.toArray n) lv) a p q (setG G i j x) ra where
  len := C.len
  top := by
    obtain ⟨n0, ht⟩ := C.top
    refine ⟨n0, updAt_other ht ?_⟩
    intro e
    have e' : a = r := e
    exact C.off (e' ▸ List.mem_of_getElem? hr)
  nd := C.nd
  off := C.off
  rows := fun i' r' h' => by
    by_cases c : i' = i
    · subst c
      rw [hr] at h'
      cases h'
      exact ⟨vs, n, updAt_self hm, hv⟩
    · obtain ⟨vs', n', hm', hl', hv'⟩ := C.rows i' r' h'
      refine ⟨vs', n', updAt_other hm' ?_, hl', fun j' hj' => ?_⟩
      · intro e
        have e' : r' = r := e
        subst e'
        obtain ⟨h1, e1⟩ := List.getElem?_eq_some_iff.mp h'
        obtain ⟨h2, e2⟩ := List.getElem?_eq_some_iff.mp hr
        exact c (nodup_inj C.nd h1 h2 (e1.trans e2.symm))
      · obtain ⟨t, ht⟩ := hv' j' hj'
        refine ⟨t, ?_⟩
        rw [ht]
        unfold setG
        rw [if_neg (by lia)]

theorem rowIs_set {vs : List Value} {g : Int → Int} (hv : RowIs vs q g) (h0 : 0 ≤ j) (v : Int) (tv : Tok) : RowIs (vs.set j.toNat (.int v tv)) q (fun y => if y = j then v else g y) := by
  refine ⟨by rw [List.length_set]; exact hv.1, fun i hi => ?_⟩
  by_cases c : (i : Int) = j
  · refine ⟨tv, ?_⟩
    have e : j.toNat = i := by lia
    simp only [e, if_pos c]
    have : i < vs.length := by rw [hv.1]; exact hi
    simp [this]
  · obtain ⟨t, ht⟩ := hv.2 i hi
    refine ⟨t, ?_⟩
    simp only [if_neg c]
    rw [← ht]
    apply List.getElem?_set_ne
    lia

theorem row_set {Q : Unit → Shared → Prop} {v : Int} {tv : Tok} (F : Fr h₀ L s.heap m) (N : News h₀ L s.heap news) (C : RowA lv a p q G k r) (ho : Off lv rest) (hsub : ∀ z ∈ lv ++ rest, z ∈ news) (h0 : 0 ≤ j) (h1 : j < q) (hq : (q : Int) < 2 ^ 62)
    (h : ∀ h' lv', Fr h₀ L h' m → News h₀ L h' (lv' ++ rest) → LevAt lv' a p q (setG G k j v) → lv'.map (·.1) = lv.map (·.1) → Q () { s with heap := h' }) :
    wpAny (model prog w) A (setItem (.ref r) (.int j u) (.int v tv)) Q E s := by
  obtain ⟨hk0, ra, C, hr⟩ := C
  obtain ⟨vs, n, hm, hv⟩ := C.rows _ _ hr
  have N' : News h₀ L s.heap (lv ++ rest) := fun z hz => N z (hsub z hz)
  have z := N' _ (List.mem_append_left _ hm)
  have hsz : vs.toArray.size = q := by rw [List.size_toArray]; exact hv.1
  have hS := Heap.SameBut.update s.heap r (Obj.mapSeq (·.setIfInBounds j.toNat (.int v tv)))
  refine ki_setAt z.1 h0 (by lia) (by rw [hsz]; exact h1) (h _ _ (F.change hS z.2.1 z.2.2) (news_upd N' hm ho hS (o' := listOf (vs.set j.toNat (.int v tv)).toArray n) ?_) ⟨ra, ?_⟩ (updAt_fst ..))
  · have q1 := PySem.IsL.update z.1 (·.setIfInBounds j.toNat (.int v tv))
    rw [q1]
    have e1 : vs.toArray.setIfInBounds j.toNat (.int v tv) = (vs.set j.toNat (.int v tv)).toArray := by
      apply Array.toList_inj.mp
      simp
    simp only [e1]
    simp
  · have hG : setG G k j v = setG G ((k.toNat : Nat) : Int) j v := by rw [Int.toNat_of_nonneg hk0]
    rw [hG]
    refine C.set hr hm ?_
    have := rowIs_set hv h0 v tv
    refine ⟨this.1, fun i hi => ?_⟩
    obtain ⟨t, ht⟩ := this.2 i hi
    refine ⟨t, ?_⟩
    rw [ht]
    unfold setG
    by_cases c : (i : Int) = j
    · simp [c]
    · simp [c]
end

section
variable {prog : Program} {w : World} {A A₀ : Around} {s : Shared} {K : Frag} {L : Addr} {h₀ base : Heap} {m mg mb : Str → Option Value} {news : Led} {p : Program} {loose : List Str} {mean : ExcName → Option Value}
/-- a call of a def of the text whose body raises nothing -/
theorem enter_def {env : Env} {outer : List Env} {R : Result → Shared → Prop} {name qual : Str} {params : Arguments} {body : List Stmt} {scope : Scope} {dV kV doc pm cdv ct oc : Value} {an od : Option Addr} {osl : Array (Option Value)} {f : Addr} {args : Args} {binds : List (Str × Value)}
    (B : Below A₀ base outer h₀) (F : Fr h₀ L s.heap m) (X₀ : K.In h₀) (N : News h₀ L s.heap news) (T : Top p loose mean mg mb h₀) (hA : A.frames = some (env :: outer)) (hf : env.frame = some L) (hke : env.scope.kind = .function)
    (ho : K.lookup f = some ⟨oc, od, .func (fnOf name qual params body scope dV kV doc pm an cdv ct), osl⟩) (hcd : codeIn K cdv qual = true) (hroom : A.depth < recursionLimit)
    (hbind : BindsTo s (fnOf name qual params body scope dV kV doc pm an cdv ct) args binds) (hloc : ∀ y ∈ binds, scope.names.lookup y.1 = some .local)
    (h : ∀ g L' h₁, Fr h₀ L g m → Fr g L' h₁ (fun y => binds.reverse.lookup y) → News g L' h₁ news → Below A base (env :: outer) g → K.In g → Top p loose mean mg mb g →
      wpAny (model prog w) (A.deeper (envOf qual scope L' f cdv)) (execs body (envOf qual scope L' f cdv))
        (fun fl s' => LeaveK h₀ L m g R (match fl with | .ret v => v | _ => .none) s') (fun _ _ => False) { s with heap := h₁, toks := s.toks + binds.length })
    (hco : scope.isCoroutine = false) (hgen : scope.isGenerator = false) (hk : scope.kind = .function)
    (hcell : ∀ x ∈ scope.names, x.2 ≠ .cell) : codeAny (model prog w) A (.call (.ref f) args) R s :=
  code_def B F X₀ N T hA hf hke ho hcd hroom hbind hloc (fun g L' h₁ a b c d e f' => wpAny_mono (h g L' h₁ a b c d e f') (fun _ _ x => x) fun _ _ x => x.elim) hco hgen hk hcell
end

theorem Off.symm {a b : Led} (h : Off a b) : Off b a := fun p hp q hq e => h q hq p hp e.symm
theorem Off.appL {a b c : Led} (h1 : Off a c) (h2 : Off b c) : Off (a ++ b) c := (Off.app h1.symm h2.symm).symm
theorem Off.subL {a b c : Led} (h : Off a c) (hs : ∀ p ∈ b, p ∈ a) : Off b c := fun p hp q hq => h p (hs p hp) q hq
theorem Off.below {l : Led} {r : Addr} {o : Obj} (h : AllLt r l) : Off [(r, o)] l := fun p hp q hq e => by
  rw [List.mem_singleton.mp hp] at e
  exact Nat.lt_irrefl _ (e ▸ kst_ltOf h q hq)
theorem allLt_mk {l : Led} {r : Addr} (h : ∀ p ∈ l, p.1 < r) : AllLt r l := allLt_of h
theorem allLt_sub {l l' : Led} {r : Addr} (h : AllLt r l) (hs : ∀ p ∈ l', p ∈ l) : AllLt r l' := allLt_of fun p hp => kst_ltOf h p (hs p hp)

section
variable {prog : Program} {w : World} {A : Around} {E : Value → Shared → Prop} {s : Shared} {h₀ : Heap} {L a r : Addr} {m : Str → Option Value} {news lv rest : Led} {p q : Nat} {G : Int → Int → Int}
theorem LevC.append {ra : List Addr} {n0 : Nat} {vs : List Value} {n : Nat} (C : LevC lv a p q G ra) (ht : (a, listOf (ra.map Value.ref).toArray n0) ∈ lv) (hb : AllLt r lv) (hv : RowIs vs q (G p)) :
    LevC ((r, listOf vs.toArray n) :: updAt a (listOf ((ra.map Value.ref).toArray.push (.ref r)) (n0 + 1)) lv) a (p + 1) q G (ra ++ [r]) where
  len := by rw [List.length_append, C.len]; rfl
  top := by
    refine ⟨n0 + 1, List.mem_cons_of_mem _ ?_⟩
    have e : ((ra ++ [r]).map Value.ref).toArray = (ra.map Value.ref).toArray.push (.ref r) := by simp
    rw [e]
    exact updAt_self ht
  nd := by
    refine List.nodup_append.mpr ⟨C.nd, by simp, fun x hx y hy e => ?_⟩
    rw [List.mem_singleton.mp hy] at e
    subst e
    obtain ⟨i, hi⟩ := List.getElem?_of_mem hx
    obtain ⟨vs', n', hm', _⟩ := C.rows i x hi
    exact Nat.lt_irrefl _ (kst_ltOf hb _ hm')
  off := by
    intro hm
    rcases List.mem_append.mp hm with hm | hm
    · exact C.off hm
    · have e := List.mem_singleton.mp hm
      exact Nat.lt_irrefl _ (e ▸ kst_ltOf hb _ ht)
  rows := fun i r' h' => by
    by_cases c : i < ra.length
    · rw [List.getElem?_append_left c] at h'
      obtain ⟨vs', n', hm', hv'⟩ := C.rows i r' h'
      refine ⟨vs', n', List.mem_cons_of_mem _ (updAt_other hm' ?_), hv'⟩
      intro e
      have e' : r' = a := e
      exact C.off (e' ▸ List.mem_of_getElem? h')
    · have hi : i = p := by
        obtain ⟨h1, _⟩ := List.getElem?_eq_some_iff.mp h'
        rw [List.length_append, C.len] at h1
        rw [C.len] at c
        have : [r].length = 1 := rfl
        lia
      subst hi
      rw [List.getElem?_append_right (by rw [C.len]; exact Nat.le_refl _), C.len, Nat.sub_self] at h'
      cases h'
      exact ⟨vs, n, .head _, hv⟩
theorem lev_append {Q : Value → Shared → Prop} {vs : List Value} {n : Nat} (F : Fr h₀ L s.heap m) (N : News h₀ L s.heap news) (C : LevAt lv a p q G) (ho : Off lv rest) (hsub : ∀ z ∈ lv ++ rest, z ∈ news) (hr : (r, listOf vs.toArray n) ∈ news)
    (hb : AllLt r (lv ++ rest)) (hv : RowIs vs q (G p)) (hp : p < 1000)
    (h : ∀ h' lv', Fr h₀ L h' m → News h₀ L h' (lv' ++ rest) → LevAt lv' a (p + 1) q G → Off lv' rest → Q .none { s with heap := h' }) :
    wpAny (model prog w) A (call (.builtin "list.append") [.ref a, .ref r]) Q E s := by
  obtain ⟨ra, C⟩ := C
  obtain ⟨n0, ht⟩ := C.top
  have N' : News h₀ L s.heap (lv ++ rest) := fun z hz => N z (hsub z hz)
  have z := N' _ (List.mem_append_left _ ht)
  have zr := N _ hr
  have har : r ≠ a := fun e => Nat.lt_irrefl _ (e ▸ kst_ltOf hb _ (List.mem_append_left _ ht))
  have hb1 : AllLt r lv := allLt_sub hb fun p hp => List.mem_append_left _ hp
  have hb2 : AllLt r rest := allLt_sub hb fun p hp => List.mem_append_right _ hp
  have hz : (ra.map Value.ref).toArray.size ≤ sizeLine := by
    rw [List.size_toArray, List.length_map, C.len]
    exact Nat.le_trans (Nat.le_of_lt hp) (by decide)
  refine append_at (hsz := hz) z.1 fun h' hs hg => ?_
  · refine h h' _ (F.change hs z.2.1 z.2.2) ?_ ⟨_, C.append (n := n) ht hb1 hv⟩ ?_
    · intro x hx
      rcases List.mem_cons.mp hx with rfl | hx
      · exact ⟨(hs.2 r har).trans zr.1, zr.2⟩
      · exact news_upd N' ht ho hs hg x hx
    · intro x hx y hy
      rcases List.mem_cons.mp hx with rfl | hx
      · exact Off.below hb2 _ (.head _) y hy
      · exact ho.congr (updAt_fst ..) x hx y hy
end

theorem rowIs_ints {vs : List Value} {ns : List Int} {q : Nat} {g : Int → Int} (h : IntsAre vs ns) (hl : ns.length = q) (hg : ∀ j : Nat, j < q → ns[j]? = some (g j)) : RowIs vs q g := by
  refine ⟨by rw [h.length]; exact hl, fun j hj => ?_⟩
  exact h.get j _ (hg j hj)
theorem rowIs_zeros {q : Nat} {tk : Tok} : RowIs (List.replicate ((q : Int)).toNat [Value.int 0 tk]).flatten q (fun _ => 0) := by
  have e : ∀ n : Nat, (List.replicate n [Value.int 0 tk]).flatten = List.replicate n (Value.int 0 tk) := fun n => by
    induction n with
    | zero => rfl
    | succ n ih => rw [List.replicate_succ, List.flatten_cons, ih]; rfl
  rw [e, Int.toNat_natCast]
  refine ⟨List.length_replicate .., fun j hj => ⟨tk, ?_⟩⟩
  rw [List.getElem?_replicate, if_pos hj]

/-- the walk stops here: what follows is done by hand -/
structure Stop (p : Prop) : Prop where
  out : p

/-- the end of a turn of a loop -/
structure TurnEnd (h₀ : Heap) (L : Addr) (J : (Str → Option Value) → Led → Prop) (own : Led) (s₁ s₂ : Shared) : Prop where
  out : ∃ h' tk m' news' nx, s₂ = { s₁ with heap := h', toks := tk } ∧ Fr h₀ L h' m' ∧ News h₀ L h' news' ∧ (∀ p ∈ nx, p ∈ news') ∧ (∀ p ∈ own, p ∈ news') ∧ Off own nx ∧ J m' nx
def TurnPost (h₀ : Heap) (L : Addr) (J : (Str → Option Value) → Led → Prop) (own : Led) (s₁ : Shared) (Q : Flow → Shared → Prop) (f : Flow) (s₂ : Shared) : Prop :=
  match f with
  | .ret v => Q (.ret v) s₂
  | .brk => Q .next s₂
  | _ => TurnEnd h₀ L J own s₁ s₂
theorem TurnPost.next {h₀ : Heap} {L : Addr} {J : (Str → Option Value) → Led → Prop} {own : Led} {s₁ s₂ : Shared} {Q : Flow → Shared → Prop} (h : TurnEnd h₀ L J own s₁ s₂) : TurnPost h₀ L J own s₁ Q .next s₂ := h
theorem TurnEnd.intro {h₀ : Heap} {L : Addr} {J : (Str → Option Value) → Led → Prop} {own : Led} {s₁ : Shared} {h' : Heap} {tk : Nat} {m' : Str → Option Value} {news' nx : Led} (F : Fr h₀ L h' m') (N : News h₀ L h' news')
    (hn : ∀ p ∈ nx, p ∈ news') (ho : ∀ p ∈ own, p ∈ news') (ha : Off own nx) (hj : J m' nx) : TurnEnd h₀ L J own s₁ { s₁ with heap := h', toks := tk } := ⟨h', tk, m', news', nx, rfl, F, N, hn, ho, ha, hj⟩

section
variable {prog : Program} {w : World} {A : Around} {E : Value → Shared → Prop} {s : Shared} {env : Env} {h₀ : Heap} {x : Str} {body : List Stmt} {Q : Flow → Shared → Prop} {m₀ : Str → Option Value} {news : Led}

theorem fits {z : Int} (h1 : -3000 < z) (h2 : z < 3000) : Builtin.Range.rangeFitsLong z = true := by
  unfold Builtin.Range.rangeFitsLong
  simp only [Bool.and_eq_true, decide_eq_true_eq]
  lia
theorem range_of {a b : Int} {n : Nat} (ha : -1000 < a ∧ a < 1000) (hb : -1000 < b ∧ b < 1000) (hn : (b - a).toNat = n) : Builtin.Range.rangeSize a b 1 = (n : Int) ∧ Builtin.Range.small a b 1 = true := by
  have hsz : Builtin.Range.rangeSize a b 1 = (n : Int) := by
    unfold Builtin.Range.rangeSize
    rw [if_pos (by decide)]
    by_cases c : a < b
    · rw [if_pos c, Int.ediv_one]; lia
    · rw [if_neg c]; lia
  refine ⟨hsz, ?_⟩
  unfold Builtin.Range.small
  rw [hsz, fits (z := a) (by lia) (by lia), fits (z := b) (by lia) (by lia), fits (z := 1) (by decide) (by decide), fits (z := n) (by lia) (by lia), if_pos (by decide), fits (by lia) (by lia)]
  exact Bool.or_true _
theorem range_loop {r : Addr} {a b : Int} {t u v : Tok} {n : Nat} (J : Nat → (Str → Option Value) → Led → Prop)
    (hh : A.handled = none) (hr : IsRange s.heap r a b 1 t u v) (ha : -1000 < a ∧ a < 1000) (hb : -1000 < b ∧ b < 1000) (hn : (b - a).toNat = n) (F : Fr h₀ env.locals s.heap m₀) (N : News h₀ env.locals s.heap news) (hj : J 0 m₀ news)
    (turn : ∀ (i : Nat) t m₁ nx h tk own, i < n → Off own nx → J i m₁ nx → Fr h₀ env.locals h (fun y => if y = x then some (.int (a + i) t) else m₁ y) → News h₀ env.locals h (nx ++ own) →
      ∀ TP : Flow → Shared → Prop, (∀ s₂, TurnEnd h₀ env.locals (J (i + 1)) own { s with heap := h, toks := tk } s₂ → TP .next s₂) →
      wpAny (model prog w) A (execs body env) TP E { s with heap := h, toks := tk })
    (done : ∀ m₁ nx h tk, J n m₁ nx → Fr h₀ env.locals h m₁ → News h₀ env.locals h nx → Q .next { s with heap := h, toks := tk }) :
    wpAny (model prog w) A (pyIter (.ref r)) (fun it s₂ => LoopAtV prog w A h₀ env x body Q E it s₂) E s := by
  have hsz := (range_of ha hb hn).1
  have hsmall := (range_of ha hb hn).2
  refine wpAny_pyIter_range hr hsmall ?_
  have W : Walks prog w A s.heap.objs.size [s.heap.objs.size] [s.heap.objs.size] n (fun i v => i < n ∧ ∃ t, v = .int (a + i * 1) t)
      (fun i h => IsRangeIter h s.heap.objs.size (a + (i : Nat) * 1) ((n : Int) - (i : Nat)) 1) := (Walks.range hh _ a 1 n).bound
  refine kdr_loop J W (fun _ h => h) (fun _ h => h) ?_ ?_ ?_ ?_ (by show IsRangeIter _ _ _ _ _; rw [hsz]; simpa using Heap.get?_push_size _ rfl) (F.push _) (fun p hp => ⟨Heap.get?_push_of_some _ (N p hp).1, (N p hp).2⟩) hj ?_ ?_
  · intro i h hi b hb
    rw [List.mem_singleton.mp hb]
    exact ⟨_, hi⟩
  · intro hm
    exact absurd F.ns.lt ((List.mem_singleton.mp hm) ▸ Nat.lt_irrefl _)
  · intro b hb
    rw [List.mem_singleton.mp hb]
    exact next_is_new F
  · intro p hp hI
    exact absurd (Heap.lt_size (N p hp).1) ((List.mem_singleton.mp hI) ▸ Nat.lt_irrefl _)
  · rintro i v m₁ nx h tk own hi ⟨_, t, rfl⟩ hoff hJ F₁ N₁
    rw [Int.mul_one] at F₁
    refine wpAny_mono (turn i t m₁ nx h tk own hi (fun p hp q hq => hoff p hp q.1 (List.mem_map_of_mem hq)) hJ F₁ N₁ (TurnPost h₀ env.locals (J (i + 1)) own { s with heap := h, toks := tk } Q) (fun _ h => h)) (fun f s₂ hp => ?_) fun _ _ e => e
    have fin : TurnEnd h₀ env.locals (J (i + 1)) own { s with heap := h, toks := tk } s₂ → InvEndG h₀ env.locals (J (i + 1)) own { s with heap := h, toks := tk } s₂ := by
      rintro ⟨h', tk, m', news', nx', e, F', N', hn, ho, ha, hm⟩
      refine ⟨h', tk, m', news', nx', e, F', N', hn, ho, fun p hp b hb => ?_, hm⟩
      obtain ⟨q, hq, rfl⟩ := List.mem_map.mp hb
      exact ha p hp q hq
    cases f with
    | ret v => exact hp
    | brk => exact hp
    | next => exact fin hp
    | cont => exact fin hp
  · exact fun m₁ nx h tk hJ F' N' => done m₁ nx h tk hJ F' N'
end

theorem turn_lv {h₀ : Heap} {L : Addr} {J : (Str → Option Value) → Led → Prop} {own lv lv' rest : Led} {s₁ : Shared} {h' : Heap} {tk : Nat} {m' : Str → Option Value} (F : Fr h₀ L h' m') (N : News h₀ L h' (lv' ++ (rest ++ own)))
    (hoff : Off own (lv ++ rest)) (ho : Off lv' (rest ++ own)) (hj : J m' (lv' ++ rest)) : TurnEnd h₀ L J own s₁ { s₁ with heap := h', toks := tk } :=
  TurnEnd.intro F N (fun p hp => by rw [← List.append_assoc]; exact List.mem_append_left _ hp) (fun p hp => List.mem_append_right _ (List.mem_append_right _ hp))
    (Off.app (ho.sub fun p hp => List.mem_append_right _ hp).symm (hoff.sub fun p hp => List.mem_append_right _ hp)) hj
theorem lev_nil {a : Addr} {n q : Nat} {G : Int → Int → Int} : LevAt [(a, listOf #[] n)] a 0 q G := ⟨[], rfl, ⟨n, .head _⟩, .nil, (fun h => nomatch h), fun i r h => by simp at h⟩
theorem LevAt.congr {lv : Led} {a : Addr} {p q : Nat} {G G' : Int → Int → Int} (C : LevAt lv a p q G) (h : ∀ x y : Int, 0 ≤ x → x < p → 0 ≤ y → y < q → G x y = G' x y) : LevAt lv a p q G' := by
  obtain ⟨ra, C⟩ := C
  refine ⟨ra, C.len, C.top, C.nd, C.off, fun i r hr => ?_⟩
  obtain ⟨vs, n, hm, hl, hv⟩ := C.rows i r hr
  refine ⟨vs, n, hm, hl, fun j hj => ?_⟩
  obtain ⟨t, ht⟩ := hv j hj
  obtain ⟨h1, _⟩ := List.getElem?_eq_some_iff.mp hr
  rw [C.len] at h1
  exact ⟨t, by rw [ht, h i j (by lia) (by lia) (by lia) (by lia)]⟩
theorem news_assoc {h₀ h : Heap} {L : Addr} {a b c : Led} (N : News h₀ L h ((a ++ b) ++ c)) : News h₀ L h (a ++ (b ++ c)) := by rw [← List.append_assoc]; exact N

/-- what the frame holds under some names -/
def Has (m : Str → Option Value) (l : List (Str × Value)) : Prop := ∀ p ∈ l, m p.1 = some p.2
theorem Has.put {m : Str → Option Value} {l : List (Str × Value)} {n : Str} {u : Option Value} (h : Has m l) (hn : (l.all fun p => !(p.1 == n)) = true) : Has (fun z => if z = n then u else m z) l := fun p hp => by
  have e : p.1 ≠ n := by
    have := List.all_eq_true.mp hn p hp
    simpa using this
  show (if p.1 = n then u else m p.1) = some p.2
  rw [if_neg e]
  exact h p hp
noncomputable def hasLook : List (Str × Value) → Str → Option Value
  | [], _ => none
  | (k, v) :: r, n => if k = n then some v else hasLook r n
theorem Has.get {m : Str → Option Value} : ∀ {l : List (Str × Value)} {n : Str} {v : Value}, Has m l → hasLook l n = some v → m n = some v
  | [], _, _, _, e => by cases e
  | (k, u) :: r, n, v, h, e => by
    unfold hasLook at e
    by_cases c : k = n
    · rw [if_pos c] at e
      cases e
      rw [← c]
      exact h _ (.head _)
    · rw [if_neg c] at e
      exact Has.get (fun p hp => h p (List.mem_cons_of_mem _ hp)) e
theorem Has.cons {m : Str → Option Value} {l : List (Str × Value)} {n : Str} {v : Value} (h : m n = some v) (hs : Has m l) : Has m ((n, v) :: l) := fun p hp => by
  rcases List.mem_cons.mp hp with rfl | hp
  · exact h
  · exact hs p hp
theorem Has.nil {m : Str → Option Value} : Has m [] := fun _ hp => nomatch hp
theorem Has.tail {m : Str → Option Value} {l : List (Str × Value)} {x : Str × Value} (h : Has m (x :: l)) : Has m l := fun p hp => h p (List.mem_cons_of_mem _ hp)

theorem mem_mid {a b : Led} {x : Addr × Obj} : ∀ p ∈ a ++ x :: b, p ∈ x :: (a ++ b) := fun p hp => by
  rcases List.mem_append.mp hp with hp | hp
  · exact List.mem_cons_of_mem _ (List.mem_append_left _ hp)
  · rcases List.mem_cons.mp hp with rfl | hp
    · exact .head _
    · exact List.mem_cons_of_mem _ (List.mem_append_right _ hp)
theorem mem_mid' {a b : Led} {x : Addr × Obj} : ∀ p ∈ x :: (a ++ b), p ∈ a ++ x :: b := fun p hp => by
  rcases List.mem_cons.mp hp with rfl | hp
  · exact List.mem_append_right _ (.head _)
  · rcases List.mem_append.mp hp with hp | hp
    · exact List.mem_append_left _ hp
    · exact List.mem_append_right _ (List.mem_cons_of_mem _ hp)

theorem stop_here {p : Prop} (h : Stop p) : p := h.out

theorem look_next {m : Str → Option Value} {x y : Str} {u v : Option Value} (h : y ≠ x) (e : m y = v) : (fun z => if z = x then u else m z) y = v := by
  show (if y = x then u else m y) = v
  rw [if_neg h]
  exact e
theorem look_here {m : Str → Option Value} {x : Str} {u : Option Value} : (fun z => if z = x then u else m z) x = u := if_pos rfl

theorem sub_refl {l : Led} : ∀ z ∈ l, z ∈ l := fun _ h => h
theorem sub_cons {l l' : Led} {x : Addr × Obj} (h : ∀ z ∈ l, z ∈ l') : ∀ z ∈ l, z ∈ x :: l' := fun z hz => List.mem_cons_of_mem _ (h z hz)
theorem sub_left {l l' r : Led} (h : ∀ z ∈ l, z ∈ l') : ∀ z ∈ l, z ∈ l' ++ r := fun z hz => List.mem_append_left _ (h z hz)
theorem sub_right {l l' r : Led} (h : ∀ z ∈ l, z ∈ l') : ∀ z ∈ l, z ∈ r ++ l' := fun z hz => List.mem_append_right _ (h z hz)


section
variable {prog : Program} {w : World} {A : Around} {E : Value → Shared → Prop} {s : Shared} {h₀ : Heap} {L : Addr} {m : Str → Option Value} {news : Led}

/-- min of four ints, handed one by one -/
theorem best_min (f : Nat → Int) (k : Nat) : f (argBest (fun i j => decide (f i < f j)) (k + 1)) = min (f (argBest (fun i j => decide (f i < f j)) k)) (f (k + 1)) := by
  rw [argBest]
  by_cases h : f (k + 1) < f (argBest (fun i j => decide (f i < f j)) k)
  · rw [if_pos (decide_eq_true h), Int.min_eq_right (Int.le_of_lt h)]
  · rw [if_neg (by simpa using h), Int.min_eq_left (Int.not_lt.mp h)]
theorem min_four {a b c d : Int} {t1 t2 t3 t4 : Tok} {Q : Value → Shared → Prop} (hh : A.handled = none) (F : Fr h₀ L s.heap m) (N : News h₀ L s.heap news)
    (h : ∀ h' tk t, Fr h₀ L h' m → News h₀ L h' news → Q (.int (min (min (min a b) c) d) t) { s with heap := h', toks := tk }) :
    wpAny (model prog w) A (call (.builtin "min") [.int a t1, .int b t2, .int c t3, .int d t4]) Q E s := by
  have hname : (toString "min" ++ toString ".loop" : String) = "min.loop" := by decide
  have hargs : argsOk "min" ⟨[.int a t1, .int b t2, .int c t3, .int d t4], []⟩ := by unfold argsOk; kernel_rfl
  let xs : Array (Int × Tok) := #[(a, t1), (b, t2), (c, t3), (d, t4)]
  let s₁ : Shared := { s with heap := s.heap.push { cls := .type "tuple", data := .seq #[.int a t1, .int b t2, .int c t3, .int d t4] } }
  have hT : s₁.heap.IsTuple s.heap.objs.size (intItems xs) := ⟨_, Heap.get?_push_size _ rfl, rfl, 0, by simp [intItems, xs]⟩
  have hsz : s₁.heap.objs.size = s.heap.objs.size + 1 := Heap.size_push ..
  refine call_function_tree PySem.F.kind_min PySem.F.plain_min PySem.F.entry_min hargs ?_
  show wpAny _ A.in1 (Builtin.Builtins.bindParams "min" ["key", "default"] 0 ⟨[], []⟩ >>= _) _ _ s
  refine wpAny_bind (wpAny_of_eq (show Builtin.Builtins.bindParams "min" ["key", "default"] 0 ⟨[], []⟩ = pure [none, none] from rfl) ?_)
  show wpAny _ A.in1 (newTuple [.int a t1, .int b t2, .int c t3, .int d t4] >>= _) _ _ s
  refine wpAny_bind (wpAny_newObj_type ?_)
  refine wpAny_bind (wpAny_pyIter_tuple hT ?_)
  have W := Walks.tuple (prog := prog) (w := w) (A := A.in1) hh s₁.heap.objs.size s.heap.objs.size (by rw [hsz]; exact Nat.ne_of_lt (Nat.lt_succ_self _)) (intItems xs)
  refine wpAny_bind (wpAny_newObj_type ?_)
  rw [hname]
  have hS : ∀ I, I = s₁.heap.objs.size → (s₁.heap.push { cls := .type "tuple_iterator", data := .fields #[.ref s.heap.objs.size, .int 0 0] }).objs.size ∉ [I, s.heap.objs.size] := by
    intro I hI hm
    rw [Heap.size_push, hsz, hI, hsz] at hm
    rcases List.mem_cons.mp hm with e | hm
    · exact absurd e (by lia)
    · have := List.mem_singleton.mp hm; lia
  refine wpAny_pure ⟨plainId_quiet PySem.F.plain_min_loop _, codeAny_min_loop_first W _ (CmpOf.ints_lt (numAt xs) (fun _ _ => intItems_at)) _ (hS _ rfl) (by simp [intItems, xs])
    (W.frame _ _ _ (⟨⟨_, Heap.get?_push_size _ rfl, rfl, rfl⟩, hT.push _⟩ : _ ∧ _) fun b _ o e => Heap.get?_push_of_some _ e) (Heap.get?_push_size _ rfl) fun v h' tk hP hk => ?_⟩
  have hold : ∀ e o, s.heap.get? e = some o → h'.get? e = some o := fun e o he => by
    have hlt := Heap.lt_size he
    refine hk e o (fun hm => ?_) (fun hm => ?_) (Heap.get?_push_of_some _ (Heap.get?_push_of_some _ (Heap.get?_push_of_some _ he)))
    · exact Nat.ne_of_lt (Nat.lt_of_lt_of_le hlt (Nat.le_of_lt (by rw [hsz]; exact Nat.lt_succ_self _))) (List.mem_singleton.mp hm)
    · exact Nat.ne_of_lt (Nat.lt_of_lt_of_le hlt (by rw [Heap.size_push, hsz]; exact Nat.le_succ_of_le (Nat.le_succ _))) hm
  have hn : (intItems xs).size - 1 = 3 := by simp [intItems, xs]
  have hP' : (intItems xs)[argBest (fun i j => decide (numAt xs i < numAt xs j)) 3]? = some v := by rw [← hn]; exact hP
  have key : ∃ t, v = .int (min (min (min a b) c) d) t := by
    obtain ⟨t, ht⟩ := intItems_at hP'
    rw [best_min (numAt xs), best_min (numAt xs), best_min (numAt xs)] at ht
    exact ⟨t, ht⟩
  obtain ⟨t, rfl⟩ := key
  exact h h' tk t (F.grownK hold) (N.grown hold)
end
end

section
local macro_rules | `(tactic| k_enter) => `(tactic| (refine' enter_def ?k1 ?k2 ?k3 ?k4 ?k5 ?kA ?kF ?kK ?k6 ?k7 ?k8 ?k9 ?kB ?_ ?c2 ?c3 ?c4 ?c5; (case kA => exact rfl); (case kF => exact rfl); (case kK => assumption); (case k1 => k_asm); (case k2 => k_asm); (case k3 => k_asm); (case k4 => k_asm); (case k5 => k_asm); (case k6 => k_is); (case k7 => k_is); (case k8 => ktr_room); (case k9 => first | exact BindsTo.of_eq rfl | exact binds_K (by k_in) rfl (by k_is) rfl rfl rfl); (case c5 => decide); (case kB => exact locs rfl); (case c2 => exact rfl); (case c3 => exact rfl); (case c4 => exact rfl); intro g' L' h' FG' F' N' B' X' T'; (try dsimp only); (try k_fold)))
local macro_rules | `(tactic| walk_at "setItem ref int") => `(tactic| (k_here; (with_reducible show wpAny _ _ (setItem (Value.ref _) (Value.int _ _) (Value.int _ _)) _ _ _); k_dflt (refine' row_set ?F ?N ?C ?ho ?sub ?a ?b ?c ?_; (case F => k_asm); (case N => k_asm); (case C => with_reducible assumption); (case ho => with_reducible assumption); (case sub => exact sub_refl); (case a => lia); (case b => lia); (case c => lia); k_whole; intro h' lv' F' N' hC' hA'; (try k_sweep))))
local macro_rules | `(tactic| walk_at "exec For Name Call cons nil") => `(tactic| (k_here; (rename Fr _ _ _ _ => lF'); (with_unfolding_all refine' For_invVF lF' ?k1 ?k2 ?_ ?k3 ?k4; (case k1 => exact rfl); (case k2 => exact rfl); (case k3 => intro _; rfl); (case k4 => exact PassesOwn.never); k_whole)))
local macro_rules | `(tactic| walk_at "spliced") => `(tactic| (first | refine args_cons ?_ | refine args_nil ⟨Fr.keep (by assumption) _ _ (by assumption), ?_⟩ | (refine args_nil ?_; try simp only [List.cons_append, List.nil_append])))
local macro_rules | `(tactic| walk_at "pyIter ref") => `(tactic| refine stop_here ?_)
local macro_rules | `(tactic| walk_at "eval Name") => `(tactic| (k_here; k_dflt (refine' ld ?k1 ?k2 ?_; (case k1 => k_asm); (case k2 => cell_eq); k_whole)))
local macro_rules | `(tactic| cell_eq) => `(tactic| first | with_reducible assumption | exact look_here | exact rfl | exact Has.get (by with_reducible assumption) rfl | (refine look_next (by decide) ?_; cell_eq))
local macro_rules | `(tactic| k_tabat) => `(tactic| first | with_reducible assumption | (refine Has.put ?_ rfl; k_tabat))
local macro_rules | `(tactic| k_flat) => `(tactic| first | exact Has.nil | (refine Has.cons (by cell_eq) ?_; k_flat))
local macro_rules | `(tactic| accj_flat) => `(tactic| first | exact fun _ h => h | (refine sub_left ?_; accj_flat) | (refine sub_right ?_; accj_flat) | (refine sub_cons ?_; accj_flat))
local macro_rules | `(tactic| cell_enter) => `(tactic| ((case B => k_asm); (case F => k_asm); (case X => k_asm); (case N => k_asm); (case T => k_asm); (case hk => exact rfl); (case hd => ktr_room); (case hu => ktr_units)))
local macro_rules | `(tactic| walk_at "call ref") => `(tactic| refine stop_here ?_)
local macro_rules | `(tactic| walk_at "exec While Compare cons nil") => `(tactic| refine stop_here ?_)


section


noncomputable def stepVal (G : Int → Int → Int) (x y : Str) (cost i j : Int) : Int := min (min (G (i - 1) j + 1) (G i (j - 1) + 1)) (G (i - 1) (j - 1) + (if Txt.item x (i - 1) = Txt.item y (j - 1) then 0 else cost))
theorem stepVal_ne {G : Int → Int → Int} {x y : Str} {cost i j : Int} (h : (Txt.item x (i - 1) != Txt.item y (j - 1)) = true) :
    min (min (min (G (i - 1) j + 1) (G i (j - 1) + 1)) (G (i - 1) (j - 1) + cost)) (G (i - 1) (j - 1) + cost + 1) = stepVal G x y cost i j := by
  unfold stepVal
  rw [if_neg (bne_iff_ne.mp h)]
  lia
theorem stepVal_eq {G : Int → Int → Int} {x y : Str} {cost i j : Int} (h : (Txt.item x (i - 1) != Txt.item y (j - 1)) = false) :
    min (min (min (G (i - 1) j + 1) (G i (j - 1) + 1)) (G (i - 1) (j - 1) + 0)) (G (i - 1) (j - 1) + 0 + 1) = stepVal G x y cost i j := by
  unfold stepVal
  rw [if_pos (by simpa using h)]
  lia
section
local macro_rules | `(tactic| walk_at "subscriptTail") => `(tactic| (k_here; (with_reducible show wpAny _ _ (subscriptTail _ _ (Value.ref _) (Value.int _ _)) _ _ _); k_dflt (first
  | (refine' lev_item ?N ?C ?sub ?a ?b ?c ?_; (case N => k_asm); (case C => with_reducible assumption); (case sub => (first | exact sub_left sub_refl | exact sub_cons (sub_left sub_refl))); (case a => lia); (case b => lia); (case c => lia); k_whole; intro r9 hr9)
  | (refine' row_item ?N ?C ?sub ?a ?b ?c ?_; (case N => k_asm); (case C => with_reducible assumption); (case sub => (first | exact sub_left sub_refl | exact sub_cons (sub_left sub_refl))); (case a => lia); (case b => lia); (case c => lia); k_whole; intro t9))))
local macro_rules | `(tactic| walk_at "call builtin:min") => `(tactic| (k_here; (with_reducible show wpAny _ _ (call (Value.builtin "min") [_, _, _, _]) _ _ _); k_dflt (refine' min_four ?hh ?F ?N ?_; (case hh => exact rfl); (case F => k_asm); (case N => k_asm); k_whole; intro h' tk' t' F' N'; (try k_sweep))))

theorem step_spec {w : World} {p : Program} {loose : List Str} {mean : ExcName → Option Value} {mg mb : Str → Option Value}
   {dp un : Nat} {gd : Option (List Code)} {cn : Str} {cs : Scope} {a : Addr} {ccd : Value} {cl : List (Str × Addr)} {outer : List Env} {A₀ : Around} {base h₀ : Heap} {L : Addr} {m : Str → Option Value} {s : Shared} {Q E : Value → Shared → Prop}
   {lv rest : Led} {la : Addr} {P q : Nat} {G : Int → Int → Int} {i j cost : Int} {x y : Str} {ti tj tx ty tc : Tok} {v1 v2 : Value}
   (B : Below A₀ base outer h₀) (F : Fr h₀ L s.heap m) (X : (hd.heap_39 w.params).In h₀) (N : News h₀ L s.heap (lv ++ rest)) (T : Top p loose mean mg mb h₀) (hk : cs.kind = .function)
   (C : LevAt lv la P q G) (ho : Off lv rest) (hi0 : 1 ≤ i) (hi1 : i < P) (hj0 : 1 ≤ j) (hj1 : j < q) (hP : (P : Int) < 100) (hq : (q : Int) < 100)
   (hx : i ≤ x.length) (hy : j ≤ y.length)
   (hd : dp + 1 < recursionLimit) (hu : un + 8 < cLine)
   (hret : ∀ h' tk' lv', Fr h₀ L h' m → News h₀ L h' (lv' ++ rest) → LevAt lv' la P q (setG G i j (stepVal G x y cost i j)) → lv'.map (·.1) = lv.map (·.1) → Q .none { s with heap := h', toks := tk' }) :
   wpAny (model PySem.Challenge.rw_be0026_01.row.prog w) (ktrTop dp un gd cn cs L a ccd cl outer) (call (.ref 41) [.ref la, .int i ti, .int j tj, .str x tx, .str y ty, v1, v2]
      [(Str.ofString "substitution_cost", .int cost tc), (Str.ofString "transpositions", .bool false)]) Q E s := by
  revert X; k_fill; intro X
  refine wpAny_call ?_
  k_dflt k_enter
  k_steps
  · exact hret _ _ _ (by assumption) (by assumption) (by rw [← stepVal_ne (by assumption)]; assumption) (by assumption)
  · exact hret _ _ _ (by assumption) (by assumption) (by rw [← stepVal_eq (by assumption)]; assumption) (by assumption)
end
end

section

theorem fill2 (i : Nat) (x y : Int) : setG (fun x y => if x < (i : Int) ∧ y = 0 then x else 0) (0 + i) 0 (0 + i) x y = if x < ((i + 1 : Nat) : Int) ∧ y = 0 then x else 0 := by
  simp only [setG]
  (repeat' split) <;> lia
theorem fill3a (P : Nat) (x y : Int) (h1 : 0 ≤ x) (h2 : x < P) (h3 : 0 ≤ y) : (if x < ((P : Nat) : Int) ∧ y = 0 then x else 0) = if x = 0 ∧ y < ((0 : Nat) : Int) then y else if y = 0 then x else 0 := by
  (repeat' split) <;> lia
theorem fill3 (i : Nat) (x y : Int) : setG (fun x y => if x = 0 ∧ y < (i : Int) then y else if y = 0 then x else 0) 0 (0 + i) (0 + i) x y = if x = 0 ∧ y < ((i + 1 : Nat) : Int) then y else if y = 0 then x else 0 := by
  simp only [setG]
  (repeat' split) <;> lia
theorem fill4 (q : Nat) (x y : Int) (h : y < q) : (if x = 0 ∧ y < (q : Int) then y else if y = 0 then x else 0) = if x = 0 then y else if y = 0 then x else 0 := by
  (repeat' split) <;> lia
section
local macro_rules | `(tactic| walk_at "eval Name") => `(tactic| (k_here; k_dflt (refine' ld ?k1 ?k2 ?_; (case k1 => k_asm); (case k2 => first | with_reducible assumption | exact look_here | exact rfl | (refine look_next (by decide) ?_; first | with_reducible assumption | exact look_here | exact rfl | (refine look_next (by decide) ?_; first | with_reducible assumption | exact look_here | exact rfl))); k_whole)))
local macro_rules | `(tactic| walk_at "call builtin:list.append") => `(tactic| refine stop_here ?_)
local macro_rules | `(tactic| walk_at "subscriptTail") => `(tactic| (k_here; (with_reducible show wpAny _ _ (subscriptTail _ _ (Value.ref _) (Value.int _ _)) _ _ _); k_dflt (first
  | (refine' lev_item ?N ?C ?sub ?a ?b ?c ?_; (case N => k_asm); (case C => with_reducible assumption); (case sub => exact sub_left sub_refl); (case a => lia); (case b => lia); (case c => lia); k_whole; intro r9 hr9))))

theorem init_spec {w : World} {p : Program} {loose : List Str} {mean : ExcName → Option Value} {mg mb : Str → Option Value}
   {dp un : Nat} {gd : Option (List Code)} {cn : Str} {cs : Scope} {a : Addr} {ccd : Value} {cl : List (Str × Addr)} {outer : List Env} {A₀ : Around} {base h₀ : Heap} {L : Addr} {m : Str → Option Value} {s : Shared} {Q E : Value → Shared → Prop}
   {news : Led} {P q : Nat} {ti tj : Tok}
   (B : Below A₀ base outer h₀) (F : Fr h₀ L s.heap m) (X : (hd.heap_39 w.params).In h₀) (N : News h₀ L s.heap news) (T : Top p loose mean mg mb h₀) (hk : cs.kind = .function)
   (hP0 : 1 ≤ P) (hq0 : 1 ≤ q) (hP : (P : Int) < 100) (hq : (q : Int) < 100)
   (hd : dp + 1 < recursionLimit) (hu : un + 8 < cLine)
   (hret : ∀ h' tk' lv la, Fr h₀ L h' m → News h₀ L h' (lv ++ news) → LevAt lv la P q (fun i j => if i = 0 then j else if j = 0 then i else 0) → Off lv news → Q (.ref la) { s with heap := h', toks := tk' }) :
   wpAny (model PySem.Challenge.rw_be0026_01.row.prog w) (ktrTop dp un gd cn cs L a ccd cl outer) (call (.ref 28) [.int P ti, .int q tj]) Q E s := by
  revert X; k_fill; intro X
  refine wpAny_call ?_
  k_dflt k_enter
  k_steps
  refine ⟨?_⟩
  refine range_loop (n := P) (fun i m nx => ∃ la lv, m "lev" = some (.ref la) ∧ m "len1" = some (.int P ti) ∧ m "len2" = some (.int q tj) ∧ nx = lv ++ news ∧ LevAt lv la i q (fun _ _ => 0) ∧ Off lv news)
    rfl (by assumption) (by lia) (by lia) (by lia) (by k_asm) (by k_asm) ?_ ?_ ?_
  · refine ⟨_, [(_, _)], rfl, rfl, rfl, rfl, lev_nil, Off.below (allLt_mk (by assumption))⟩
  · rintro i t m₁ nx h tk own hi hoff ⟨la, lv, hm1, hm2, hm3, rfl, ⟨ra, C⟩, ho⟩ F1 N1 TP hTP
    have ho2 : Off lv (news ++ own) := Off.app ho (hoff.symm.subL fun p hp => List.mem_append_left _ hp)
    obtain ⟨n0, htop⟩ := C.top
    have N2 : News _ _ h ((la, listOf (ra.map Value.ref).toArray n0) :: (lv ++ (news ++ own))) := fun p hp => by
      rcases List.mem_cons.mp hp with rfl | hp
      · exact N1 _ (List.mem_append_left _ (List.mem_append_left _ htop))
      · exact N1 _ (by rw [List.append_assoc]; exact hp)
    clear N1
    k_steps
    refine ⟨?_⟩
    (k_dflt (refine' lev_append ?y1F ?y1N ⟨_, ?y1C⟩ ?y1ho ?y1sub ?y1hr ?y1hb ?y1hv ?y1hp ?_; (case y1F => k_asm); (case y1N => k_asm); (case y1C => with_reducible assumption); (case y1ho => with_reducible assumption); (case y1sub => exact sub_cons (sub_cons (sub_cons sub_refl))); (case y1hr => k_mem); (case y1hb => (rename _ ∧ _ ∧ AllLt _ _ => hL9; exact hL9.2.2)); (case y1hv => exact rowIs_zeros); (case y1hp => lia); k_whole; intro h' lv' F' N' hC' ho'; (try k_sweep)))
    k_steps
    exact hTP _ (turn_lv F' N' hoff ho' ⟨la, lv', look_next (by decide) hm1, look_next (by decide) hm2, look_next (by decide) hm3, rfl, hC', ho'.sub fun p hp => List.mem_append_left _ hp⟩)
  rintro m₁ nx h tk ⟨la, lv, hm1, hm2, hm3, rfl, C, ho⟩ F1 N1
  dsimp only
  k_steps
  refine ⟨?_⟩
  refine range_loop (n := P) (fun i m nx => ∃ lv, m "lev" = some (.ref la) ∧ m "len1" = some (.int P ti) ∧ m "len2" = some (.int q tj) ∧ nx = lv ++ news ∧ LevAt lv la P q (fun x y => if x < i ∧ y = 0 then x else 0) ∧ Off lv news)
    rfl (by assumption) (by lia) (by lia) (by lia) (by k_asm) (by k_asm) ?_ ?_ ?_
  · exact ⟨lv, hm1, hm2, hm3, rfl, C.congr fun x y _ _ _ _ => by rw [if_neg (by lia)], ho⟩
  · clear ho C
    rintro i t m₁ nx h tk own hi hoff ⟨lv, hm1, hm2, hm3, rfl, C, ho⟩ F1 N1 TP hTP
    have ho2 : Off lv (news ++ own) := Off.app ho (hoff.symm.subL fun p hp => List.mem_append_left _ hp)
    replace N1 := news_assoc N1
    k_steps
    rename_i lv' F' N' hC' hA'
    have ho' := ho2.congr hA'
    refine hTP _ (turn_lv F' N' hoff ho' ⟨lv', look_next (by decide) hm1, look_next (by decide) hm2, look_next (by decide) hm3, rfl, hC'.congr fun x y _ _ _ _ => ?_, ho'.sub fun p hp => List.mem_append_left _ hp⟩)
    exact fill2 i x y
  rintro m₁ nx h tk ⟨lv, hm1, hm2, hm3, rfl, C, ho⟩ F1 N1
  dsimp only
  k_steps
  refine ⟨?_⟩
  refine range_loop (n := q) (fun i m nx => ∃ lv, m "lev" = some (.ref la) ∧ m "len1" = some (.int P ti) ∧ m "len2" = some (.int q tj) ∧ nx = lv ++ news ∧ LevAt lv la P q (fun x y => if x = 0 ∧ y < i then y else if y = 0 then x else 0) ∧ Off lv news)
    rfl (by assumption) (by lia) (by lia) (by lia) (by k_asm) (by k_asm) ?_ ?_ ?_
  · exact ⟨lv, hm1, hm2, hm3, rfl, C.congr fun x y h1 h2 h3 _ => fill3a P x y h1 h2 h3, ho⟩
  · clear ho C
    rintro i t m₁ nx h tk own hi hoff ⟨lv, hm1, hm2, hm3, rfl, C, ho⟩ F1 N1 TP hTP
    have ho2 : Off lv (news ++ own) := Off.app ho (hoff.symm.subL fun p hp => List.mem_append_left _ hp)
    replace N1 := news_assoc N1
    k_steps
    rename_i lv' F' N' hC' hA'
    have ho' := ho2.congr hA'
    refine hTP _ (turn_lv F' N' hoff ho' ⟨lv', look_next (by decide) hm1, look_next (by decide) hm2, look_next (by decide) hm3, rfl, hC'.congr fun x y _ _ _ _ => ?_, ho'.sub fun p hp => List.mem_append_left _ hp⟩)
    exact fill3 i x y
  rintro m₁ nx h tk ⟨lv, hm1, hm2, hm3, rfl, C, ho⟩ F1 N1
  dsimp only
  k_steps
  refine hret _ _ lv la (by assumption) (by assumption) (C.congr fun x y _ _ _ h4 => fill4 q x y h4) ho
end
end

section

/-- a dict of counts, keyed by the letters of a text -/
structure TabOk (prog : Program) (w : World) (o : Obj) (x : Str) : Prop where
  out : ∃ kvs : List (Str × Value), o.IsDictOf (strKind prog w) kvs ∧ kvs.length ≤ 1000 ∧ (∀ kv ∈ kvs, ∃ k t, kv.2 = .int k t) ∧ ∀ c ∈ x.cps.toList, (valueAt kvs ⟨#[c]⟩).isSome

theorem valueAt_mem {K : Type} [DecidableEq K] {kvs : List (K × Value)} {k : K} {v : Value} (h : valueAt kvs k = some v) : ∃ kv ∈ kvs, kv.2 = v := by
  unfold valueAt at h
  obtain ⟨kv, h1, rfl⟩ := Option.map_eq_some_iff.mp h
  exact ⟨kv, List.mem_of_find?_eq_some h1, rfl⟩
theorem valueAt_isSome {K : Type} [DecidableEq K] {kvs : List (K × Value)} {k : K} : (valueAt kvs k).isSome = true ↔ k ∈ kvs.map (·.1) := by
  unfold valueAt
  rw [Option.isSome_map, List.find?_isSome]
  constructor
  · rintro ⟨x, hx, e⟩
    exact List.mem_map.mpr ⟨x, hx, by simpa using e⟩
  · intro h
    obtain ⟨x, hx, e⟩ := List.mem_map.mp h
    exact ⟨x, hx, by simpa using e⟩
theorem stored_keys {K : Type} [DecidableEq K] {kvs : List (K × Value)} {k : K} {v : Value} : ∀ x, x ∈ (stored kvs k v).map (·.1) ↔ x ∈ kvs.map (·.1) ∨ x = k := by
  intro x
  unfold stored
  by_cases h : (kvs.any fun kv => kv.1 = k) = true
  · rw [if_pos h, List.map_map]
    have e : (kvs.map ((·.1) ∘ fun kv => if kv.1 = k then (kv.1, v) else kv)) = kvs.map (·.1) := by
      apply List.map_congr_left
      intro y _
      by_cases c : y.1 = k <;> simp [c]
    rw [e]
    constructor
    · exact .inl
    · rintro (h1 | rfl)
      · exact h1
      · obtain ⟨y, hy, e⟩ := List.any_eq_true.mp h
        exact List.mem_map.mpr ⟨y, hy, by simpa using e⟩
  · rw [if_neg h, List.map_append, List.mem_append]
    simp
theorem stored_vals {K : Type} [DecidableEq K] {kvs : List (K × Value)} {k : K} {v : Value} {P : Value → Prop} (h : ∀ kv ∈ kvs, P kv.2) (hv : P v) : ∀ kv ∈ stored kvs k v, P kv.2 := by
  intro x hx
  unfold stored at hx
  by_cases c : (kvs.any fun kv => kv.1 = k) = true
  · rw [if_pos c] at hx
    obtain ⟨y, hy, rfl⟩ := List.mem_map.mp hx
    by_cases d : y.1 = k
    · simp only [d, if_true]; exact hv
    · simp only [d, if_false]; exact h y hy
  · rw [if_neg c] at hx
    rcases List.mem_append.mp hx with hx | hx
    · exact h x hx
    · rw [List.mem_singleton.mp hx]; exact hv
theorem stored_len {K : Type} [DecidableEq K] {kvs : List (K × Value)} {k : K} {v : Value} (h : (valueAt kvs k).isSome) : (stored kvs k v).length = kvs.length := by
  rw [valueAt_isSome] at h
  unfold stored
  obtain ⟨y, hy, e⟩ := List.mem_map.mp h
  rw [if_pos (List.any_eq_true.mpr ⟨y, hy, by simpa using e⟩), List.length_map]
theorem storedAll_keys {FV : Value → Value → Prop} {l : List Value} {kvs : List (Str × Value)} (h : StoredAll (fun v k => ∃ u, v = .str k u) FV l kvs) : ∀ v ∈ l, ∃ k u, v = .str k u ∧ k ∈ kvs.map (·.1) := by
  induction h with
  | nil => intro v hv; cases hv
  | snoc _ hk _ ih =>
    intro v hv
    rcases List.mem_append.mp hv with hv | hv
    · obtain ⟨k, u, e, hm⟩ := ih v hv
      exact ⟨k, u, e, (stored_keys k).mpr (.inl hm)⟩
    · rw [List.mem_singleton.mp hv]
      obtain ⟨u, e⟩ := hk
      exact ⟨_, u, e, (stored_keys _).mpr (.inr rfl)⟩
theorem storedAll_vals {FK : Value → Str → Prop} {l : List Value} {kvs : List (Str × Value)} (h : StoredAll FK (fun _ y => ∃ k t, y = Value.int k t) l kvs) : ∀ kv ∈ kvs, ∃ k t, kv.2 = .int k t := by
  induction h with
  | nil => intro v hv; cases hv
  | snoc _ _ hy ih => exact stored_vals (P := fun y => ∃ k t, y = Value.int k t) ih hy

section
local macro_rules | `(tactic| walk_at "eval DictComp") => `(tactic| refine stop_here ?_)

theorem lastt_spec {w : World} {p : Program} {loose : List Str} {mean : ExcName → Option Value} {mg mb : Str → Option Value}
   {dp un : Nat} {gd : Option (List Code)} {cn : Str} {cs : Scope} {a : Addr} {ccd : Value} {cl : List (Str × Addr)} {outer : List Env} {A₀ : Around} {base h₀ : Heap} {L : Addr} {m : Str → Option Value} {s : Shared} {Q E : Value → Shared → Prop}
   {news : Led} {x : Str} {ti : Tok}
   (B : Below A₀ base outer h₀) (F : Fr h₀ L s.heap m) (X : (hd.heap_39 w.params).In h₀) (N : News h₀ L s.heap news) (T : Top p loose mean mg mb h₀) (hk : cs.kind = .function)
   (hx : x.length < 100)
   (hd : dp + 1 < recursionLimit) (hu : un + 8 < cLine)
   (hret : ∀ h' tk' d o, Fr h₀ L h' m → News h₀ L h' ((d, o) :: news) → TabOk PySem.Challenge.rw_be0026_01.row.prog w o x → Off [(d, o)] news → Q (.ref d) { s with heap := h', toks := tk' }) :
   wpAny (model PySem.Challenge.rw_be0026_01.row.prog w) (ktrTop dp un gd cn cs L a ccd cl outer) (call (.ref 33) [.str x ti]) Q E s := by
  revert X; k_fill; intro X
  refine wpAny_call ?_
  k_dflt k_enter
  k_steps
  rename_i g1 L1 h1 FG1 F1 N1 B1 X1 T1
  refine ⟨?_⟩
  refine wpAny_DictComp_free (strKind _ w) (fun _ => true) (fun v k => ∃ u, v = .str k u) (fun _ y => ∃ k t, y = Value.int k t) rfl (by decide) rfl (by decide) rfl ?_ (fun _ => rfl)
  k_steps
  refine wpAny_pyIter_str fun o St W hSt => ⟨_, _, _, _, _, _, rfl, W _ rfl, ?_, hSt, ?_, ⟨?_, ?_, ?_⟩, ?_⟩
  · exact Nat.le_trans (Nat.le_of_lt hx) (by decide)
  · intro b hb
    rw [List.mem_singleton.mp hb]
    show _ < (Heap.push _ o).objs.size
    rw [Heap.size_push]
    exact Nat.lt_succ_self _
  · intro C i v s₃ m₃ E' _ _ _ _
    exact wpAny_pure ⟨rfl, _, _, rfl, fun _ _ e => e⟩
  · intro C i v s₃ m₃ E' hP _ hn hm _
    obtain ⟨c, u, hc, rfl⟩ := hP
    exact wpAny_Name (wpAny_loadName_local rfl rfl hn hm ⟨⟨⟨#[c]⟩, strKind_is _ w _ _, u, rfl⟩, _, _, rfl, fun _ _ e => e⟩)
  · intro C i v s₃ m₃ E' _ _ _ _ _
    exact wpAny_Constant_int ⟨⟨_, _, rfl⟩, _, _, rfl, fun _ _ e => e⟩
  · intro D h2 tk2 kvs vs hnew hD hlen hP hF hk2
    have keep : ∀ b o', h1.get? b = some o' → h2.get? b = some o' := fun b o' e => hk2 b o' (fun hm => Nat.lt_irrefl _ ((List.mem_singleton.mp hm) ▸ Heap.lt_size e)) (Heap.get?_push_of_some _ e)
    have F2 := F1.keeps keep
    obtain ⟨oD, hoD, hDD⟩ := Heap.dictOf_iff.mp hD
    have hDnone : h1.get? D = none := by
      cases q : h1.get? D with
      | none => rfl
      | some o' => exact absurd ((Heap.get?_push_of_some o q).symm.trans hnew) (by simp)
    have hDL : D ≠ L1 := by
      rintro rfl
      obtain ⟨oL, _, _, hL, _⟩ := F1.ns
      rw [hL] at hDnone; cases hDnone
    have hDg : g1.get? D = none := by
      cases q : g1.get? D with
      | none => rfl
      | some o' => exact absurd ((F1.keep _ _ q).symm.trans hDnone) (by simp)
    have N2 : News g1 L1 h2 ((D, oD) :: news) := fun p hp => by
      rcases List.mem_cons.mp hp with rfl | hp
      · exact ⟨hoD, hDL, hDg⟩
      · exact ⟨keep _ _ (N1 p hp).1, (N1 p hp).2⟩
    have hoff : Off [(D, oD)] news := fun p hp q hq e => by
      rw [List.mem_singleton.mp hp] at e
      have := (N1 q hq).1
      rw [← e, hDnone] at this; cases this
    have htab : TabOk PySem.Challenge.rw_be0026_01.row.prog w oD x := by
      have hvs : vs.filter (fun _ => true) = vs := by simp
      rw [hvs] at hF
      refine ⟨kvs, hDD, ?_, storedAll_vals hF, fun c hc => ?_⟩
      · have := hF.length_le
        have e : x.length = x.cps.size := rfl
        lia
      · obtain ⟨j, hj⟩ := List.getElem?_of_mem hc
        have hj2 : x.cps[j]? = some c := by simpa using hj
        have hjlt : j < vs.length := by
          rw [hlen]
          exact (Array.getElem?_eq_some_iff.mp hj2).1
        obtain ⟨c', u, hc', e⟩ := hP j vs[j] (by simp [hjlt])
        rw [hj2] at hc'
        cases hc'
        obtain ⟨k, u', e', hm⟩ := storedAll_keys hF vs[j] (List.getElem_mem hjlt)
        rw [e] at e'
        cases e'
        exact valueAt_isSome.mpr hm
    clear F1 N1
    dsimp only
    k_steps
    exact hret _ _ _ oD (by assumption) (by assumption) htab hoff
end
end

section

section

theorem check_spec {w : World} {p : Program} {loose : List Str} {mean : ExcName → Option Value} {mg mb : Str → Option Value}
   {dp un : Nat} {gd : Option (List Code)} {cn : Str} {cs : Scope} {a : Addr} {ccd : Value} {cl : List (Str × Addr)} {outer : List Env} {A₀ : Around} {base h₀ : Heap} {L : Addr} {m : Str → Option Value} {s : Shared} {Q E : Value → Shared → Prop}
   {news : Led} {x y z : Str} {t1 t2 t3 : Tok}
   (B : Below A₀ base outer h₀) (F : Fr h₀ L s.heap m) (X : (hd.heap_39 w.params).In h₀) (N : News h₀ L s.heap news) (T : Top p loose mean mg mb h₀) (hk : cs.kind = .function)
   (hx : x.length < 100) (hy : y.length < 100)
   (hd : dp + 1 < recursionLimit) (hu : un + 8 < cLine)
   (hret : ∀ h' tk', Fr h₀ L h' m → News h₀ L h' news → Q .none { s with heap := h', toks := tk' }) :
   wpAny (model PySem.Challenge.rw_be0026_01.row.prog w) (ktrTop dp un gd cn cs L a ccd cl outer) (call (.ref 21) [.str x t1, .str y t2, .str z t3]) Q E s := by
  revert X; k_fill; intro X
  refine wpAny_call ?_
  k_dflt k_enter
  k_steps
  exact hret _ _ (by assumption) (by assumption)
end
end

section

theorem item_mem {x : Str} {k : Int} (h0 : 0 ≤ k) (h1 : k < x.length) : ∃ c ∈ x.cps.toList, Txt.item x k = ⟨#[c]⟩ := by
  have hk : k.toNat < x.cps.size := by
    have e : x.length = x.cps.size := rfl
    lia
  refine ⟨x.cps[k.toNat], by simp, ?_⟩
  unfold Txt.item Txt.charAt
  rw [seqIndex_of h0 h1]
  simp [hk]

section
variable {prog : Program} {w : World} {A : Around} {E : Value → Shared → Prop} {s : Shared} {h₀ : Heap} {L d : Addr} {m : Str → Option Value} {news pre post : Led} {o : Obj} {x y : Str} {k : Int} {u : Tok}

theorem tab_get {value slice : PySem.Expr} {Q : Value → Shared → Prop} (N : News h₀ L s.heap news) (hm : (d, o) ∈ news) (T : TabOk prog w o x) (hc : ∃ c ∈ x.cps.toList, y = ⟨#[c]⟩)
    (h : ∀ z t, Q (.int z t) { s with toks := s.toks + 1 })
    (hs : subscripted slice false (.ref d) (.str y u) = operate [.ref d, .str y u] (getItem (.ref d) (.str y u)) := by with_unfolding_all rfl) :
    wpAny (model prog w) A (subscriptTail value slice (.ref d) (.str y u)) Q E s := by
  obtain ⟨kvs, hd, _, hv, hk⟩ := T
  obtain ⟨c, hc, rfl⟩ := hc
  have hD : s.heap.DictOf (strKind prog w) d kvs := Heap.dictOf_iff.mpr ⟨o, (N _ hm).1, hd⟩
  obtain ⟨v, hv'⟩ := Option.isSome_iff_exists.mp (hk c hc)
  obtain ⟨kv, hmem, e⟩ := valueAt_mem hv'
  obtain ⟨z, t, e2⟩ := hv kv hmem
  rw [e] at e2
  subst e2
  exact tail_any hD.typeIs slot_dict_getitem.lookup (wpAny_getItem_of (strKind_is prog w _ u) hD.mapOf hv' (h z t)) hs

theorem tab_set {Q : Unit → Shared → Prop} {z : Int} {tz : Tok} (F : Fr h₀ L s.heap m) (N : News h₀ L s.heap news) (hsub : ∀ p ∈ pre ++ (d, o) :: post, p ∈ news) (ho1 : Off pre [(d, o)]) (ho2 : Off [(d, o)] post) (T : TabOk prog w o x) (hc : ∃ c ∈ x.cps.toList, y = ⟨#[c]⟩)
    (h : ∀ h' o', Fr h₀ L h' m → News h₀ L h' (pre ++ (d, o') :: post) → TabOk prog w o' x → Q () { s with heap := h', toks := s.toks + 1 }) :
    wpAny (model prog w) A (setItem (.ref d) (.str y u) (.int z tz)) Q E s := by
  obtain ⟨kvs, hd, hz, hv, hk⟩ := T
  obtain ⟨c, hc, rfl⟩ := hc
  have hm := N _ (hsub _ (List.mem_append_right _ (.head _)))
  have hD : s.heap.DictOf (strKind prog w) d kvs := Heap.dictOf_iff.mpr ⟨o, hm.1, hd⟩
  refine wpAny_setItem_pairs (hsz := Nat.le_trans hz (by decide)) (strKind_is prog w _ u) hD fun h' hD' hs => ?_
  obtain ⟨o', ho', hd'⟩ := Heap.dictOf_iff.mp hD'
  refine h h' o' (F.change hs hm.2.1 hm.2.2) (fun p hp => ?_) ⟨_, hd', ?_, stored_vals (P := fun y => ∃ k t, y = Value.int k t) hv ⟨_, _, rfl⟩, fun c' hc' => ?_⟩
  · rcases List.mem_append.mp hp with hp | hp
    · have := N _ (hsub p (List.mem_append_left _ hp))
      exact ⟨(hs.2 p.1 (ho1 p hp _ (.head _))).trans this.1, this.2⟩
    · rcases List.mem_cons.mp hp with rfl | hp
      · exact ⟨ho', hm.2⟩
      · have := N _ (hsub p (List.mem_append_right _ (List.mem_cons_of_mem _ hp)))
        exact ⟨(hs.2 p.1 (ho2 _ (.head _) p hp).symm).trans this.1, this.2⟩
  · rw [stored_len (hk c hc)]; exact hz
  · exact valueAt_isSome.mpr ((stored_keys _).mpr (.inl (valueAt_isSome.mp (hk c' hc'))))
end

/-! the distance, in plain words -/

noncomputable def dist (eq : Nat → Nat → Bool) (c : Int) (n : Nat) : Nat → Int :=
  Nat.rec (fun j => (j : Int)) (fun i row j => Nat.rec ((i + 1 : Nat) : Int) (fun j r => min (min (row (j + 1) + 1) (r + 1)) (row j + (if eq i j then 0 else c))) j) n

noncomputable def eqAt (x y : Str) (i j : Nat) : Bool := decide (Txt.item x (i : Int) = Txt.item y (j : Int))
noncomputable def dI (x y : Str) (c i j : Int) : Int := dist (eqAt x y) c i.toNat j.toNat

theorem dist_zero {eq : Nat → Nat → Bool} {c : Int} (j : Nat) : dist eq c 0 j = j := rfl
theorem dist_succ {eq : Nat → Nat → Bool} {c : Int} (i j : Nat) : dist eq c (i + 1) (j + 1) = min (min (dist eq c i (j + 1) + 1) (dist eq c (i + 1) j + 1)) (dist eq c i j + (if eq i j then 0 else c)) := rfl
theorem dist_col (eq : Nat → Nat → Bool) (c : Int) (i : Nat) : dist eq c i 0 = i := by
  cases i <;> rfl
theorem dI_zero (x y : Str) (c j : Int) (h : 0 ≤ j) : dI x y c 0 j = j := by
  unfold dI
  rw [show (0 : Int).toNat = 0 from rfl, dist_zero]
  exact Int.toNat_of_nonneg h
theorem dI_col (x y : Str) (c i : Int) (h : 0 ≤ i) : dI x y c i 0 = i := by
  unfold dI
  rw [show (0 : Int).toNat = 0 from rfl, dist_col]
  exact Int.toNat_of_nonneg h
theorem dI_step (x y : Str) (c : Int) (i j : Nat) : dI x y c (1 + i) (1 + j) = min (min (dI x y c i (1 + j) + 1) (dI x y c (1 + i) j + 1)) (dI x y c i j + (if Txt.item x (i : Int) = Txt.item y (j : Int) then 0 else c)) := by
  unfold dI
  have e1 (i : Nat) : (1 + (i : Int)).toNat = i + 1 := by lia
  rw [e1, e1, Int.toNat_natCast, Int.toNat_natCast]
  rw [dist_succ]
  unfold eqAt
  simp only [decide_eq_true_eq]
end

section

/-! distances of prefixes and of suffixes, in plain words -/
noncomputable def shf (eq : Nat → Nat → Bool) (i j : Nat) : Nat → Nat → Bool := fun a b => eq (i + a) (j + b)
theorem le_min3 {d x p q r : Int} (h1 : x ≤ d + p) (h2 : x ≤ d + q) (h3 : x ≤ d + r) : x ≤ d + min (min p q) r := by lia
theorem min3_cases (p q r : Int) : min (min p q) r = p ∨ min (min p q) r = q ∨ min (min p q) r = r := by lia
theorem min3_mono {p q r p' q' r' : Int} (h1 : p' ≤ p + 1) (h2 : q' ≤ q + 1) (h3 : r' ≤ r + 1) : min (min p' q') r' ≤ min (min p q) r + 1 := by lia
theorem link {x d p q t : Int} (h : x ≤ d + p) (k : d + p ≤ q) : x + t ≤ q + t := by lia
theorem link_le {a b b' d d' t : Int} (h : a + b ≤ d) (k : b' ≤ b + t) (e : d + t = d') : a + b' ≤ d' := by lia
theorem link_up {x y d p t : Int} (e : x ≤ y + t) (h : y ≤ d + p) : x ≤ d + (p + t) := by lia
section
variable {eq eq' : Nat → Nat → Bool} {c : Int}
theorem dist_up (i j : Nat) : dist eq c (i + 1) j ≤ dist eq c i j + 1 := by
  cases j with
  | zero => rw [dist_col, dist_col]; lia
  | succ j => exact Int.le_trans (Int.min_le_left ..) (Int.min_le_left ..)
theorem dist_left (i j : Nat) : dist eq c i (j + 1) ≤ dist eq c i j + 1 := by
  cases i with
  | zero => rw [dist_zero, dist_zero]; lia
  | succ i => exact Int.le_trans (Int.min_le_left ..) (Int.min_le_right ..)
theorem dist_diag (i j : Nat) : dist eq c (i + 1) (j + 1) ≤ dist eq c i j + (if eq i j then 0 else c) := Int.min_le_right ..
theorem dist_congr (i j : Nat) (h : ∀ a b, a < i → b < j → eq a b = eq' a b) : dist eq c i j = dist eq' c i j := by
  induction i generalizing j with
  | zero => rfl
  | succ i hi =>
    induction j with
    | zero => rfl
    | succ j hj =>
      rw [dist_succ, dist_succ, hi (j + 1) fun a b ha hb => h a b (Nat.lt_succ_of_lt ha) hb, hj fun a b ha hb => h a b ha (Nat.lt_succ_of_lt hb),
        hi j fun a b ha hb => h a b (Nat.lt_succ_of_lt ha) (Nat.lt_succ_of_lt hb), h i j (Nat.lt_succ_self _) (Nat.lt_succ_self _)]
/-- a way over (i, j) costs no less -/
theorem dist_over (i j a b : Nat) : dist eq c (i + a) (j + b) ≤ dist eq c i j + dist (shf eq i j) c a b := by
  induction a generalizing b with
  | zero =>
    induction b with
    | zero => exact Int.le_of_eq (Int.add_zero _).symm
    | succ b h => exact link_up (dist_left (i + 0) (j + b)) h
  | succ a ha =>
    induction b with
    | zero =>
      have h := link_up (dist_up (eq := eq) (c := c) (i + a) (j + 0)) (ha 0)
      rw [dist_col (shf eq i j)] at h ⊢
      exact h
    | succ b hb => exact le_min3 (link_up (dist_up (i + a) (j + b + 1)) (ha (b + 1))) (link_up (dist_left (i + (a + 1)) (j + b)) hb) (link_up (dist_diag (i + a) (j + b)) (ha b))
/-- every row is met by a cheapest way -/
theorem dist_via_add (i a M : Nat) : ∃ j b, j + b = M ∧ dist eq c i j + dist (shf eq i j) c a b ≤ dist eq c (i + a) M := by
  induction a generalizing M with
  | zero => exact ⟨M, 0, rfl, Int.le_of_eq (Int.add_zero _)⟩
  | succ a ha =>
    induction M with
    | zero =>
      refine ⟨0, 0, rfl, ?_⟩
      rw [dist_col, dist_col, dist_col]
      exact Int.le_refl _
    | succ M hM =>
      obtain ⟨j1, b1, g1, h1⟩ := ha (M + 1)
      obtain ⟨j2, b2, g2, h2⟩ := hM
      obtain ⟨j3, b3, g3, h3⟩ := ha M
      rcases min3_cases (dist eq c (i + a) (M + 1) + 1) (dist eq c (i + a + 1) M + 1) (dist eq c (i + a) M + (if eq (i + a) M then 0 else c)) with q | q | q
      · exact ⟨j1, b1, g1, link_le h1 (dist_up ..) q.symm⟩
      · exact ⟨j2, b2 + 1, congrArg (· + 1) g2, link_le h2 (dist_left ..) q.symm⟩
      · refine ⟨j3, b3 + 1, congrArg (· + 1) g3, link_le h3 (dist_diag ..) ?_⟩
        show _ + (if eq (i + a) (j3 + b3) = true then 0 else c) = _
        rw [g3]
        exact q.symm
theorem dist_via (i N M : Nat) (h : i ≤ N) : ∃ j, j ≤ M ∧ dist eq c i j + dist (shf eq i j) c (N - i) (M - j) ≤ dist eq c N M := by
  obtain ⟨j, b, rfl, h2⟩ := dist_via_add (eq := eq) (c := c) i (N - i) M
  rw [Nat.add_sub_cancel' h] at h2
  exact ⟨j, Nat.le_add_right .., by rw [Nat.add_sub_cancel_left]; exact h2⟩
theorem dist_low (hc : 0 ≤ c) (i j : Nat) : (j : Int) - i ≤ dist eq c i j ∧ (i : Int) - j ≤ dist eq c i j := by
  induction i generalizing j with
  | zero => rw [dist_zero]; lia
  | succ i hi =>
    induction j with
    | zero => rw [dist_col]; lia
    | succ j hj =>
      have h1 := hi (j + 1)
      have h3 := hi j
      have : 0 ≤ (if eq i j then 0 else c) := by split <;> lia
      rw [dist_succ, ← Int.zero_add (min _ _)]
      exact ⟨le_min3 (by lia) (by lia) (by lia), le_min3 (by lia) (by lia) (by lia)⟩
theorem dist_drop_row (hc : 0 ≤ c) (a b : Nat) : dist (shf eq 1 0) c a b ≤ dist eq c (a + 1) b + 1 := by
  induction a generalizing b with
  | zero =>
    have := (dist_low (eq := eq) hc 1 b).1
    rw [dist_zero]
    exact Int.le_add_of_sub_right_le this
  | succ a ha =>
    induction b with
    | zero => rw [dist_col, dist_col]; lia
    | succ b hb =>
      refine min3_mono (Int.add_le_add_right (ha (b + 1)) 1) (Int.add_le_add_right hb 1) ?_
      have e : shf eq 1 0 a b = eq (a + 1) b := by
        show eq (1 + a) (0 + b) = _
        rw [Nat.add_comm 1 a, Nat.zero_add]
      rw [e, Int.add_right_comm]
      exact Int.add_le_add_right (ha b) _
theorem dist_drop_col (hc : 0 ≤ c) (a b : Nat) : dist (shf eq 0 1) c a b ≤ dist eq c a (b + 1) + 1 := by
  induction a generalizing b with
  | zero => rw [dist_zero, dist_zero]; lia
  | succ a ha =>
    induction b with
    | zero =>
      have := (dist_low (eq := eq) hc (a + 1) 1).2
      rw [dist_col]
      exact Int.le_add_of_sub_right_le this
    | succ b hb =>
      refine min3_mono (Int.add_le_add_right (ha (b + 1)) 1) (Int.add_le_add_right hb 1) ?_
      have e : shf eq 0 1 a b = eq a (b + 1) := by
        show eq (0 + a) (1 + b) = _
        rw [Nat.add_comm 1 b, Nat.zero_add]
      rw [e, Int.add_right_comm]
      exact Int.add_le_add_right (ha b) _
theorem dist_shf_up (a b : Nat) : dist eq c (a + 1) b ≤ dist (shf eq 1 0) c a b + 1 := by
  have h := dist_over (eq := eq) (c := c) 1 0 a b
  rw [Nat.add_comm 1, Nat.zero_add, dist_col, Int.add_comm] at h
  exact h
theorem dist_shf_left (a b : Nat) : dist eq c a (b + 1) ≤ dist (shf eq 0 1) c a b + 1 := by
  have h := dist_over (eq := eq) (c := c) 0 1 a b
  rw [Nat.add_comm 1, Nat.zero_add, dist_zero, Int.add_comm] at h
  exact h
theorem dist_shf_diag (a b : Nat) : dist eq c (a + 1) (b + 1) ≤ dist (shf eq 1 1) c a b + (if eq 0 0 then 0 else c) := by
  have h := dist_over (eq := eq) (c := c) 1 1 a b
  have h2 : dist eq c 1 1 ≤ 0 + (if eq 0 0 then 0 else c) := dist_diag 0 0
  rw [Int.zero_add] at h2
  rw [Nat.add_comm 1, Nat.add_comm 1, Int.add_comm] at h
  exact Int.le_trans h (Int.add_le_add_left h2 _)
theorem dist_bounds (hc : 0 ≤ c) (i j : Nat) : 0 ≤ dist eq c i j ∧ dist eq c i j ≤ i + j := by
  refine ⟨?_, ?_⟩
  · have := dist_low (eq := eq) hc i j
    lia
  · induction i with
    | zero => rw [dist_zero]; lia
    | succ i ih => exact Int.le_trans (dist_up i j) (by lia)
end
theorem toNat_pred {i : Int} (h : 0 < i) : i.toNat = (i - 1).toNat + 1 := by lia
theorem pos_of {i : Int} (h : 0 ≤ i - 1) : 0 < i := by lia
theorem pred_of {i : Int} (h : 0 < i) : 0 ≤ i - 1 := by lia
theorem ne_pred {i : Int} (h : i = i - 1) : False := by lia
section
variable {x y : Str} {cost i j : Int}
theorem eqAt_at (hi : 0 ≤ i) (hj : 0 ≤ j) : eqAt x y i.toNat j.toNat = decide (Txt.item x i = Txt.item y j) := by
  unfold eqAt
  rw [Int.toNat_of_nonneg hi, Int.toNat_of_nonneg hj]
theorem dI_bounds {a b : Int} (hc : 0 ≤ cost) (ha : 0 ≤ a) (hb : 0 ≤ b) : 0 ≤ dI x y cost a b ∧ dI x y cost a b ≤ a + b := by
  have := dist_bounds (eq := eqAt x y) hc a.toNat b.toNat
  rw [Int.toNat_of_nonneg ha, Int.toNat_of_nonneg hb] at this
  exact this
theorem dI_at (hi : 0 < i) (hj : 0 < j) : dI x y cost i j = min (min (dI x y cost (i - 1) j + 1) (dI x y cost i (j - 1) + 1)) (dI x y cost (i - 1) (j - 1) + (if Txt.item x (i - 1) = Txt.item y (j - 1) then 0 else cost)) := by
  unfold dI
  rw [toNat_pred hi, toNat_pred hj, dist_succ, eqAt_at (pred_of hi) (pred_of hj)]
  simp only [decide_eq_true_eq]
theorem dI_up (hi : 0 < i) : dI x y cost i j ≤ dI x y cost (i - 1) j + 1 := by
  unfold dI
  rw [toNat_pred hi]
  exact dist_up ..
theorem dI_left (hj : 0 < j) : dI x y cost i j ≤ dI x y cost i (j - 1) + 1 := by
  unfold dI
  rw [toNat_pred hj]
  exact dist_left ..
theorem dI_diag (hi : 0 < i) (hj : 0 < j) : dI x y cost i j ≤ dI x y cost (i - 1) (j - 1) + (if Txt.item x (i - 1) = Txt.item y (j - 1) then 0 else cost) := by
  rw [dI_at hi hj]
  exact Int.min_le_right ..
end
end

section

theorem init_spec' {w : World} {p : Program} {loose : List Str} {mean : ExcName → Option Value} {mg mb : Str → Option Value}
   {dp un : Nat} {gd : Option (List Code)} {cn : Str} {cs : Scope} {a : Addr} {ccd : Value} {cl : List (Str × Addr)} {outer : List Env} {A₀ : Around} {base h₀ : Heap} {L : Addr} {m : Str → Option Value} {s : Shared} {Q E : Value → Shared → Prop}
   {news : Led} {pi qi : Int} {ti tj : Tok}
   (B : Below A₀ base outer h₀) (F : Fr h₀ L s.heap m) (X : (hd.heap_39 w.params).In h₀) (N : News h₀ L s.heap news) (T : Top p loose mean mg mb h₀) (hk : cs.kind = .function)
   (hP0 : 1 ≤ pi) (hq0 : 1 ≤ qi) (hP : pi < 100) (hq : qi < 100)
   (hd : dp + 1 < recursionLimit) (hu : un + 8 < cLine)
   (hret : ∀ h' tk' lv la, Fr h₀ L h' m → News h₀ L h' (lv ++ news) → LevAt lv la pi.toNat qi.toNat (fun i j => if i = 0 then j else if j = 0 then i else 0) → Off lv news → Q (.ref la) { s with heap := h', toks := tk' }) :
   wpAny (model PySem.Challenge.rw_be0026_01.row.prog w) (ktrTop dp un gd cn cs L a ccd cl outer) (call (.ref 28) [.int pi ti, .int qi tj]) Q E s := by
  have e1 : pi = (pi.toNat : Int) := by lia
  have e2 : qi = (qi.toNat : Int) := by lia
  rw [e1, e2]
  exact init_spec B F X N T hk (by lia) (by lia) (by lia) (by lia) hd hu hret
noncomputable def gOut (x y : Str) (c : Int) (i : Nat) : Int → Int → Int := fun a b => if a ≤ i then dI x y c a b else if b = 0 then a else 0
noncomputable def gIn (x y : Str) (c : Int) (i j : Nat) : Int → Int → Int := fun a b => if a ≤ i ∨ (a = 1 + i ∧ b ≤ j) then dI x y c a b else if b = 0 then a else 0
theorem gOut_init {x y : Str} {c a b : Int} (ha : 0 ≤ a) (hb : 0 ≤ b) : (if a = 0 then b else if b = 0 then a else 0) = gOut x y c 0 a b := by
  unfold gOut
  by_cases h : a = 0
  · subst h
    rw [if_pos rfl, if_pos (by decide), dI_zero _ _ _ _ hb]
  · rw [if_neg h, if_neg (c := a ≤ ((0 : Nat) : Int)) (by lia)]
theorem gIn_init {x y : Str} {c a b : Int} {i : Nat} (ha : 0 ≤ a) (hb : 0 ≤ b) : gOut x y c i a b = gIn x y c i 0 a b := by
  unfold gOut gIn
  by_cases h : a ≤ i
  · rw [if_pos h, if_pos (.inl h)]
  · rw [if_neg h]
    by_cases h2 : a = 1 + i ∧ b ≤ ((0 : Nat) : Int)
    · have hb0 : b = 0 := by lia
      subst hb0
      rw [if_pos rfl, if_pos (.inr h2), dI_col _ _ _ _ ha]
    · rw [if_neg (c := a ≤ (i : Int) ∨ a = 1 + (i : Int) ∧ b ≤ ((0 : Nat) : Int)) (by lia)]
theorem gIn_done {x y : Str} {c a b : Int} {i n : Nat} (hb : b < n + 1) : gIn x y c i n a b = gOut x y c (i + 1) a b := by
  unfold gOut gIn
  by_cases h : a ≤ ((i + 1 : Nat) : Int)
  · rw [if_pos (by lia), if_pos h]
  · rw [if_neg (by lia), if_neg h]
theorem gIn_step {x y : Str} {c a b : Int} {i j : Nat} (ha : 0 ≤ a) (hb : 0 ≤ b) : setG (gIn x y c i j) (1 + i) (1 + j) (stepVal (gIn x y c i j) x y c (1 + i) (1 + j)) a b = gIn x y c i (j + 1) a b := by
  have ei : (1 : Int) + i - 1 = i := by lia
  have ej : (1 : Int) + j - 1 = j := by lia
  have h1 : gIn x y c i j (i : Int) (1 + j) = dI x y c i (1 + j) := by unfold gIn; rw [if_pos (.inl (Int.le_refl _))]
  have h2 : gIn x y c i j (1 + i) (j : Int) = dI x y c (1 + i) j := by unfold gIn; rw [if_pos (.inr ⟨rfl, Int.le_refl _⟩)]
  have h3 : gIn x y c i j (i : Int) (j : Int) = dI x y c i j := by unfold gIn; rw [if_pos (.inl (Int.le_refl _))]
  have hv : stepVal (gIn x y c i j) x y c (1 + i) (1 + j) = dI x y c (1 + i) (1 + j) := by
    unfold stepVal
    rw [ei, ej, h1, h2, h3, dI_step]
  rw [hv]
  unfold setG
  by_cases h : a = 1 + i ∧ b = 1 + j
  · rw [if_pos h]
    unfold gIn
    rw [if_pos (.inr ⟨h.1, by lia⟩), h.1, h.2]
  · rw [if_neg h]
    unfold gIn
    by_cases d : a ≤ i ∨ (a = 1 + i ∧ b ≤ j)
    · rw [if_pos d, if_pos (by lia)]
    · rw [if_neg d, if_neg (c := a ≤ (i : Int) ∨ a = 1 + (i : Int) ∧ b ≤ ((j + 1 : Nat) : Int)) (by lia)]
theorem item_left {x y : Str} {k : Int} (h0 : 0 ≤ k) (h1 : k < x.length) : ∃ c ∈ (x ++ y).cps.toList, Txt.item x k = ⟨#[c]⟩ := by
  obtain ⟨c, hc, e⟩ := item_mem h0 h1
  exact ⟨c, by rw [Str.cps_append]; simp; exact .inl (by simpa using hc), e⟩
theorem item_right {x y : Str} {k : Int} (h0 : 0 ≤ k) (h1 : k < y.length) : ∃ c ∈ (x ++ y).cps.toList, Txt.item y k = ⟨#[c]⟩ := by
  obtain ⟨c, hc, e⟩ := item_mem h0 h1
  exact ⟨c, by rw [Str.cps_append]; simp; exact .inr (by simpa using hc), e⟩
section

local macro_rules | `(tactic| walk_at "subscriptTail") => `(tactic| (k_here; (with_reducible show wpAny _ _ (subscriptTail _ _ (Value.ref _) (Value.str _ _)) _ _ _); k_dflt (refine' tab_get ?N ?m ?T ?c ?_; (case N => k_asm); (case m => first | exact List.mem_append_right _ (.head _)); (case T => with_reducible assumption); (case c => with_reducible assumption); k_whole; intro z9 t9)))
local macro_rules | `(tactic| walk_at "subscriptTail") => `(tactic| (k_here; (with_reducible show wpAny _ _ (subscriptTail _ _ (Value.ref _) (Value.int _ _)) _ _ _); k_dflt (first
  | (refine' lev_item ?N ?C ?sub ?a ?b ?c ?_; (case N => k_asm); (case C => with_reducible assumption); (case sub => exact sub_left sub_refl); (case a => lia); (case b => lia); (case c => lia); k_whole; intro r9 hr9)
  | (refine' row_item ?N ?C ?sub ?a ?b ?c ?_; (case N => k_asm); (case C => with_reducible assumption); (case sub => exact sub_left sub_refl); (case a => lia); (case b => lia); (case c => lia); k_whole; intro t9))))
local macro_rules | `(tactic| walk_at "setItem ref str") => `(tactic| refine stop_here ?_)

theorem ed_spec {w : World} {p : Program} {loose : List Str} {mean : ExcName → Option Value} {mg mb : Str → Option Value}
   {dp un : Nat} {gd : Option (List Code)} {cn : Str} {cs : Scope} {a : Addr} {ccd : Value} {cl : List (Str × Addr)} {outer : List Env} {A₀ : Around} {base h₀ : Heap} {L : Addr} {m : Str → Option Value} {s : Shared} {Q E : Value → Shared → Prop}
   {news : Led} {x y : Str} {cost : Int} {t1 t2 t3 : Tok}
   (B : Below A₀ base outer h₀) (F : Fr h₀ L s.heap m) (X : (hd.heap_39 w.params).In h₀) (N : News h₀ L s.heap news) (T : Top p loose mean mg mb h₀) (hk : cs.kind = .function)
   (hx : x.length < 40) (hy : y.length < 40)
   (hd : dp + 5 < recursionLimit) (hu : un + 40 < cLine)
   (hret : ∀ h' tk' t, Fr h₀ L h' m → News h₀ L h' news → Q (.int (dI x y cost x.length y.length) t) { s with heap := h', toks := tk' }) :
   wpAny (model PySem.Challenge.rw_be0026_01.row.prog w) (ktrTop dp un gd cn cs L a ccd cl outer) (call (.ref 49) [.str x t1, .str y t2, .int cost t3]) Q E s := by
  revert X; k_fill; intro X
  refine wpAny_call ?_
  k_dflt k_enter
  k_steps
  refine ⟨?_⟩
  k_dflt (refine' check_spec ?B ?F ?X ?N ?T ?hk ?h1 ?h2 ?hd ?hu ?_; (case h1 => lia); (case h2 => lia); cell_enter; k_whole; intro h' tk' F' N')
  k_steps
  refine ⟨?_⟩
  k_dflt (refine' init_spec' ?B ?F ?X ?N ?T ?hk ?h1 ?h2 ?h3 ?h4 ?hd ?hu ?_; (case h1 => lia); (case h2 => lia); (case h3 => lia); (case h4 => lia); cell_enter; k_whole; intro h' tk' lv' la' F' N' hC' ho')
  k_steps
  refine ⟨?_⟩
  k_dflt (refine' lastt_spec ?B ?F ?X ?N ?T ?hk ?h1 ?hd ?hu ?_; (case h1 => (rw [Str.length_append]; lia)); cell_enter; k_whole; intro h' tk' d' o' F' N' hC' ho')
  k_steps
  refine ⟨?_⟩
  have e1 : ((x.length : Int) + 1).toNat = x.length + 1 := by lia
  have e2 : ((y.length : Int) + 1).toNat = y.length + 1 := by lia
  (rename LevAt _ _ _ _ _ => hC); (rename Off _ news => ho); (rename Off [_] _ => hod); (rename TabOk _ _ _ _ => hT); (rename News _ _ _ _ => N2); (rename Fr _ _ _ _ => F2)
  rw [e1, e2] at hC
  refine range_loop (n := x.length) (fun i m nx => ∃ lv la d o ta tb, Has m [("s1", .str x t1), ("s2", .str y t2), ("len1", .int x.length ta), ("len2", .int y.length tb), ("lev", .ref la), ("last_left_t", .ref d), ("substitution_cost", .int cost t3), ("transpositions", .bool false)] ∧
      nx = lv ++ (d, o) :: news ∧ LevAt lv la (x.length + 1) (y.length + 1) (gOut x y cost i) ∧ Off lv ((d, o) :: news) ∧ Off [(d, o)] news ∧ TabOk PySem.Challenge.rw_be0026_01.row.prog w o (x ++ y))
    rfl (by assumption) (by lia) (by lia) (by lia) F2 (kst_newsOf N2 mem_mid) ?_ ?_ ?_
  · exact ⟨_, _, _, _, _, _, by k_flat, rfl, hC.congr fun a b ha _ hb _ => gOut_init ha hb, Off.app (r1 := [_]) (hod.sub fun p hp => List.mem_append_left _ hp).symm ho, hod.sub fun p hp => List.mem_append_right _ hp, hT⟩
  · clear hC ho hod hT N2 F2
    rintro i t m₁ nx h tk own hi hoff ⟨lv, la, d, o, ta, tb, hM, rfl, hC, ho, hod, hT⟩ F1 N1 TP hTP
    k_steps
    refine ⟨?_⟩
    (rename News _ _ _ _ => N2); (rename Fr _ _ _ _ => F2)
    have hoff2 : Off lv own := hoff.symm.subL fun p hp => List.mem_append_left _ hp
    have hoffd : Off [(d, o)] own := hoff.symm.subL fun p hp => List.mem_append_right _ (by rw [List.mem_singleton.mp hp]; exact .head _)
    refine range_loop (n := y.length) (fun j m nx => ∃ lv k tk, Has m [("i", .int (1 + i) t), ("s1", .str x t1), ("s2", .str y t2), ("len1", .int x.length ta), ("len2", .int y.length tb), ("lev", .ref la), ("last_left_t", .ref d), ("substitution_cost", .int cost t3), ("transpositions", .bool false)] ∧
        m "last_right_buf" = some (.int k tk) ∧ nx = lv ++ (d, o) :: (news ++ own) ∧ LevAt lv la (x.length + 1) (y.length + 1) (gIn x y cost i j) ∧ Off lv ((d, o) :: (news ++ own)))
      rfl (by assumption) (by lia) (by lia) (by lia) F2 (kst_newsOf N2 (by rw [List.append_assoc]; exact fun _ h => h)) ?_ ?_ ?_
    · exact ⟨lv, _, _, Has.cons (by cell_eq) (by k_tabat), by cell_eq, rfl, hC.congr fun a b ha _ hb _ => gIn_init ha hb, Off.app (r1 := (d, o) :: news) ho hoff2⟩
    · clear hC N2 F2 N1 F1
      rintro j tj m₂ nx h2 tk2 own2 hj hoffI ⟨lv, k, tlb, hM2, hlb, rfl, hC, hoI⟩ F1 N1 TP hTP
      replace N1 := news_assoc N1
      have hoL : Off lv ((d, o) :: (news ++ own) ++ own2) := Off.app hoI (hoffI.symm.subL fun p hp => List.mem_append_left _ hp)
      have hc : ∃ c ∈ (x ++ y).cps.toList, Txt.item y (1 + (j : Int) - 1) = ⟨#[c]⟩ := item_right (by lia) (by lia)
      k_steps
      all_goals refine ⟨?_⟩
      all_goals k_dflt (refine' step_spec ?B ?F ?X ?N ?T ?hk ?C ?ho ?i0 ?i1 ?j0 ?j1 ?hP ?hq ?hx ?hy ?hd ?hu ?_; (case C => with_reducible assumption); (case ho => with_reducible assumption); (case i0 => lia); (case i1 => lia); (case j0 => lia); (case j1 => lia); (case hP => lia); (case hq => lia); (case hx => lia); (case hy => lia); cell_enter; k_whole; intro h' tk' lv' F' N' hC' hA')
      all_goals k_steps
      all_goals ((rename LevAt _ _ _ _ _ => hC2); (rename News _ _ _ _ => N3); (rename Fr _ _ _ _ => F3); (rename List.map _ _ = List.map _ _ => hA))
      all_goals exact hTP _ (turn_lv F3 N3 hoffI (hoL.congr hA) ⟨_, _, _, by k_tabat, by cell_eq, rfl, hC2.congr fun a b ha _ hb _ => gIn_step ha hb, (hoL.congr hA).sub fun p hp => List.mem_append_left _ hp⟩)
    · clear hC N2 F2 N1 F1 ho
      rintro m₂ nx h2 tk2 ⟨lv, k, tlb, hM2, hlb, rfl, hC, hoI⟩ F1 N1
      have hc : ∃ c ∈ (x ++ y).cps.toList, Txt.item x (1 + (i : Int) - 1) = ⟨#[c]⟩ := item_left (by lia) (by lia)
      have ho1 : Off lv [(d, o)] := hoI.sub fun p hp => by rw [List.mem_singleton.mp hp]; exact .head _
      have ho2 : Off [(d, o)] (news ++ own) := Off.app hod hoffd
      dsimp only
      k_steps
      refine ⟨?_⟩
      (k_dflt (refine' tab_set ?y1F ?y1N ?y1sub ?y1ho1 ?y1ho2 ?y1T ?y1c ?_; (case y1F => k_asm); (case y1N => k_asm); (case y1sub => exact sub_refl); (case y1ho1 => with_reducible assumption); (case y1ho2 => with_reducible assumption); (case y1T => with_reducible assumption); (case y1c => with_reducible assumption); k_whole; intro h' o' F' N' hT'; (try k_sweep)))
      k_steps
      (rename News _ _ _ _ => N3); (rename Fr _ _ _ _ => F3); (rename TabOk _ _ _ _ => hT3)
      refine hTP _ (turn_lv (lv := lv) (rest := (d, _) :: news) F3 N3 ?_ ?_ ⟨lv, la, d, _, ta, tb, ?_, rfl, hC.congr fun a b ha _ hb hb2 => gIn_done hb2, ?_, ?_, hT3⟩)
      · exact Off.app (hoI.sub fun p hp => List.mem_cons_of_mem _ (List.mem_append_right _ hp)).symm (Off.cons (fun p hp => (hoffd _ (.head _) p hp).symm) (hoff.sub fun p hp => List.mem_append_right _ (List.mem_cons_of_mem _ hp)))
      · exact Off.cons (fun p hp => hoI p hp (d, o) (.head _)) (hoI.sub fun p hp => List.mem_cons_of_mem _ hp)
      · have := hM2.tail
        k_tabat
      · exact Off.cons (fun p hp => hoI p hp (d, o) (.head _)) (hoI.sub fun p hp => List.mem_cons_of_mem _ (List.mem_append_left _ hp))
      · exact hod.congr rfl
  clear hC ho hod hT N2 F2
  rintro m₁ nx h tk ⟨lv, la, d, o, ta, tb, hM, rfl, hC, ho, hod, hT⟩ F1 N1
  dsimp only
  k_steps
  (rename News _ _ _ _ => N3); (rename Fr _ _ _ _ => F3)
  have ev : gOut x y cost x.length (x.length : Int) (y.length : Int) = dI x y cost x.length y.length := if_pos (Int.le_refl _)
  rw [ev]
  exact hret _ _ _ F3 (kst_newsOf N3 fun p hp => List.mem_append_right _ (List.mem_cons_of_mem _ hp))
end
end

section

abbrev tupObj (vs : List Value) (n : Nat) : Obj := { cls := .type "tuple", data := .seq vs.toArray n }

/-- a list of pairs of ints -/
structure TLC (pl : Led) (al : Addr) (ps : List (Int × Int)) (ra : List Addr) : Prop where
  len : ra.length = ps.length
  top : ∃ n0, (al, listOf (ra.map Value.ref).toArray n0) ∈ pl
  off : al ∉ ra
  items : ∀ (k : Nat) r, ra[k]? = some r → ∃ i j t u nn, ps[k]? = some (i, j) ∧ (r, tupObj [.int i t, .int j u] nn) ∈ pl
def TL (pl : Led) (al : Addr) (ps : List (Int × Int)) : Prop := ∃ ra, TLC pl al ps ra

section
variable {prog : Program} {w : World} {A : Around} {E : Value → Shared → Prop} {s : Shared} {h₀ : Heap} {L a al r : Addr} {m : Str → Option Value} {news lv pl rest : Led} {p q : Nat} {G : Int → Int → Int} {k i j : Int} {t u : Tok} {ps : List (Int × Int)}

theorem call_len_lev {Q : Value → Shared → Prop} (N : News h₀ L s.heap news) (C : LevAt lv a p q G) (hsub : ∀ z ∈ lv, z ∈ news) (hp : (p : Int) < 2 ^ 62)
    (h : ∀ t, Q (.int p t) { s with toks := s.toks + 1 + 1 }) : wpAny (model prog w) A (call (.builtin "len") [.ref a]) Q E s := by
  obtain ⟨vs, hl, e⟩ := lev_len N C hsub
  have e2 : vs.toArray.size = p := by rw [List.size_toArray, e]
  exact len_list hl (by rw [e2]; lia) (by rw [e2]; exact h _)
theorem call_len_row {Q : Value → Shared → Prop} (N : News h₀ L s.heap news) (C : RowA lv a p q G k r) (hsub : ∀ z ∈ lv, z ∈ news) (hp : (q : Int) < 2 ^ 62)
    (h : ∀ t, Q (.int q t) { s with toks := s.toks + 1 + 1 }) : wpAny (model prog w) A (call (.builtin "len") [.ref r]) Q E s := by
  obtain ⟨vs, hl, e⟩ := row_len N C hsub
  have e2 : vs.toArray.size = q := by rw [List.size_toArray, e]
  exact len_list hl (by rw [e2]; lia) (by rw [e2]; exact h _)
theorem call_len_tl {Q : Value → Shared → Prop} (N : News h₀ L s.heap news) (C : TL pl al ps) (hsub : ∀ z ∈ pl, z ∈ news) (hp : (ps.length : Int) < 2 ^ 62)
    (h : ∀ t, Q (.int ps.length t) { s with toks := s.toks + 1 + 1 }) : wpAny (model prog w) A (call (.builtin "len") [.ref al]) Q E s := by
  obtain ⟨ra, C⟩ := C
  obtain ⟨n0, ht⟩ := C.top
  have hl := isList_of (N _ (hsub _ ht)).1
  have e2 : (ra.map Value.ref).toArray.size = ps.length := by rw [List.size_toArray, List.length_map, C.len]
  exact len_list hl (by rw [e2]; lia) (by rw [e2]; exact h _)

theorem TLC.append {ra : List Addr} {n0 nn : Nat} (C : TLC pl al ps ra) (ht : (al, listOf (ra.map Value.ref).toArray n0) ∈ pl) (hb : AllLt r pl) :
    TLC ((r, tupObj [.int i t, .int j u] nn) :: updAt al (listOf ((ra.map Value.ref).toArray.push (.ref r)) (n0 + 1)) pl) al (ps ++ [(i, j)]) (ra ++ [r]) where
  len := by rw [List.length_append, List.length_append, C.len]; rfl
  top := by
    refine ⟨n0 + 1, List.mem_cons_of_mem _ ?_⟩
    have e : ((ra ++ [r]).map Value.ref).toArray = (ra.map Value.ref).toArray.push (.ref r) := by simp
    rw [e]
    exact updAt_self ht
  off := by
    intro hm
    rcases List.mem_append.mp hm with hm | hm
    · exact C.off hm
    · have e := List.mem_singleton.mp hm
      exact Nat.lt_irrefl _ (e ▸ kst_ltOf hb _ ht)
  items := fun k r' h' => by
    by_cases c : k < ra.length
    · rw [List.getElem?_append_left c] at h'
      obtain ⟨i', j', t', u', nn', h1, h2⟩ := C.items k r' h'
      refine ⟨i', j', t', u', nn', ?_, List.mem_cons_of_mem _ (updAt_other h2 ?_)⟩
      · rw [List.getElem?_append_left (by rw [← C.len]; exact c)]; exact h1
      · intro e
        have e' : r' = al := e
        exact C.off (e' ▸ List.mem_of_getElem? h')
    · have hk : k = ra.length := by
        obtain ⟨h1, _⟩ := List.getElem?_eq_some_iff.mp h'
        rw [List.length_append] at h1
        have : [r].length = 1 := rfl
        lia
      subst hk
      rw [List.getElem?_append_right (Nat.le_refl _), Nat.sub_self] at h'
      cases h'
      refine ⟨i, j, t, u, nn, ?_, .head _⟩
      rw [List.getElem?_append_right (by rw [C.len]; exact Nat.le_refl _), C.len, Nat.sub_self]
      rfl

theorem tl_append {Q : Value → Shared → Prop} {nn : Nat} (F : Fr h₀ L s.heap m) (N : News h₀ L s.heap news) (C : TL pl al ps) (ho : Off pl rest) (hsub : ∀ z ∈ pl ++ rest, z ∈ news) (hr : (r, tupObj [.int i t, .int j u] nn) ∈ news)
    (hb : AllLt r (pl ++ rest)) (hp : ps.length < 1000)
    (h : ∀ h' pl', Fr h₀ L h' m → News h₀ L h' (pl' ++ rest) → TL pl' al (ps ++ [(i, j)]) → Off pl' rest → Q .none { s with heap := h' }) :
    wpAny (model prog w) A (call (.builtin "list.append") [.ref al, .ref r]) Q E s := by
  obtain ⟨ra, C⟩ := C
  obtain ⟨n0, ht⟩ := C.top
  have N' : News h₀ L s.heap (pl ++ rest) := fun z hz => N z (hsub z hz)
  have z := N' _ (List.mem_append_left _ ht)
  have zr := N _ hr
  have har : r ≠ al := fun e => Nat.lt_irrefl _ (e ▸ kst_ltOf hb _ (List.mem_append_left _ ht))
  have hb1 : AllLt r pl := allLt_sub hb fun p hp => List.mem_append_left _ hp
  have hb2 : AllLt r rest := allLt_sub hb fun p hp => List.mem_append_right _ hp
  have hz : (ra.map Value.ref).toArray.size ≤ sizeLine := by
    rw [List.size_toArray, List.length_map, C.len]
    exact Nat.le_trans (Nat.le_of_lt hp) (by decide)
  refine append_at (hsz := hz) z.1 fun h' hs hg => ?_
  refine h h' _ (F.change hs z.2.1 z.2.2) ?_ ⟨_, C.append (nn := nn) (t := t) (u := u) (i := i) (j := j) ht hb1⟩ ?_
  · intro x hx
    rcases List.mem_cons.mp hx with rfl | hx
    · exact ⟨(hs.2 r har).trans zr.1, zr.2⟩
    · exact news_upd N' ht ho hs hg x hx
  · intro x hx y hy
    rcases List.mem_cons.mp hx with rfl | hx
    · exact Off.below hb2 _ (.head _) y hy
    · exact ho.congr (updAt_fst ..) x hx y hy

/-- an item of a list of pairs: its pair comes to the ledger's head -/
theorem tl_item {value slice : PySem.Expr} {Q : Value → Shared → Prop} (N : News h₀ L s.heap news) (C : TL pl al ps) (hsub : ∀ z ∈ pl, z ∈ news) (h0 : 0 ≤ k) (h1 : k < ps.length) (hp : (ps.length : Int) < 2 ^ 62)
    (h : ∀ r i j t u nn, ps[k.toNat]? = some (i, j) → News h₀ L s.heap ((r, tupObj [.int i t, .int j u] nn) :: news) → Q (.ref r) s)
    (hs : subscripted slice false (.ref al) (.int k u) = operate [.ref al, .int k u] (getItem (.ref al) (.int k u)) := by with_unfolding_all rfl) (hg : ∀ r, letTemporaryGo value (.ref al) r = pure () := by intro _; with_unfolding_all rfl) :
    wpAny (model prog w) A (subscriptTail value slice (.ref al) (.int k u)) Q E s := by
  obtain ⟨ra, C⟩ := C
  have hk : k.toNat < ra.length := by rw [C.len]; lia
  obtain ⟨n0, ht⟩ := C.top
  obtain ⟨i, j, t, u', nn, h2, h3⟩ := C.items k.toNat ra[k.toNat] (by simp [hk])
  refine item_listL (l := ra.map Value.ref) (isList_of (N _ (hsub _ ht)).1) h0 (by lia) (x := .ref ra[k.toNat]) (by simp [hk]) (h _ i j t u' nn h2 fun z hz => ?_) hs hg
  rcases List.mem_cons.mp hz with rfl | hz
  · exact N _ (hsub _ h3)
  · exact N z hz
theorem tl_last {value slice : PySem.Expr} {Q : Value → Shared → Prop} (N : News h₀ L s.heap news) (C : TL pl al ps) (hsub : ∀ z ∈ pl, z ∈ news) (hk : k = -1) (h1 : 0 < ps.length) (hp : (ps.length : Int) < 2 ^ 62)
    (h : ∀ r i j t u nn, ps[ps.length - 1]? = some (i, j) → News h₀ L s.heap ((r, tupObj [.int i t, .int j u] nn) :: news) → Q (.ref r) s)
    (hs : subscripted slice false (.ref al) (.int k u) = operate [.ref al, .int k u] (getItem (.ref al) (.int k u)) := by with_unfolding_all rfl) (hg : ∀ r, letTemporaryGo value (.ref al) r = pure () := by intro _; with_unfolding_all rfl) :
    wpAny (model prog w) A (subscriptTail value slice (.ref al) (.int k u)) Q E s := by
  obtain ⟨ra, C⟩ := C
  have hlen := C.len
  have hk' : ps.length - 1 < ra.length := by lia
  obtain ⟨n0, ht⟩ := C.top
  obtain ⟨i, j, t, u', nn, h2, h3⟩ := C.items (ps.length - 1) ra[ps.length - 1] (by simp [hk'])
  have hl := isList_of (N _ (hsub _ ht)).1
  have hsz : (ra.map Value.ref).toArray.size = ps.length := by rw [List.size_toArray, List.length_map, C.len]
  have he : (k + ((ra.map Value.ref).toArray.size : Int)).toNat = ps.length - 1 := by rw [hsz]; lia
  refine subscriptTail_builtin hl.typeIs slot_list_getitem.lookup (wpAny_getItem_list_neg hl (by lia) (by rw [hsz]; lia) (by lia) (x := .ref ra[ps.length - 1]) ?_ (h _ i j t u' nn h2 fun z hz => ?_)) hs hg
  · rw [he]; simp [hk']
  · rcases List.mem_cons.mp hz with rfl | hz
    · exact N _ (hsub _ h3)
    · exact N z hz
end

theorem news_cassoc {h₀ h : Heap} {L : Addr} {x : Addr × Obj} {a b c : Led} (N : News h₀ L h (x :: ((a ++ b) ++ c))) : News h₀ L h (x :: (a ++ (b ++ c))) := by rw [← List.append_assoc]; exact N
theorem news_front {h₀ h : Heap} {L : Addr} {x : Addr × Obj} {a : Led} (N : News h₀ L h a) (hm : x ∈ a) : News h₀ L h (x :: a) := fun p hp => by
  rcases List.mem_cons.mp hp with rfl | hp
  · exact N _ hm
  · exact N p hp
theorem news_drop3 {h₀ h : Heap} {L : Addr} {a b c : Addr × Obj} {l : Led} (N : News h₀ L h (a :: b :: c :: l)) : News h₀ L h ([a, b] ++ l) := fun p hp => by
  rcases List.mem_cons.mp hp with rfl | hp
  · exact N _ (.head _)
  · rcases List.mem_cons.mp hp with rfl | hp
    · exact N _ (.tail _ (.head _))
    · exact N _ (.tail _ (.tail _ (.tail _ hp)))
section
variable {prog : Program} {w : World} {A : Around} {E : Value → Shared → Prop} {s : Shared} {h₀ : Heap} {L a b : Addr} {news : Led} {i j k l : Int} {t u t' u' : Tok} {n n' : Nat}
theorem pair_reads {h : Heap} (N : News h₀ L h news) (hm : (a, tupObj [.int i t, .int j u] n) ∈ news) : Reads h (.ref a) (.tuple [.int i, .int j]) [] :=
  reads_tuple_at (as := []) (N _ hm).1 rfl rfl (.cons (as := []) (bs := []) (.int _ _) (.cons (as := []) (bs := []) (.int _ _) .nil))
theorem pair_eqv : PyData.eqv (.tuple [.int i, .int j]) (.tuple [.int k, .int l]) = decide (i = k ∧ j = l) := by
  simp only [PyData.eqv, PyData.eqvAll, Bool.and_true, Bool.decide_and]
  rfl
theorem pair_ne {Q : Value → Shared → Prop} (N : News h₀ L s.heap news) (ha : (a, tupObj [.int i t, .int j u] n) ∈ news) (hb : (b, tupObj [.int k t', .int l u'] n') ∈ news) (hu : A.units + 64 < cLine)
    (h : Q (.bool (!decide (i = k ∧ j = l))) s) : wpAny (model prog w) A (compareOp .NotEq (.ref a) (.ref b)) Q E s :=
  ne_dataH (pair_reads N ha) (pair_reads N hb) rfl rfl hu (by rw [pair_eqv]; exact h)
theorem pair_ne_t {Q : Value → Shared → Prop} (N : News h₀ L s.heap news) (ha : (a, tupObj [.int i t, .int j u] n) ∈ news) (hb : (b, tupObj [.int k t', .int l u'] n') ∈ news) (hu : A.units + 64 < cLine) (hne : ¬(i = k ∧ j = l))
    (h : Q (.bool true) s) : wpAny (model prog w) A (compareOp .NotEq (.ref a) (.ref b)) Q E s :=
  pair_ne N ha hb hu (by rw [decide_eq_false hne]; exact h)
theorem pair_ne_f {Q : Value → Shared → Prop} (N : News h₀ L s.heap news) (ha : (a, tupObj [.int i t, .int j u] n) ∈ news) (hb : (b, tupObj [.int k t', .int l u'] n') ∈ news) (hu : A.units + 64 < cLine) (he : i = k ∧ j = l)
    (h : Q (.bool false) s) : wpAny (model prog w) A (compareOp .NotEq (.ref a) (.ref b)) Q E s :=
  pair_ne N ha hb hu (by rw [decide_eq_true he]; exact h)
end
/-- the end of a turn of a while -/
structure WEnd (h₀ : Heap) (L : Addr) (s : Shared) (J : Nat → (Str → Option Value) → Led → Prop) (n : Nat) (s₃ : Shared) : Prop where
  out : ∃ h' tk m' nx n', s₃ = { s with heap := h', toks := tk } ∧ Fr h₀ L h' m' ∧ News h₀ L h' nx ∧ n' < n ∧ J n' m' nx
def WPost (h₀ : Heap) (L : Addr) (s : Shared) (J : Nat → (Str → Option Value) → Led → Prop) (Q : Flow → Shared → Prop) (n : Nat) (f : Flow) (s₃ : Shared) : Prop :=
  match f with
  | .ret v => Q (.ret v) s₃
  | .brk => Q .next s₃
  | _ => WEnd h₀ L s J n s₃
theorem WEnd.intro {h₀ : Heap} {L : Addr} {s : Shared} {J : Nat → (Str → Option Value) → Led → Prop} {n n' : Nat} {h' : Heap} {tk : Nat} {m' : Str → Option Value} {nx : Led} (F : Fr h₀ L h' m') (N : News h₀ L h' nx) (hn : n' < n) (hj : J n' m' nx) :
    WEnd h₀ L s J n { s with heap := h', toks := tk } := ⟨h', tk, m', nx, n', rfl, F, N, hn, hj⟩
section
variable {prog : Program} {w : World} {A : Around} {E : Value → Shared → Prop} {s : Shared} {h₀ : Heap} {L : Addr} {env : Env} {Q : Flow → Shared → Prop}
theorem while_rule {test : Expr} {body : List Stmt} {pos : Pos} {m : Str → Option Value} {news : Led} (J : Nat → (Str → Option Value) → Led → Prop) {n₀ : Nat}
    (F : Fr h₀ L s.heap m) (N : News h₀ L s.heap news) (hJ : J n₀ m news)
    (turn : ∀ n m₁ nx h tk, J n m₁ nx → Fr h₀ L h m₁ → News h₀ L h nx → ∀ WP : Flow → Shared → Prop, (∀ s₃, WEnd h₀ L s J n s₃ → WP .next s₃) →
      wpAny (model prog w) A (isTrue test env (eval test env)) (fun b s₂ =>
        if b = true then wpAny (model prog w) A (execs body env) WP E s₂ else Q .next s₂) E { s with heap := h, toks := tk })
    (hE : PassesOwn (model prog w) A env E) :
    wpAny (model prog w) A (exec (.While test body [] pos) env) Q E s := by
  refine While_inv2 J F N hJ (fun n m₁ nx h tk F₁ N₁ hJ₁ => wpAny_mono (turn n m₁ nx h tk hJ₁ F₁ N₁ (WPost h₀ L s J Q n) (fun _ h => h)) (fun b s₂ p => ?_) fun _ _ e => e) hE
  cases b with
  | false => simpa using p
  | true =>
    simp only [if_true] at p ⊢
    refine wpAny_mono p (fun f s₃ q => ?_) fun _ _ e => e
    cases f with
    | ret v => exact q
    | brk => exact q
    | next =>
      obtain ⟨h', tk', m', nx', n', rfl, F', N', hn, hj⟩ := q
      exact ⟨h', tk', m', nx', n', rfl, F', N', hn, hj⟩
    | cont =>
      obtain ⟨h', tk', m', nx', n', rfl, F', N', hn, hj⟩ := q
      exact ⟨h', tk', m', nx', n', rfl, F', N', hn, hj⟩
end
end

section

section
variable {prog : Program} {w : World} {A : Around} {E : Value → Shared → Prop} {s : Shared} {env : Env} {h₀ : Heap} {target : Expr} {body : List Stmt} {Q : Flow → Shared → Prop} {m₀ : Str → Option Value} {news dl : Led} {l : Addr} {ps : List (Int × Int)}

/-- nothing is let go where a list's iterator hands on an item -/
def Still (target : Expr) : Prop := ∀ (prog : Program) (w : World) (A : Around) (I l : Addr) (i : Nat) (v : Value) (s : Shared) (Q : Unit → Shared → Prop) (E : Value → Shared → Prop), s.heap.IsListIter I l i → Q () s → wpAny (model prog w) A (letOwnedTupleGo target (.ref I) v) Q E s
theorem still_name {x : Str} {p : Pos} : Still (.Name x p) := fun _ _ _ _ _ _ _ _ _ _ _ h => wpAny_pure h
theorem still_tuple {es : List Expr} {k} {p : Pos} : Still (.Tuple es k p) := fun prog w A I l i v s Q E hi h => by
  cases v with
  | ref T => exact wpAny_letOwnedTupleGo_listiter hi h
  | _ => exact wpAny_pure h

/-- a turn's end, as the library's loop wants it -/
theorem post_fin {L I : Addr} {oI : Obj} {own : Led} {wr : List Addr} {Jn : (Str → Option Value) → Led → Prop} {s₁ s₃ : Shared} {f : Flow} (hown : ∀ p ∈ own, p = (I, oI) ∨ ∀ m nx, Jn m nx → p ∈ nx)
    (p : TurnPost h₀ L Jn [(I, oI)] s₁ Q f s₃) (hwr : wr = [I] := by rfl) : LoopStepV h₀ L wr own Jn s₁ (fun v s' => Q (.ret v) s') (fun s' => Q .next s') f s₃ := by
  subst hwr
  have fin : TurnEnd h₀ L Jn [(I, oI)] s₁ s₃ → LoopStepU h₀ L [I] own Jn s₁ .next s₃ := by
    rintro ⟨h', tk', m', news', nx', e, F', N', hn, ho, ha, hm⟩
    refine ⟨rfl, h', tk', m', nx', e, F', fun p hp => ?_, fun p hp hq => ha _ (.head _) p hp (List.mem_singleton.mp hq).symm, hm⟩
    rcases List.mem_append.mp hp with h3 | h3
    · rcases hown p h3 with rfl | h4
      · exact N' _ (ho _ (.head _))
      · exact N' _ (hn _ (h4 _ _ hm))
    · exact N' p (hn p h3)
  cases f with
  | ret v => exact .ret p
  | brk => exact .brk p
  | next => exact .next (fin p)
  | cont => exact .cont (fin p)
/-- a for over a list of pairs -/
theorem tl_loop (hS : Still target) (J : Nat → (Str → Option Value) → Led → Prop)
    (hh : A.handled = none) (C : TL dl l ps) (F : Fr h₀ env.locals s.heap m₀) (N : News h₀ env.locals s.heap news) (hj : J 0 m₀ news) (hsub : ∀ i m nx, J i m nx → ∀ p ∈ dl, p ∈ nx)
    (turn : ∀ (i : Nat) a b r t u nn m₁ nx h tk own, ps[i]? = some (a, b) → Off own nx → J i m₁ nx → Fr h₀ env.locals h m₁ → News h₀ env.locals h ((r, tupObj [.int a t, .int b u] nn) :: (nx ++ own)) →
      ∀ TP : Flow → Shared → Prop, (∀ s₂, TurnEnd h₀ env.locals (J (i + 1)) own { s with heap := h, toks := tk } s₂ → TP .next s₂) →
      wpAny (model prog w) A (assign target env (.ref r)) (fun _ s₂ => wpAny (model prog w) A (execs body env) TP E s₂) E { s with heap := h, toks := tk })
    (done : ∀ m₁ nx h tk, J ps.length m₁ nx → Fr h₀ env.locals h m₁ → News h₀ env.locals h nx → Q .next { s with heap := h, toks := tk }) :
    wpAny (model prog w) A (pyIter (.ref l)) (fun it s₂ => TurnsAt prog w A h₀ env target body Q E it s₂) E s := by
  obtain ⟨ra, C⟩ := C
  obtain ⟨nn, ht⟩ := C.top
  have hl := hsub _ _ _ hj _ ht
  have hol := (N _ hl).1
  have hls : s.heap.IsList l (ra.map Value.ref).toArray := isList_of hol
  have hne : l ≠ s.heap.objs.size := Nat.ne_of_lt (Heap.lt_size hol)
  refine wpAny_pyIter_list hls ?_
  have W := Walks.list (prog := prog) (w := w) hh s.heap.objs.size l hne (ra.map Value.ref).toArray
  have hlen : (ra.map Value.ref).toArray.size = ps.length := by rw [List.size_toArray, List.length_map, C.len]
  rw [hlen] at W
  have W2 := KTurns.ofWalks (target := target) W fun i v s Q E st hQ => hS prog w A _ _ _ v s Q E st.1 hQ
  refine ⟨_, _, _, ps.length, _, _, _, m₀, news, J, rfl, W2, ?_, ?_, ?_, ⟨⟨_, Heap.get?_push_size _ rfl, rfl, rfl⟩, hls.at fun o e => Heap.get?_push_of_some _ e⟩, F.push _, (fun p hp => ⟨Heap.get?_push_of_some _ (N p hp).1, (N p hp).2⟩), hj, ?_, ?_⟩
  · intro hm
    rcases List.mem_cons.mp hm with e | hm
    · exact absurd F.ns.lt (e ▸ Nat.lt_irrefl _)
    · exact (N _ hl).2.1 ((List.mem_singleton.mp hm).symm)
  · intro b hb
    rw [List.mem_singleton.mp hb]
    exact next_is_new F
  · intro p hp hI
    exact absurd (Heap.lt_size (N p hp).1) ((List.mem_singleton.mp hI) ▸ Nat.lt_irrefl _)
  · intro i v m₁ nx h tk own hin hP hJ hoff hown hget hfp hst F₁ N₁
    have hP' : (ra.map Value.ref)[i]? = some v := by simpa using hP
    rw [List.getElem?_map] at hP'
    obtain ⟨r, hr, rfl⟩ := Option.map_eq_some_iff.mp hP'
    obtain ⟨a, b, t, u, n2, hp, hmem⟩ := C.items i r hr
    have hI0 : h₀.get? s.heap.objs.size = none := next_is_new F
    obtain ⟨⟨oI, hoI, _⟩, _⟩ := id hst
    have hIown : (s.heap.objs.size, oI) ∈ own := hfp _ (List.mem_cons.mpr (.inl rfl)) hI0 _ hoI
    have hlo : h.get? l = some (listOf (ra.map Value.ref).toArray nn) := (N₁ _ (List.mem_append_right _ (hsub _ _ _ hJ _ ht))).1
    have hsep : Off [(s.heap.objs.size, oI)] nx := fun p hp q hq e => by
      rw [List.mem_singleton.mp hp] at e
      exact hoff q hq (List.mem_singleton.mpr e.symm)
    have N₂ : News h₀ env.locals h ((r, tupObj [.int a t, .int b u] n2) :: (nx ++ [(s.heap.objs.size, oI)])) := fun p hp => by
      rcases List.mem_cons.mp hp with rfl | hp
      · exact N₁ _ (List.mem_append_right _ (hsub _ _ _ hJ _ hmem))
      · rcases List.mem_append.mp hp with hp | hp
        · exact N₁ _ (List.mem_append_right _ hp)
        · rw [List.mem_singleton.mp hp]; exact N₁ _ (List.mem_append_left _ hIown)
    refine wpAny_mono (turn i a b r t u n2 m₁ nx h tk _ hp hsep hJ F₁ N₂ _ (fun _ h => h)) (fun _ s₂ h₂ => wpAny_mono h₂ (fun f s₃ p => post_fin (fun p h3 => ?_) p) fun _ _ e => e) fun _ _ e => e
    have h2 : h.get? p.1 = some p.2 := hget p h3
    rcases List.mem_cons.mp (hown p h3) with e | e
    · rw [e, hoI] at h2
      exact .inl (Prod.ext e (Option.some.inj h2).symm)
    · have e := List.mem_singleton.mp e
      rw [e, hlo] at h2
      have h5 : p = (l, listOf (ra.map Value.ref).toArray nn) := Prod.ext e (Option.some.inj h2).symm
      exact .inr fun m nx hm => h5 ▸ hsub _ _ _ hm _ ht
  · exact fun h' tk m' news' F' N' _ hJ => done m' news' h' tk hJ F' N'
end
theorem tl_two {l a b : Addr} {i j i2 j2 : Int} {t u t2 u2 : Tok} {n n1 n2 : Nat} (h1 : a ≠ l) (h2 : b ≠ l) : TL [(l, listOf #[.ref a, .ref b] n), (b, tupObj [.int i2 t2, .int j2 u2] n2), (a, tupObj [.int i t, .int j u] n1)] l [(i, j), (i2, j2)] :=
  ⟨[a, b], rfl, ⟨n, .head _⟩, (fun hm => by
    rcases List.mem_cons.mp hm with e | hm
    · exact h1 e.symm
    · exact h2 (List.mem_singleton.mp hm).symm), fun k r hr => by
    match k, hr with
    | 0, hr => cases hr; exact ⟨i, j, t, u, n1, rfl, .tail _ (.tail _ (.head _))⟩
    | 1, hr => cases hr; exact ⟨i2, j2, t2, u2, n2, rfl, .tail _ (.head _)⟩
    | k + 2, hr => cases hr⟩
theorem tl_three {l a b c : Addr} {i j i2 j2 i3 j3 : Int} {t u t2 u2 t3 u3 : Tok} {n n1 n2 n3 : Nat} (h1 : a ≠ l) (h2 : b ≠ l) (h3 : c ≠ l) :
    TL [(l, listOf #[.ref a, .ref b, .ref c] n), (c, tupObj [.int i3 t3, .int j3 u3] n3), (b, tupObj [.int i2 t2, .int j2 u2] n2), (a, tupObj [.int i t, .int j u] n1)] l [(i, j), (i2, j2), (i3, j3)] :=
  ⟨[a, b, c], rfl, ⟨n, .head _⟩, (fun hm => by
    rcases List.mem_cons.mp hm with e | hm
    · exact h1 e.symm
    · rcases List.mem_cons.mp hm with e | hm
      · exact h2 e.symm
      · exact h3 (List.mem_singleton.mp hm).symm), fun k r hr => by
    match k, hr with
    | 0, hr => cases hr; exact ⟨i, j, t, u, n1, rfl, .tail _ (.tail _ (.tail _ (.head _)))⟩
    | 1, hr => cases hr; exact ⟨i2, j2, t2, u2, n2, rfl, .tail _ (.tail _ (.head _))⟩
    | 2, hr => cases hr; exact ⟨i3, j3, t3, u3, n3, rfl, .tail _ (.head _)⟩
    | k + 3, hr => cases hr⟩
theorem tl_one {l a : Addr} {i j : Int} {t u : Tok} {n n1 : Nat} (h1 : a ≠ l) : TL [(l, listOf #[.ref a] n), (a, tupObj [.int i t, .int j u] n1)] l [(i, j)] :=
  ⟨[a], rfl, ⟨n, .head _⟩, (fun hm => h1 (List.mem_singleton.mp hm).symm), fun k r hr => by
    match k, hr with
    | 0, hr => cases hr; exact ⟨i, j, t, u, n1, rfl, .tail _ (.head _)⟩
    | k + 1, hr => cases hr⟩
end

section

/-- a list of (cost, (i, j)) -/
structure DCC (dl : Led) (dc : Addr) (cs : List (Int × Int × Int)) (ra : List Addr) : Prop where
  len : ra.length = cs.length
  top : ∃ n0, (dc, listOf (ra.map Value.ref).toArray n0) ∈ dl
  off : dc ∉ ra
  items : ∀ (k : Nat) r, ra[k]? = some r → ∃ c i j q tc t u n1 n2, cs[k]? = some (c, i, j) ∧ (r, tupObj [.int c tc, .ref q] n1) ∈ dl ∧ (q, tupObj [.int i t, .int j u] n2) ∈ dl ∧ q ≠ dc
def DC (dl : Led) (dc : Addr) (cs : List (Int × Int × Int)) : Prop := ∃ ra, DCC dl dc cs ra
theorem dc_nil {dc : Addr} {n : Nat} : DC [(dc, listOf #[] n)] dc [] := ⟨[], rfl, ⟨n, .head _⟩, (fun h => nomatch h), fun k r h => by simp at h⟩

section
variable {prog : Program} {w : World} {A : Around} {E : Value → Shared → Prop} {s : Shared} {h₀ : Heap} {L dc r q f : Addr} {m : Str → Option Value} {news dl rest : Led} {c i j : Int} {tc t u : Tok} {n1 n2 : Nat} {cs : List (Int × Int × Int)}

theorem DCC.append {ra : List Addr} {n0 : Nat} (C : DCC dl dc cs ra) (ht : (dc, listOf (ra.map Value.ref).toArray n0) ∈ dl) (hb : AllLt r dl) (hq : AllLt q dl) :
    DCC ((r, tupObj [.int c tc, .ref q] n1) :: (q, tupObj [.int i t, .int j u] n2) :: updAt dc (listOf ((ra.map Value.ref).toArray.push (.ref r)) (n0 + 1)) dl) dc (cs ++ [(c, i, j)]) (ra ++ [r]) where
  len := by rw [List.length_append, List.length_append, C.len]; rfl
  top := by
    refine ⟨n0 + 1, .tail _ (.tail _ ?_)⟩
    have e : ((ra ++ [r]).map Value.ref).toArray = (ra.map Value.ref).toArray.push (.ref r) := by simp
    rw [e]
    exact updAt_self ht
  off := by
    intro hm
    rcases List.mem_append.mp hm with hm | hm
    · exact C.off hm
    · have e := List.mem_singleton.mp hm
      exact Nat.lt_irrefl _ (e ▸ kst_ltOf hb _ ht)
  items := fun k r' h' => by
    by_cases d : k < ra.length
    · rw [List.getElem?_append_left d] at h'
      obtain ⟨c', i', j', q', tc', t', u', n1', n2', h1, h2, h3, h4⟩ := C.items k r' h'
      refine ⟨c', i', j', q', tc', t', u', n1', n2', ?_, .tail _ (.tail _ (updAt_other h2 ?_)), .tail _ (.tail _ (updAt_other h3 h4)), h4⟩
      · rw [List.getElem?_append_left (by rw [← C.len]; exact d)]; exact h1
      · intro e
        have e' : r' = dc := e
        exact C.off (e' ▸ List.mem_of_getElem? h')
    · have hk : k = ra.length := by
        obtain ⟨h1, _⟩ := List.getElem?_eq_some_iff.mp h'
        rw [List.length_append] at h1
        have : [r].length = 1 := rfl
        lia
      subst hk
      rw [List.getElem?_append_right (Nat.le_refl _), Nat.sub_self] at h'
      cases h'
      refine ⟨c, i, j, q, tc, t, u, n1, n2, ?_, .head _, .tail _ (.head _), fun e => Nat.lt_irrefl _ (e ▸ kst_ltOf hq _ ht)⟩
      rw [List.getElem?_append_right (by rw [C.len]; exact Nat.le_refl _), C.len, Nat.sub_self]
      rfl

theorem dc_append {Q : Value → Shared → Prop} (F : Fr h₀ L s.heap m) (N : News h₀ L s.heap news) (C : DC dl dc cs) (ho : Off dl rest) (hsub : ∀ z ∈ dl ++ rest, z ∈ news) (hr : (r, tupObj [.int c tc, .ref q] n1) ∈ news) (hq : (q, tupObj [.int i t, .int j u] n2) ∈ news)
    (hb : AllLt r (dl ++ rest)) (hbq : AllLt q (dl ++ rest)) (hp : cs.length < 1000)
    (h : ∀ h' dl', Fr h₀ L h' m → News h₀ L h' (dl' ++ rest) → DC dl' dc (cs ++ [(c, i, j)]) → Off dl' rest → Q .none { s with heap := h' }) :
    wpAny (model prog w) A (call (.builtin "list.append") [.ref dc, .ref r]) Q E s := by
  obtain ⟨ra, C⟩ := C
  obtain ⟨n0, ht⟩ := C.top
  have N' : News h₀ L s.heap (dl ++ rest) := fun z hz => N z (hsub z hz)
  have z := N' _ (List.mem_append_left _ ht)
  have zr := N _ hr
  have zq := N _ hq
  have har : r ≠ dc := fun e => Nat.lt_irrefl _ (e ▸ kst_ltOf hb _ (List.mem_append_left _ ht))
  have haq : q ≠ dc := fun e => Nat.lt_irrefl _ (e ▸ kst_ltOf hbq _ (List.mem_append_left _ ht))
  have hb1 : AllLt r dl := allLt_sub hb fun p hp => List.mem_append_left _ hp
  have hb2 : AllLt r rest := allLt_sub hb fun p hp => List.mem_append_right _ hp
  have hq1 : AllLt q dl := allLt_sub hbq fun p hp => List.mem_append_left _ hp
  have hq2 : AllLt q rest := allLt_sub hbq fun p hp => List.mem_append_right _ hp
  have hz : (ra.map Value.ref).toArray.size ≤ sizeLine := by
    rw [List.size_toArray, List.length_map, C.len]
    exact Nat.le_trans (Nat.le_of_lt hp) (by decide)
  refine append_at (hsz := hz) z.1 fun h' hs hg => ?_
  refine h h' _ (F.change hs z.2.1 z.2.2) ?_ ⟨_, C.append (tc := tc) (t := t) (u := u) (n1 := n1) (n2 := n2) (c := c) (i := i) (j := j) ht hb1 hq1⟩ ?_
  · intro x hx
    rcases List.mem_cons.mp hx with rfl | hx
    · exact ⟨(hs.2 r har).trans zr.1, zr.2⟩
    · rcases List.mem_cons.mp hx with rfl | hx
      · exact ⟨(hs.2 q haq).trans zq.1, zq.2⟩
      · exact news_upd N' ht ho hs hg x hx
  · intro x hx y hy
    rcases List.mem_cons.mp hx with rfl | hx
    · exact Off.below hb2 _ (.head _) y hy
    · rcases List.mem_cons.mp hx with rfl | hx
      · exact Off.below hq2 _ (.head _) y hy
      · exact ho.congr (updAt_fst ..) x hx y hy

/-- the cheapest, by a key that hands on the cost -/
theorem dc_min {Q : Value → Shared → Prop} (hh : A.handled = none) (F : Fr h₀ L s.heap m) (N : News h₀ L s.heap news) (C : DC dl dc cs) (hsub : ∀ z ∈ dl, z ∈ news) (hne : 0 < cs.length)
    (turn : ∀ c q r tc n1 h tk own, Fr h₀ L h m → News h₀ L h ((r, tupObj [.int c tc, .ref q] n1) :: (news ++ own)) →
      wpAny (model prog w) A.in1 (call (.ref f) [.ref r]) (KskEnd h₀ L m (news ++ own) c { s with heap := h, toks := tk }) (fun _ _ => False) { s with heap := h, toks := tk })
    (done : ∀ c i j q r tc t u n1 n2 h' tk', (c, i, j) ∈ cs → (∀ x ∈ cs, c ≤ x.1) → Fr h₀ L h' m → News h₀ L h' ((r, tupObj [.int c tc, .ref q] n1) :: (q, tupObj [.int i t, .int j u] n2) :: news) → Q (.ref r) { s with heap := h', toks := tk' }) :
    wpAny (model prog w) A (call (.builtin "min") [.ref dc] [(Str.ofString "key", .ref f)]) Q E s := by
  obtain ⟨ra, C⟩ := C
  obtain ⟨n0, ht⟩ := C.top
  refine kmk_min (vs := ra.map Value.ref) (fun k => ((cs[k]?).map (·.1)).getD 0) hh F N (fun h _ N' => isList_of (N' _ (hsub _ ht)).1) (by rw [List.length_map, C.len]; exact hne) (fun k v hv h tk own F' N' => ?_) fun k v h' tk' hv hb F' N' => ?_
  · rw [List.getElem?_map] at hv
    obtain ⟨r, hr, rfl⟩ := Option.map_eq_some_iff.mp hv
    obtain ⟨c, i, j, q, tc, t, u, n1, n2, h1, h2, h3, _⟩ := C.items k r hr
    have e : ((cs[k]?).map (·.1)).getD 0 = c := by rw [h1]; rfl
    rw [e]
    refine turn c q r tc n1 h tk own F' fun p hp => ?_
    rcases List.mem_cons.mp hp with rfl | hp
    · exact N' _ (List.mem_append_left _ (hsub _ h2))
    · exact N' _ hp
  · rw [List.getElem?_map] at hv
    obtain ⟨r, hr, rfl⟩ := Option.map_eq_some_iff.mp hv
    obtain ⟨c, i, j, q, tc, t, u, n1, n2, h1, h2, h3, _⟩ := C.items k r hr
    refine done c i j q r tc t u n1 n2 h' tk' (List.mem_of_getElem? h1) (fun x hx => ?_) F' fun p hp => ?_
    · obtain ⟨k2, hk2⟩ := List.getElem?_of_mem hx
      obtain ⟨hlt, _⟩ := List.getElem?_eq_some_iff.mp hk2
      have := (hb k2 (by rw [List.length_map, C.len]; exact hlt)).1
      rw [h1, hk2] at this
      exact this
    · rcases List.mem_cons.mp hp with rfl | hp
      · exact N' _ (hsub _ h2)
      · rcases List.mem_cons.mp hp with rfl | hp
        · exact N' _ (hsub _ h3)
        · exact N' _ hp
end
end

section

/-- the rows of the code's own table: the lambda's code is made at most once -/
def LamAt (qual : Str) (lm : Led) : Prop := lm = [(52, tabObj #[])] ∨ ∃ c' oc vs t, lm = [(52, tabObj #[rawInt (60 : Nat), rawInt (40 : Nat), .ref c']), (c', oc)] ∧ oc.data = .fields vs ∧ vs[1]? = some (.str qual t)

section
variable {M : Model} {A : Around} {E : Value → Shared → Prop} {s : Shared} {h₀ : Heap} {L a : Addr} {m mg mb : Str → Option Value} {cn : Str} {cs : Scope} {ccd : Value} {cl : List (Str × Addr)} {news lm rest : Led}
  {p : Program} {loose : List Str} {mean : ExcName → Option Value} {name qual : Str} {params : Arguments} {body : Expr} {scope : Scope} {pos : Pos} {firstLine : Nat} {clos : List (Str × Addr)}

theorem lam_eval {Q : Value → Shared → Prop} (hpos : pos.line = 60 ∧ pos.col = 40) (F : Fr h₀ L s.heap m) (N : News h₀ L s.heap news) (T : Top p loose mean mg mb h₀) (C : CodeHd h₀ 56 52) (hcd : ccd = .ref 56)
    (hlm : LamAt qual lm) (hsub : ∀ z ∈ lm ++ rest, z ∈ news) (ho : Off lm rest) (hcl : closureFor scope (envX cn cs L a ccd cl) = pure clos)
    (h : ∀ f c' oc vs t ctv h' tk lm', Fr h₀ L h' m → News h₀ L h' ((f, kla_obj name qual params body scope clos ((mg "__name__").getD .none) c' ctv) :: (c', oc) :: (lm' ++ rest)) →
      oc.data = .fields vs → vs[1]? = some (.str qual t) → LamAt qual lm' → (∀ S : Led, Off lm S → (∀ z ∈ S, z ∈ rest) → Off lm' S) → Q (.ref f) { s with heap := h', toks := tk }) :
    wpAny M A (makeFunction name qual params (.expr body) scope (envX cn cs L a ccd cl) [] [] [] pos firstLine) Q E s := by
  have N' : News h₀ L s.heap (lm ++ rest) := fun z hz => N z (hsub z hz)
  rcases hlm with rfl | ⟨c', oc, vs, t, rfl, hd, hv⟩
  · refine kla_nest (ps := #[]) F N' T C hcd (.head fun q hq => (ho _ (.head _) q hq).symm) trivial rfl hcl fun f c' oc vs t ctv h' tk F' N2 hd hv hlt _ => ?_
    have e : (#[] ++ #[rawInt pos.line, rawInt pos.col, Value.ref c'] : Array Value) = #[rawInt (60 : Nat), rawInt (40 : Nat), .ref c'] := by
      rw [hpos.1, hpos.2]; rfl
    rw [e] at N2
    refine h f c' oc vs t ctv h' tk [(52, tabObj #[rawInt (60 : Nat), rawInt (40 : Nat), .ref c']), (c', oc)] F' (fun q hq => ?_) hd hv (.inr ⟨c', oc, vs, t, rfl, hd, hv⟩) fun S hS hsS q hq z hz => ?_
    · rcases List.mem_cons.mp hq with rfl | hq
      · exact N2 _ (.head _)
      · rcases List.mem_cons.mp hq with rfl | hq
        · exact N2 _ (.tail _ (.head _))
        · rcases List.mem_cons.mp hq with rfl | hq
          · exact N2 _ (.tail _ (.tail _ (.head _)))
          · rcases List.mem_cons.mp hq with rfl | hq
            · exact N2 _ (.tail _ (.head _))
            · exact N2 _ (.tail _ (.tail _ (.tail _ hq)))
    · rcases List.mem_cons.mp hq with rfl | hq
      · exact hS _ (.head _) z hz
      · rw [List.mem_singleton.mp hq]
        exact fun e => Nat.lt_irrefl _ (e ▸ hlt z (List.mem_cons_of_mem _ (hsS z hz)))
  · refine kla_hit (ps := #[rawInt (60 : Nat), rawInt (40 : Nat), .ref c']) (c' := c') F N' T C hcd (.head _) trivial ?_ hcl fun f ctv h' tk F' N2 _ => ?_
    · show codeAmong pos [rawInt (60 : Nat), rawInt (40 : Nat), .ref c'] = _
      unfold codeAmong rawInt
      simp [hpos.1, hpos.2]
    · refine h f c' oc vs t ctv h' tk _ F' (fun q hq => ?_) hd hv (.inr ⟨c', oc, vs, t, rfl, hd, hv⟩) fun S hS _ => hS
      rcases List.mem_cons.mp hq with rfl | hq
      · exact N2 _ (.head _)
      · rcases List.mem_cons.mp hq with rfl | hq
        · exact N2 _ (.tail _ (.tail _ (.head _)))
        · exact N2 _ (.tail _ hq)
end

/-! the pure side of the way back -/

noncomputable def dirs (i j : Int) : List (Int × Int) := [(i - 1, j - 1), (i - 1, j), (i, j - 1)]
noncomputable def cand (x y : Str) (cost i j a b : Int) : Int :=
  if a < 0 ∨ b < 0 then 1000000000 else if a = i - 1 ∧ b = j - 1 then dI x y cost a b + (if Txt.item x a = Txt.item y b then 0 else cost) else dI x y cost a b + 1
/-- a step of a cheapest way: from the first point to the second -/
def StepOk (x y : Str) (cost : Int) (p q : Int × Int) : Prop :=
  0 ≤ p.1 ∧ 0 ≤ p.2 ∧ ((q.1 = p.1 + 1 ∧ q.2 = p.2 + 1 ∧ dI x y cost q.1 q.2 = dI x y cost p.1 p.2 + (if Txt.item x p.1 = Txt.item y p.2 then 0 else cost)) ∨
    (q.1 = p.1 + 1 ∧ q.2 = p.2 ∧ dI x y cost q.1 q.2 = dI x y cost p.1 p.2 + 1) ∨ (q.1 = p.1 ∧ q.2 = p.2 + 1 ∧ dI x y cost q.1 q.2 = dI x y cost p.1 p.2 + 1))

def ChainR (x y : Str) (cost : Int) (ps : List (Int × Int)) : Prop := ∀ (k : Nat) p q, ps[k]? = some q → ps[k + 1]? = some p → StepOk x y cost p q
/-- the way back so far: from the far corner to (i, j) -/
def BackOk (x y : Str) (cost : Int) (ps : List (Int × Int)) (i j : Int) : Prop := ps[0]? = some ((x.length : Int), (y.length : Int)) ∧ (∃ init, ps = init ++ [(i, j)]) ∧ ChainR x y cost ps
theorem BackOk.one {x y : Str} {cost : Int} : BackOk x y cost [((x.length : Int), (y.length : Int))] x.length y.length :=
  ⟨rfl, ⟨[], rfl⟩, fun k p q _ h => by simp at h⟩
theorem BackOk.step {x y : Str} {cost i j a b : Int} {ps : List (Int × Int)} (h : BackOk x y cost ps i j) (hs : StepOk x y cost (a, b) (i, j)) : BackOk x y cost (ps ++ [(a, b)]) a b := by
  obtain ⟨h0, ⟨init, hi⟩, hc⟩ := h
  have hlen : 0 < ps.length := by rw [hi]; simp
  refine ⟨by rw [List.getElem?_append_left hlen]; exact h0, ⟨ps, rfl⟩, fun k p q hq hp => ?_⟩
  by_cases c : k + 1 < ps.length
  · rw [List.getElem?_append_left (by lia)] at hq
    rw [List.getElem?_append_left c] at hp
    exact hc k p q hq hp
  · have hk : k + 1 = ps.length := by
      obtain ⟨h1, _⟩ := List.getElem?_eq_some_iff.mp hp
      rw [List.length_append] at h1
      have : [(a, b)].length = 1 := rfl
      lia
    rw [List.getElem?_append_right (by lia), hk, Nat.sub_self] at hp
    cases hp
    rw [List.getElem?_append_left (by lia)] at hq
    have hk2 : k = init.length := by
      have e := congrArg List.length hi
      rw [List.length_append] at e
      have : [(i, j)].length = 1 := rfl
      lia
    rw [hi, hk2, List.getElem?_append_right (Nat.le_refl _), Nat.sub_self] at hq
    cases hq
    exact hs
/-- a cheapest way from corner to corner -/
structure PathOk (x y : Str) (cost : Int) (ps : List (Int × Int)) : Prop where
  pos : 0 < ps.length
  len : ps.length ≤ x.length + y.length + 1
  first : ps[0]? = some (0, 0)
  last : ps[ps.length - 1]? = some ((x.length : Int), (y.length : Int))
  steps : ∀ (k : Nat) p q, ps[k]? = some p → ps[k + 1]? = some q → StepOk x y cost p q
theorem BackOk.rev {x y : Str} {cost : Int} {ps : List (Int × Int)} (h : BackOk x y cost ps 0 0) (hl : ps.length ≤ x.length + y.length + 1) : PathOk x y cost ps.reverse := by
  obtain ⟨h0, ⟨init, hi⟩, hc⟩ := h
  have hlen : 0 < ps.length := by rw [hi]; simp
  refine ⟨by rw [List.length_reverse]; exact hlen, by rw [List.length_reverse]; exact hl, ?_, ?_, fun k p q hp hq => ?_⟩
  · rw [List.getElem?_reverse hlen, hi]
    simp
  · rw [List.length_reverse, List.getElem?_reverse (by lia)]
    have e : ps.length - 1 - (ps.length - 1) = 0 := by lia
    rw [e]; exact h0
  · have h1 : k + 1 < ps.length := by
      obtain ⟨h1, _⟩ := List.getElem?_eq_some_iff.mp hq
      rwa [List.length_reverse] at h1
    rw [List.getElem?_reverse (by lia)] at hp
    rw [List.getElem?_reverse h1] at hq
    refine hc (ps.length - 1 - (k + 1)) p q hq ?_
    have e : ps.length - 1 - (k + 1) + 1 = ps.length - 1 - k := by lia
    rw [e]; exact hp
section
variable {x y : Str} {cost i j a b : Int}
theorem cand_diag (hi : 0 ≤ i - 1) (hj : 0 ≤ j - 1) : cand x y cost i j (i - 1) (j - 1) = dI x y cost (i - 1) (j - 1) + (if Txt.item x (i - 1) = Txt.item y (j - 1) then 0 else cost) :=
  (if_neg fun h => h.elim (Int.not_lt.mpr hi) (Int.not_lt.mpr hj)).trans (if_pos ⟨rfl, rfl⟩)
theorem cand_up (hi : 0 ≤ i - 1) (hj : 0 ≤ j) : cand x y cost i j (i - 1) j = dI x y cost (i - 1) j + 1 :=
  (if_neg fun h => h.elim (Int.not_lt.mpr hi) (Int.not_lt.mpr hj)).trans (if_neg fun h => ne_pred h.2)
theorem cand_left (hi : 0 ≤ i) (hj : 0 ≤ j - 1) : cand x y cost i j i (j - 1) = dI x y cost i (j - 1) + 1 :=
  (if_neg fun h => h.elim (Int.not_lt.mpr hi) (Int.not_lt.mpr hj)).trans (if_neg fun h => ne_pred h.1)
theorem cand_ge (hm : (a, b) ∈ dirs i j) (ha : 0 ≤ a) (hb : 0 ≤ b) (hle : cand x y cost i j a b ≤ dI x y cost i j) : StepOk x y cost (a, b) (i, j) := by
  simp only [dirs, List.mem_cons, List.not_mem_nil, or_false, Prod.mk.injEq] at hm
  rcases hm with ⟨rfl, rfl⟩ | ⟨rfl, rfl⟩ | ⟨rfl, rfl⟩
  · rw [cand_diag ha hb] at hle
    exact ⟨ha, hb, .inl ⟨(Int.sub_add_cancel ..).symm, (Int.sub_add_cancel ..).symm, Int.le_antisymm (dI_diag (pos_of ha) (pos_of hb)) hle⟩⟩
  · rw [cand_up ha hb] at hle
    exact ⟨ha, hb, .inr (.inl ⟨(Int.sub_add_cancel ..).symm, rfl, Int.le_antisymm (dI_up (pos_of ha)) hle⟩)⟩
  · rw [cand_left ha hb] at hle
    exact ⟨ha, hb, .inr (.inr ⟨rfl, (Int.sub_add_cancel ..).symm, Int.le_antisymm (dI_left (pos_of hb)) hle⟩)⟩
theorem cand_low (hi : 0 ≤ i) (hj : 0 ≤ j) (hij : ¬(i = 0 ∧ j = 0)) : ∃ d ∈ dirs i j, cand x y cost i j d.1 d.2 ≤ dI x y cost i j := by
  rcases Int.lt_or_eq_of_le hi with ci | rfl
  · have hi' := pred_of ci
    rcases Int.lt_or_eq_of_le hj with cj | rfl
    · have hj' := pred_of cj
      rw [dI_at ci cj]
      rcases min3_cases (dI x y cost (i - 1) j + 1) (dI x y cost i (j - 1) + 1) (dI x y cost (i - 1) (j - 1) + (if Txt.item x (i - 1) = Txt.item y (j - 1) then 0 else cost)) with q | q | q
      · exact ⟨(i - 1, j), .tail _ (.head _), Int.le_of_eq ((cand_up hi' hj).trans q.symm)⟩
      · exact ⟨(i, j - 1), .tail _ (.tail _ (.head _)), Int.le_of_eq ((cand_left hi hj').trans q.symm)⟩
      · exact ⟨(i - 1, j - 1), .head _, Int.le_of_eq ((cand_diag hi' hj').trans q.symm)⟩
    · refine ⟨(i - 1, 0), .tail _ (.head _), Int.le_of_eq ((cand_up hi' (Int.le_refl 0)).trans ?_)⟩
      rw [dI_col _ _ _ _ hi, dI_col _ _ _ _ hi', Int.sub_add_cancel]
  · have cj : 0 < j := Int.lt_iff_le_and_ne.mpr ⟨hj, fun e => hij ⟨rfl, e.symm⟩⟩
    refine ⟨(0, j - 1), .tail _ (.tail _ (.head _)), Int.le_of_eq ((cand_left (Int.le_refl 0) (pred_of cj)).trans ?_)⟩
    rw [dI_zero _ _ _ _ hj, dI_zero _ _ _ _ (pred_of cj), Int.sub_add_cancel]
end
theorem cand_step {x y : Str} {cost : Int} {i j : Nat} (hc : 0 ≤ cost) (_hc1 : cost < 1000) (hi : i < 100) (hj : j < 100) (hij : ¬(i = 0 ∧ j = 0)) {a b : Int} (hm : (a, b) ∈ dirs i j) (hmin : ∀ d ∈ dirs i j, cand x y cost i j a b ≤ cand x y cost i j d.1 d.2) :
    StepOk x y cost (a, b) ((i : Int), (j : Int)) := by
  obtain ⟨d, hd, hle⟩ := cand_low (x := x) (y := y) (cost := cost) (Int.natCast_nonneg i) (Int.natCast_nonneg j) fun h => hij (by lia)
  have hle := Int.le_trans (hmin d hd) hle
  by_cases h : a < 0 ∨ b < 0
  · have h2 := (dI_bounds (x := x) (y := y) hc (Int.natCast_nonneg i) (Int.natCast_nonneg j)).2
    unfold cand at hle
    rw [if_pos h] at hle
    lia
  · exact cand_ge hm (Int.not_lt.mp fun h' => h (.inl h')) (Int.not_lt.mp fun h' => h (.inr h')) hle
end

section

theorem nolen_lri : typeLookup (.type "list_reverseiterator") "__len__" = pure none := by rw [typeLookup_type, builtinLookup_eq_fast]; kernel_rfl
theorem hint_lri : typeLookup (.type "list_reverseiterator") "__length_hint__" = pure (some (.builtin "list_reverseiterator.__length_hint__")) := by rw [typeLookup_type, builtinLookup_eq_fast]; kernel_rfl

section
variable {prog : Program} {w : World} {A : Around} {E : Value → Shared → Prop} {s : Shared} {I l : Addr} {items : Array Value}

theorem lri_hint {Q : Bool → Shared → Prop} (hT : s.TypeIs (.ref I) "list_reverseiterator") (h : Q false s) : wpAny (model prog w) A (Builtin.List.listLengthHint (.ref I)) Q E s := by
  unfold Builtin.List.listLengthHint
  refine wpAny_bind (wpAny_specialOf hT nolen_lri ?_)
  show wpAny _ A (specialOf (Value.ref I) (Str.ofString "__length_hint__") >>= _) _ _ _
  refine wpAny_bind (wpAny_specialOf hT hint_lri ?_)
  generalize hid : ("list_reverseiterator.__length_hint__" : String) = id0
  wp_delta
  rw [show splitId id0 = some ("list_reverseiterator", "__length_hint__") from by subst hid; decide +kernel]
  subst hid
  refine wpAny_bind (wpAny_isInstance (b := true) hT (by rw [isSubtype_type]; kernel_rfl) ?_)
  exact wpAny_pure h

theorem call_list_rev {Q : Value → Shared → Prop} (hh : A.handled = none) (hI : s.heap.IsRevIter I l ((items.size : Int) - 1)) (hl : s.heap.IsList l items) (hne : l ≠ I) (hlen : items.size ≤ 2 ^ 20)
    (hQ : ∀ h' tk acc' c', (∀ b o, b ≠ I → s.heap.get? b = some o → h'.get? b = some o) → h'.get? s.heap.objs.size = some { cls := .type "list", dict := none, data := .seq acc' c', slots := #[] } →
      ItemsOf (fun i v => items[items.size - 1 - i]? = some v) acc' items.size → Q (.ref s.heap.objs.size) { s with heap := h', toks := tk }) :
    wpAny (model prog w) A (call (.type "list") [.ref I]) Q E s := by
  obtain ⟨oI, hoI, _, _⟩ := id hI
  have hIlt : I < s.heap.objs.size := Heap.lt_size hoI
  refine callType_codes (Q₁ := fun obj s₁ => obj = .ref s.heap.objs.size ∧ s₁ = { s with heap := s.heap.push { cls := .type "list", data := .seq #[] } }) F.called_list (F.typeCall_list_1 _) F.entry_list_init
    (code_list_new _ ⟨rfl, rfl⟩) fun obj s₁ h₁ => ?_
  obtain ⟨rfl, rfl⟩ := h₁
  let S : Addr := s.heap.objs.size
  have hSI : S ≠ I := Nat.ne_of_gt hIlt
  have hS : (s.heap.push { cls := .type "list", data := .seq #[] }).get? S = some { cls := .type "list", data := .seq #[] } := Heap.get?_push_size _ rfl
  refine ⟨⟨_, hS, rfl⟩, F.args_list_init_2 _ _, ?_⟩
  show wpAny _ _ (do let old ← Builtin.List.listItems (.ref S); Builtin.List.listUpdate (.ref S) (fun _ => #[]); letGo old.toList.reverse; Builtin.List.listExtendWith (.ref S) (.ref I) .none) _ _ _
  refine wpAny_bind ?_
  unfold Builtin.List.listItems
  refine wpAny_bind (wpAny_seqItems hS rfl (wpAny_pure ?_))
  show wpAny _ _ (updateSeq S (fun _ => #[]) >>= fun _ => letGo (#[] : Array Value).toList.reverse >>= fun _ => Builtin.List.listExtendWith (.ref S) (.ref I) .none) _ _ _
  refine wpAny_bind (wpAny_updateSeq hS rfl ?_)
  have hS₂ := Heap.get?_update_self (Obj.mapSeq (fun _ => (#[] : Array Value))) hS rfl
  let h₂ : Heap := (s.heap.push { cls := .type "list", data := .seq #[] }).update S (Obj.mapSeq (fun _ => (#[] : Array Value)))
  have oth : ∀ b o, b ≠ S → s.heap.get? b = some o → h₂.get? b = some o :=
    fun b o hb e => (Heap.get?_update_other _ _ (Ne.symm hb)).trans (Heap.get?_push_of_some _ e)
  refine wpAny_bind (wpAny_letGo ?_)
  have hlS : l ≠ S := by
    obtain ⟨ol, hol, _⟩ := id hl
    exact Nat.ne_of_lt (Heap.lt_size hol)
  have hI₂ : h₂.IsRevIter I l ((items.size : Int) - 1) := hI.at fun o e => oth I o hSI.symm e
  have hl₂ : h₂.IsList l items := hl.at fun o e => oth l o hlS e
  have W := (Walks.listRev (prog := prog) (w := w) (A := A.in1.in1) hh I l hne items).toS
  have h1 : Builtin.List.listSameRef (.ref S) (.ref I) = false := by simp [Builtin.List.listSameRef, hSI]
  unfold Builtin.List.listExtendWith
  refine wpAny_bind (wpAny_typeOf (Heap.IsRevIter.typeIs (s := { s with heap := h₂ }) hI₂) ?_)
  have h2 : (Value.type "list_reverseiterator" == Value.type "list") = false := by decide
  have h3 : (Value.type "list_reverseiterator" == Value.type "tuple") = false := by decide
  simp only [h1, h2, h3, Bool.or_false, Bool.false_eq_true, if_false]
  refine wpAny_bind (wpAny_pyIter_revIter hI₂ ?_)
  refine wpAny_bind (wpAny_holding (lri_hint (Heap.IsRevIter.typeIs (s := { s with heap := h₂ }) hI₂) ?_))
  have hSf : S ∉ [I, l] := fun hm => by
    rcases List.mem_cons.mp hm with e | hm
    · exact hSI e
    · exact hlS (List.mem_singleton.mp hm).symm
  have hst : (0 : Nat) ≤ items.size ∧ h₂.IsRevIter I l ((items.size : Int) - 1 - ((0 : Nat) : Int)) ∧ h₂.IsList l items := ⟨Nat.zero_le _, by simpa using hI₂, hl₂⟩
  refine wpAny_ite_split (fun hab => absurd hab (by decide)) (fun _ => wpAny_pure ⟨plainId_quiet F.plain_extend_loop _, ?_⟩)
  refine codeAny_extend_loopS W (by rw [sizeLine_eq]; lia) S hSf Value.none items.size 0 _ #[] _ rfl (Nat.zero_le _) hst hS₂ (ItemsOf.nil _) fun s' acc' c' hm hS' hacc => ?_
  rw [Moved.eq_with hm]
  refine ⟨rfl, hQ s'.heap s'.toks acc' c' (fun b o hb e => hm.heap b o (fun hmem => ?_) (oth b o (Nat.ne_of_lt (Heap.lt_size e)) e)) hS' hacc⟩
  rcases List.mem_cons.mp hmem with e' | hmem
  · exact Nat.ne_of_lt (Heap.lt_size e) e'
  · exact hb (List.mem_singleton.mp hmem)
end

section
variable {prog : Program} {w : World} {A : Around} {E : Value → Shared → Prop} {s : Shared} {h₀ : Heap} {L I al : Addr} {m : Str → Option Value} {news pl : Led} {ps : List (Int × Int)} {k : Int}
theorem tl_list_rev {Q : Value → Shared → Prop} (hh : A.handled = none) (F : Fr h₀ L s.heap m) (N : News h₀ L s.heap ((I, revObj al k) :: news)) (hI : AllLt I news) (C : TL pl al ps) (hsub : ∀ z ∈ pl, z ∈ news) (hk : k = (ps.length : Int) - 1) (hlen : ps.length ≤ 1000)
    (h : ∀ S o h' tk, Fr h₀ L h' m → News h₀ L h' ((S, o) :: news) → TL ((S, o) :: pl) S ps.reverse → AllLt S news → Q (.ref S) { s with heap := h', toks := tk }) :
    wpAny (model prog w) A (call (.type "list") [.ref I]) Q E s := by
  obtain ⟨ra, C⟩ := C
  obtain ⟨n0, ht⟩ := C.top
  have hal := N _ (.tail _ (hsub _ ht))
  have hIo := N _ (.head _)
  have hsz : (ra.map Value.ref).toArray.size = ps.length := by rw [List.size_toArray, List.length_map, C.len]
  have hne : al ≠ I := Nat.ne_of_lt (kst_ltOf hI _ (hsub _ ht))
  refine call_list_rev (l := al) (items := (ra.map Value.ref).toArray) hh ⟨_, hIo.1, rfl, by rw [hsz, hk]; rfl⟩ (isList_of hal.1) hne (by rw [hsz]; exact Nat.le_trans hlen (by decide)) fun h' tk acc' c' hk2 hS hacc => ?_
  have hkeep : ∀ p ∈ news, h'.get? p.1 = some p.2 := fun p hp => hk2 _ _ (Nat.ne_of_lt (kst_ltOf hI _ hp)) (N _ (.tail _ hp)).1
  have hSn : ∀ p ∈ news, p.1 < s.heap.objs.size := fun p hp => Heap.lt_size (N _ (.tail _ hp)).1
  have e : acc' = (ra.reverse.map Value.ref).toArray := by
    obtain ⟨h1, h2⟩ := hacc
    rw [hsz] at h1 h2
    apply Array.ext
    · rw [h1, List.size_toArray, List.length_map, List.length_reverse, C.len]
    · intro i hi1 hi2
      have := h2 i acc'[i] (by simp [hi1])
      have hi : i < ra.length := by rw [C.len, ← h1]; exact hi1
      have e3 : ps.length - 1 - i < ra.length := by rw [C.len]; lia
      have e4 : (ra.map Value.ref).toArray[ps.length - 1 - i]? = some (Value.ref ra[ps.length - 1 - i]) := by simp [e3]
      have e5 := e4.symm.trans this
      have e6 : acc'[i] = Value.ref ra[ps.length - 1 - i] := (Option.some.inj e5).symm
      rw [e6]
      simp [List.getElem_reverse, C.len]
  subst e
  obtain ⟨oL, a1, a2, hoL, a3⟩ := F.ns
  have F' : Fr h₀ L h' m := ⟨⟨oL, a1, a2, hk2 _ _ (fun e => hIo.2.1 e.symm) hoL, a3⟩, fun b o e => hk2 b o (fun eq => by rw [eq, hIo.2.2] at e; cases e) (F.keep b o e), F.above⟩
  have fresh : h₀.get? s.heap.objs.size = none := by
    cases q : h₀.get? s.heap.objs.size with
    | none => rfl
    | some o => exact absurd (Heap.lt_size (F.keep _ _ q)) (Nat.lt_irrefl _)
  refine h s.heap.objs.size _ h' tk F' (fun p hp => ?_) ⟨ra.reverse, ?_, ⟨c', .head _⟩, ?_, ?_⟩ (allLt_mk hSn)
  · rcases List.mem_cons.mp hp with rfl | hp
    · exact ⟨hS, Nat.ne_of_gt (Heap.lt_size hoL), fresh⟩
    · exact ⟨hkeep p hp, (N _ (.tail _ hp)).2⟩
  · rw [List.length_reverse, List.length_reverse, C.len]
  · intro hm
    obtain ⟨i, hi⟩ := List.getElem?_of_mem (List.mem_reverse.mp hm)
    obtain ⟨_, _, _, _, _, _, hm2⟩ := C.items i _ hi
    exact Nat.lt_irrefl _ (hSn _ (hsub _ hm2))
  · intro j r hr
    have hj : j < ra.length := by
      obtain ⟨h1, _⟩ := List.getElem?_eq_some_iff.mp hr
      rwa [List.length_reverse] at h1
    rw [List.getElem?_reverse hj] at hr
    obtain ⟨a, b, t, u, nn, h1, h2⟩ := C.items _ r hr
    refine ⟨a, b, t, u, nn, ?_, .tail _ h2⟩
    rw [List.getElem?_reverse (by rw [← C.len]; exact hj), ← C.len]
    exact h1
end
end

section

theorem bk_pack {h₀ h : Heap} {L dc ld a b c x1 x2 : Addr} {o1 o2 : Obj} {i1 j1 i2 j2 i3 j3 : Int} {t1 u1 t2 u2 t3 u3 : Tok} {k1 k2 k3 n n0 : Nat} {big : Led}
    (N : News h₀ L h ((dc, listOf #[] n0) :: (ld, listOf #[.ref a, .ref b, .ref c] n) :: (c, tupObj [.int i3 t3, .int j3 u3] k3) :: (b, tupObj [.int i2 t2, .int j2 u2] k2) :: (a, tupObj [.int i1 t1, .int j1 u1] k1) :: (x1, o1) :: (x2, o2) :: big))
    (hdc : ld < dc ∧ c < dc ∧ b < dc ∧ a < dc ∧ x1 < dc ∧ x2 < dc ∧ AllLt dc big) (hld : c < ld ∧ b < ld ∧ a < ld ∧ x1 < ld ∧ x2 < ld ∧ AllLt ld big) :
    ∃ dirl dl0, TL dirl ld [(i1, j1), (i2, j2), (i3, j3)] ∧ News h₀ L h (dl0 ++ (dirl ++ big)) ∧ DC dl0 dc [] ∧ Off dl0 (dirl ++ big) := by
  refine ⟨_, _, tl_three (n := n) (n1 := k1) (t := t1) (u := u1) (n2 := k2) (t2 := t2) (u2 := u2) (n3 := k3) (t3 := t3) (u3 := u3) (Nat.ne_of_lt hld.2.2.1) (Nat.ne_of_lt hld.2.1) (Nat.ne_of_lt hld.1), fun p hp => N p ?_, dc_nil (n := n0), ?_⟩
  · simp only [List.mem_append, List.mem_cons, List.not_mem_nil, or_false] at hp ⊢
    rcases hp with h | (h | h | h | h) | h <;> simp [h]
  · obtain ⟨h1, h2, h3, h4, _, _, h5⟩ := hdc
    exact Off.below (show AllLt dc ((ld, _) :: (c, _) :: (b, _) :: (a, _) :: big) from ⟨h1, h2, h3, h4, h5⟩)
theorem cand_out {x y : Str} {cost i j a b : Int} (h : a < 0 ∨ b < 0) : 1000000000 = cand x y cost i j a b := by
  unfold cand; rw [if_pos h]
theorem cand_eq {x y : Str} {cost i j a b : Int} (h1 : ¬(a < 0 ∨ b < 0)) (h2 : a = i - 1 ∧ b = j - 1) (h3 : (Txt.item x a == Txt.item y b) = true) : dI x y cost a b + 0 = cand x y cost i j a b := by
  unfold cand; rw [if_neg h1, if_pos h2, if_pos (by simpa using h3)]
theorem cand_ne {x y : Str} {cost i j a b : Int} (h1 : ¬(a < 0 ∨ b < 0)) (h2 : a = i - 1 ∧ b = j - 1) (h3 : (Txt.item x a == Txt.item y b) = false) : dI x y cost a b + cost = cand x y cost i j a b := by
  unfold cand; rw [if_neg h1, if_pos h2, if_neg (by simpa using h3)]
theorem cand_else {x y : Str} {cost i j a b : Int} (h1 : ¬(a < 0 ∨ b < 0)) (h2 : ¬(a = i - 1 ∧ b = j - 1)) : dI x y cost a b + 1 = cand x y cost i j a b := by
  unfold cand; rw [if_neg h1, if_neg h2]
theorem bk_init {h₀ h : Heap} {L l d x1 : Addr} {o1 : Obj} {i j : Int} {t u : Tok} {k n : Nat} {big : Led}
    (N : News h₀ L h ((l, listOf #[.ref d] n) :: (d, tupObj [.int i t, .int j u] k) :: (x1, o1) :: big)) (hl : d < l ∧ x1 < l ∧ AllLt l big) (hd : x1 < d ∧ AllLt d big) : ∃ pl, TL pl l [(i, j)] ∧ News h₀ L h (pl ++ big) ∧ Off pl big :=
  ⟨_, tl_one (n := n) (n1 := k) (t := t) (u := u) (Nat.ne_of_lt hl.1), news_drop3 N, Off.appL (a := [_]) (Off.below hl.2.2) (Off.below hd.2)⟩
theorem dirs_near {i j a b : Int} (h : (a, b) ∈ dirs i j) : i - 1 ≤ a ∧ a ≤ i ∧ j - 1 ≤ b ∧ b ≤ j := by
  simp only [dirs, List.mem_cons, List.not_mem_nil, or_false, Prod.mk.injEq] at h
  lia
noncomputable def bkQual : Str := (Str.ofString "_edit_dist_backtrace" ++ Str.ofString ".<locals>.") ++ Str.ofString "<lambda>"
noncomputable def dcs (x y : Str) (cost i j : Int) (k : Nat) : List (Int × Int × Int) := ((dirs i j).take k).map fun d => (cand x y cost i j d.1 d.2, d.1, d.2)
theorem dcs_next {x y : Str} {cost i j a b c : Int} {k : Nat} (h : (dirs i j)[k]? = some (a, b)) (hc : c = cand x y cost i j a b) : dcs x y cost i j k ++ [(c, a, b)] = dcs x y cost i j (k + 1) := by
  unfold dcs
  rw [List.take_add_one, h, List.map_append, hc]
  rfl
theorem dcs_len {x y : Str} {cost i j : Int} {k : Nat} : (dcs x y cost i j k).length < 1000 := by
  unfold dcs
  rw [List.length_map, List.length_take]
  have : (dirs i j).length = 3 := rfl
  lia
theorem dcs_mem {x y : Str} {cost i j c a b : Int} (h : (c, a, b) ∈ dcs x y cost i j 3) : (a, b) ∈ dirs i j ∧ c = cand x y cost i j a b := by
  unfold dcs at h
  obtain ⟨d, hd, e⟩ := List.mem_map.mp h
  have h3 : (dirs i j).take 3 = dirs i j := rfl
  rw [h3] at hd
  cases e
  exact ⟨hd, rfl⟩
theorem dcs_min {x y : Str} {cost i j c : Int} (h : ∀ z ∈ dcs x y cost i j 3, c ≤ z.1) : ∀ d ∈ dirs i j, c ≤ cand x y cost i j d.1 d.2 := fun d hd =>
  h (cand x y cost i j d.1 d.2, d.1, d.2) (List.mem_map.mpr ⟨d, hd, rfl⟩)
theorem bk_mem1 {dl dirl pl lv lm rest : Led} : ∀ z ∈ lm ++ (dl ++ (pl ++ (lv ++ rest))), z ∈ dl ++ (dirl ++ (pl ++ (lv ++ (lm ++ rest)))) := fun z hz => by
  simp only [List.mem_append] at hz ⊢
  rcases hz with h | h | h | h | h <;> simp [h]
theorem bk_mem3 {f a b c : Addr × Obj} {pl lv lm rest : Led} : ∀ z ∈ (f :: pl) ++ (lm ++ rest), z ∈ f :: a :: b :: c :: (pl ++ (lv ++ (lm ++ rest))) := fun z hz => by
  simp only [List.cons_append, List.mem_cons, List.mem_append] at hz ⊢
  rcases hz with h | h | h | h <;> simp [h]
theorem bk_mem2 {f c' r q : Addr × Obj} {dl pl lv lm rest : Led} : ∀ z ∈ r :: q :: (pl ++ (lv ++ (lm ++ rest))), z ∈ r :: q :: f :: c' :: (lm ++ (dl ++ (pl ++ (lv ++ rest)))) := fun z hz => by
  simp only [List.mem_cons, List.mem_append] at hz ⊢
  rcases hz with h | h | h | h | h | h <;> simp [h]
section

local macro_rules | `(tactic| walk_at "call builtin:len") => `(tactic| (k_here; (with_reducible show wpAny _ _ (call (Value.builtin "len") [Value.ref _]) _ _ _); k_dflt (first
  | (refine' call_len_lev ?N ?C ?sub ?a ?_; (case N => k_asm); (case C => with_reducible assumption); (case sub => accj_flat); (case a => lia); k_whole; intro t9)
  | (refine' call_len_row ?N ?C ?sub ?a ?_; (case N => k_asm); (case C => with_reducible assumption); (case sub => accj_flat); (case a => lia); k_whole; intro t9))))
local macro_rules | `(tactic| walk_at "compareOp NotEq ref ref") => `(tactic| (k_here; (with_reducible show wpAny _ _ (compareOp CmpOp.NotEq (Value.ref _) (Value.ref _)) _ _ _); k_dflt (first
  | (refine' pair_ne_t ?N ?a ?b ?u ?d ?_; (case N => k_asm); (case a => k_mem); (case b => k_mem); (case u => ktr_units); (case d => lia); k_whole)
  | (refine' pair_ne_f ?N ?a ?b ?u ?d ?_; (case N => k_asm); (case a => k_mem); (case b => k_mem); (case u => ktr_units); (case d => lia); k_whole))))
local macro_rules | `(tactic| walk_at "call builtin:list.append") => `(tactic| (k_here; (with_reducible show wpAny _ _ (call (Value.builtin "list.append") [Value.ref _, Value.ref _]) _ _ _); k_dflt (first | (refine' tl_append ?F ?N ?C ?ho ?sub ?hr ?hb ?hp ?_; (case F => k_asm); (case N => k_asm); (case C => with_reducible assumption); (case ho => with_reducible assumption); (case sub => accj_flat); (case hr => k_mem); (case hb => (rename _ ∧ _ ∧ _ ∧ AllLt _ _ => hL9; exact hL9.2.2.2)); (case hp => lia); k_whole; intro h' pl' F' N' hC' ho'; (try k_sweep)) | (refine' dc_append ?F ?N ?C ?ho ?sub ?hr ?hq ?hb ?hbq ?hp ?_; (case F => k_asm); (case N => k_asm); (case C => with_reducible assumption); (case ho => with_reducible assumption); (case hr => k_mem); (case hq => k_mem); (case sub => accj_flat); (case hb => (rename _ ∧ _ ∧ _ ∧ AllLt _ _ => hL9; exact hL9.2.2.2)); (case hbq => (rename _ ∧ _ ∧ AllLt _ _ => hL9; exact hL9.2.2)); (case hp => exact dcs_len); k_whole; intro h' dl' F' N' hC' ho'; (try k_sweep)))))
local macro_rules | `(tactic| walk_at "call builtin:min") => `(tactic| refine stop_here ?_)
local macro_rules | `(tactic| walk_at "eval Lambda") => `(tactic| refine stop_here ?_)
local macro_rules | `(tactic| walk_at "call type:list") => `(tactic| refine stop_here ?_)
local macro_rules | `(tactic| walk_at "exec For Tuple Name cons nil") => `(tactic| refine stop_here ?_)
local macro_rules | `(tactic| walk_at "subscriptTail") => `(tactic| (k_here; (with_reducible show wpAny _ _ (subscriptTail _ _ (Value.ref _) (Value.int _ _)) _ _ _); k_dflt (first
  | (refine' lev_item ?N ?C ?sub ?a ?b ?c ?_; (case N => k_asm); (case C => with_reducible assumption); (case sub => accj_flat); (case a => lia); (case b => lia); (case c => lia); k_whole; intro r9 hr9)
  | (refine' row_item ?N ?C ?sub ?a ?b ?c ?_; (case N => k_asm); (case C => with_reducible assumption); (case sub => accj_flat); (case a => lia); (case b => lia); (case c => lia); k_whole; intro t9))))

theorem back_spec {w : World} {p : Program} {loose : List Str} {mean : ExcName → Option Value} {mg mb : Str → Option Value}
   {dp un : Nat} {gd : Option (List Code)} {cn : Str} {cs : Scope} {a : Addr} {ccd : Value} {cl : List (Str × Addr)} {outer : List Env} {A₀ : Around} {base h₀ : Heap} {L : Addr} {m : Str → Option Value} {s : Shared} {Q E : Value → Shared → Prop}
   {lv lm rest : Led} {la : Addr} {x y : Str} {cost : Int} {t1 t2 t3 : Tok}
   (B : Below A₀ base outer h₀) (F : Fr h₀ L s.heap m) (X : (hd.heap_39 w.params).In h₀) (N : News h₀ L s.heap (lv ++ (lm ++ rest))) (T : Top p loose mean mg mb h₀) (hk : cs.kind = .function)
   (C : LevAt lv la (x.length + 1) (y.length + 1) (dI x y cost)) (hx : x.length < 40) (hy : y.length < 40) (hol : Off lv (lm ++ rest)) (hlm : LamAt bkQual lm) (hor : Off lm rest) (hcd : CodeHd h₀ 56 52)
   (hd : dp + 5 < recursionLimit) (hu : un + 200 < cLine) (hc0 : 0 ≤ cost) (hc1 : cost < 1000)
   (hret : ∀ h' tk' S pl lm' ps, Fr h₀ L h' m → News h₀ L h' (pl ++ (lm' ++ rest)) → TL pl S ps → Off pl rest → LamAt bkQual lm' → Off lm' rest → PathOk x y cost ps → Q (.ref S) { s with heap := h', toks := tk' }) :
   wpAny (model PySem.Challenge.rw_be0026_01.row.prog w) (ktrTop dp un gd cn cs L a ccd cl outer) (call (.ref 57) [.ref la, .str x t1, .str y t2, .int cost t3]) Q E s := by
  revert X; k_fill; intro X
  refine wpAny_call ?_
  k_dflt k_enter
  (rename Fr h₀ L _ m => FG9)
  have hcd9 := hcd.keeps FG9.keep
  k_steps
  refine ⟨?_⟩
  (rename News _ _ _ _ => N2); (rename Fr _ _ _ _ => F2)
  have e1 : ((x.length + 1 : Nat) : Int) - 1 = x.length := by lia
  have e2 : ((y.length + 1 : Nat) : Int) - 1 = y.length := by lia
  rw [e1, e2] at N2 F2
  (rename _ ∧ _ ∧ AllLt _ _ => hl9); (rename _ ∧ AllLt _ _ => hd9)
  obtain ⟨pl0, hT0, N3, ho0⟩ := bk_init N2 hl9 hd9
  refine while_rule (fun n m nx => ∃ (i j : Nat), ∃ al pl lm ti tj ps, Has m [("i", .int i ti), ("j", .int j tj), ("alignment", .ref al), ("lev", .ref la), ("s1", .str x t1), ("s2", .str y t2), ("substitution_cost", .int cost t3)] ∧
      nx = pl ++ (lv ++ (lm ++ rest)) ∧ n = i + j ∧ i ≤ x.length ∧ j ≤ y.length ∧ TL pl al ps ∧ ps.length + (i + j) ≤ x.length + y.length + 1 ∧ Off pl (lv ++ (lm ++ rest)) ∧ Off lv (lm ++ rest) ∧ LamAt bkQual lm ∧ Off lm rest ∧ BackOk x y cost ps i j)
    F2 N3 (n₀ := x.length + y.length) ?_ ?_ PassesOwn.never
  · exact ⟨x.length, y.length, _, pl0, lm, _, _, _, by k_flat, rfl, rfl, Nat.le_refl _, Nat.le_refl _, hT0, (by show 1 + (x.length + y.length) ≤ _; lia), ho0, hol, hlm, hor, .one⟩
  · clear N2 F2 N3 hT0 ho0 hl9 hd9
    rintro n m₁ nx h tk ⟨i, j, al, pl, lm, ti, tj, ps, hM, rfl, rfl, hi, hj, hT, hps, hop, hol, hlm, hor, hbk⟩ F1 N1 WP hWP
    by_cases hij : i = 0 ∧ j = 0
    · obtain ⟨rfl, rfl⟩ := hij
      obtain ⟨raP, CP⟩ := id hT
      obtain ⟨nP, hPt⟩ := CP.top
      have N2 := news_front N1 (List.mem_append_left _ hPt)
      clear N1
      k_steps
      refine ⟨?_⟩
      (k_dflt (refine' tl_list_rev ?z1hh ?z1F ?z1N ?z1hI ?z1C ?z1sub ?z1hk ?z1hlen ?_; (case z1hh => exact rfl); (case z1F => k_asm); (case z1N => k_asm); (case z1hI => exact (by assumption : _ ∧ _ ∧ _ ∧ AllLt _ _)); (case z1C => with_reducible assumption); (case z1sub => accj_flat); (case z1hk => (rename TLC _ _ _ _ => hc9; rw [List.length_map, hc9.len])); (case z1hlen => lia); k_whole; intro S' o' h' tk' F' N' hT' hb'))
      k_steps
      (rename TL _ _ (List.reverse _) => hT4); (rename AllLt _ (_ :: _ :: _ :: _) => hb4)
      have ho4 := Off.appL (a := [_]) (Off.below (o := listOf #[] 0) (allLt_sub hb4 (by accj_flat : ∀ z ∈ rest, z ∈ _))) (hop.sub (by accj_flat : ∀ z ∈ rest, z ∈ _))
      refine hret _ _ _ _ lm _ (by assumption) (kst_newsOf (by assumption) bk_mem3) hT4 ?_ hlm hor (hbk.rev hps)
      exact fun p hp q hq => (List.mem_cons.mp hp).elim (fun e => by subst e; exact ho4 _ (.head _) q hq) fun hp => ho4 _ (.tail _ hp) q hq
    k_steps
    refine ⟨?_⟩
    ((rename Fr _ _ _ _ => lF'); (with_unfolding_all refine' For_turns lF' ?_ ?z4k3 ?z4k4; (case z4k3 => intro _; rfl); (case z4k4 => exact PassesOwn.never); k_whole))
    k_steps
    refine ⟨?_⟩
    (rename News _ _ _ _ => N2); (rename Fr _ _ _ _ => F2)
    (rename _ ∧ _ ∧ _ ∧ _ ∧ _ ∧ _ ∧ AllLt _ _ => hdc); (rename _ ∧ _ ∧ _ ∧ _ ∧ _ ∧ AllLt _ _ => hld)
    obtain ⟨dirl, dl0, hDir, N3, hD0, ho0⟩ := bk_pack N2 hdc hld
    refine tl_loop still_tuple (fun k m nx => ∃ dl dc, Has m [("direction_costs", .ref dc), ("i", .int i ti), ("j", .int j tj), ("alignment", .ref al), ("lev", .ref la), ("s1", .str x t1), ("s2", .str y t2), ("substitution_cost", .int cost t3)] ∧
        nx = dl ++ (dirl ++ (pl ++ (lv ++ (lm ++ rest)))) ∧ DC dl dc (dcs x y cost i j k) ∧ Off dl (dirl ++ (pl ++ (lv ++ (lm ++ rest)))))
      rfl hDir F2 N3 ?_ ?_ ?_ ?_
    · refine ⟨_, _, by k_flat, rfl, hD0, ho0⟩
    · rintro k m nx ⟨dl, dc, _, rfl, _, _⟩ p hp
      exact List.mem_append_right _ (List.mem_append_left _ hp)
    · clear N2 F2 hdc hld N3 hD0 ho0
      rintro k a b r0 t0 u0 n0 m₂ nx h2 tk2 own hk hoff ⟨dl, dc, hM2, rfl, hD, hoD⟩ F1 N1 TP hTP
      have hab := dirs_near (List.mem_of_getElem? hk)
      obtain ⟨hab1, hab2, hab3, hab4⟩ := hab
      obtain ⟨ra, CD⟩ := id hD
      obtain ⟨nd, htop⟩ := CD.top
      have N2 := news_front (news_cassoc N1) (List.mem_cons_of_mem _ (List.mem_append_left _ htop))
      have hoD2 : Off dl (dirl ++ (pl ++ (lv ++ (lm ++ rest))) ++ own) := Off.app hoD (hoff.symm.subL fun p hp => List.mem_append_left _ hp)
      clear N1
      k_steps
      all_goals ((rename DC _ _ _ => hD2); (rename News _ _ _ _ => N3); (rename Fr _ _ _ _ => F3); (rename Off _ _ => ho3))
      all_goals (refine hTP _ (turn_lv F3 N3 hoff ho3 ⟨_, dc, by k_tabat, rfl, ?_, ho3.sub fun p hp => List.mem_append_left _ hp⟩); rw [← dcs_next hk ?_]; exact hD2)
      all_goals first
        | exact cand_out (by lia)
        | exact cand_eq (by lia) (by lia) (by assumption)
        | exact cand_ne (by lia) (by lia) (by assumption)
        | exact cand_else (by lia) (by lia)
    · clear N2 F2 hdc hld N3 hD0 ho0
      rintro m₂ nx h2 tk2 ⟨dl, dc, hM2, rfl, hD, hoD⟩ F1 N1
      have hs9 : ∀ z ∈ lm ++ (dl ++ (pl ++ (lv ++ rest))), z ∈ dl ++ (dirl ++ (pl ++ (lv ++ (lm ++ rest)))) := bk_mem1
      have ho9 : Off lm (dl ++ (pl ++ (lv ++ rest))) := Off.app (hoD.sub (by accj_flat)).symm (Off.app (hop.sub (by accj_flat)).symm (Off.app (hol.sub (by accj_flat)).symm hor))
      dsimp only
      k_steps
      refine ⟨?_⟩
      (k_dflt (refine' kla_eval ?z2d0 ?_; (case z2d0 => exact rfl)); k_dflt (refine' lam_eval ?z2p ?z2F ?z2N ?z2T ?z2C ?z2cd ?z2lm ?z2sub ?z2o ?z2cl ?_; (case z2p => exact ⟨rfl, rfl⟩); (case z2F => k_asm); (case z2N => k_asm); (case z2T => k_asm); (case z2C => assumption); (case z2cd => exact rfl); (case z2lm => assumption); (case z2sub => assumption); (case z2o => assumption); (case z2cl => exact rfl); k_whole); intro f' c' oc' vs' t' ct' h' tk' lm' F' N' d1' d2' hlm' hlo')
      k_steps
      refine ⟨?_⟩
      (rename News _ _ _ _ => N3); (rename Fr _ _ _ _ => F3); (rename LamAt _ _ => hlm3); (rename ∀ S : Led, _ → _ → Off _ S => hlo3)
      k_dflt (refine dc_min rfl F3 N3 hD (by accj_flat) (Nat.lt_of_lt_of_eq (by decide : 0 < 3) rfl) ?_ ?_)
      · intro c0 q0 r0 tc0 n0 h3 tk3 own F4 N4
        simp only [List.cons_append] at N4
        k_steps
        refine ⟨?_⟩
        (k_dflt (refine wpAny_call ?_; (refine' kla_code ?z3k1 ?z3k2 ?z3k3 ?z3k4 ?z3k5 ?z3kA ?z3kF ?z3kK ?z3k6 ?z3k7 ?z3k8 ?z3k9 ?z3kB ?_ ?z3c2 ?z3c3 ?z3c4 ?z3c5; (case z3kA => exact rfl); (case z3kF => exact rfl); (case z3kK => exact rfl); (case z3k1 => k_asm); (case z3k2 => k_asm); (case z3k3 => k_asm); (case z3k4 => k_asm); (case z3k5 => k_asm); (case z3k6 => k_mem); (case z3k7 => exact codeRec_news (by k_asm) (by k_mem) (by assumption) (by assumption)); (case z3k8 => ktr_room); (case z3k9 => exact rfl); (case z3c5 => decide); (case z3kB => exact locs rfl); (case z3c2 => exact rfl); (case z3c3 => exact rfl); (case z3c4 => exact rfl); k_whole; intro g' L' h' FG' F' N' B' X' T'; (try dsimp only); (try k_fold))))
        k_steps
      · rintro c0 i0 j0 q0 r0 tc0 t0 u0 n1 n2 h3 tk3 hmem hmin F4 N4
        obtain ⟨hdir, hcand⟩ := dcs_mem hmem
        have hst := cand_step hc0 hc1 (i := i) (j := j) (by lia) (by lia) hij hdir (fun d hd => hcand ▸ dcs_min hmin d hd)
        obtain ⟨raP, CP⟩ := id hT
        obtain ⟨nP, hPt⟩ := CP.top
        have N5 := news_front (kst_newsOf N4 bk_mem2) (.tail _ (.tail _ (List.mem_append_left _ hPt)))
        have hlx := hlo3 (pl ++ (lv ++ rest)) (ho9.sub (by accj_flat)) (by accj_flat)
        have hopx := Off.app (hop.sub (by accj_flat) : Off pl lv) (Off.app (hlx.sub (by accj_flat)).symm (hop.sub (by accj_flat) : Off pl rest))
        have holx := Off.app (hlx.sub (by accj_flat)).symm (hol.sub (by accj_flat) : Off lv rest)
        obtain ⟨i0, rfl⟩ : ∃ n : Nat, i0 = (n : Int) := ⟨i0.toNat, (Int.toNat_of_nonneg hst.1).symm⟩
        obtain ⟨j0, rfl⟩ : ∃ n : Nat, j0 = (n : Int) := ⟨j0.toNat, (Int.toNat_of_nonneg hst.2.1).symm⟩
        have hlt : i0 + j0 < i + j ∧ i0 ≤ i ∧ j0 ≤ j := by
          obtain ⟨_, _, h⟩ := hst
          dsimp only at h
          lia
        clear N4 N3 F3 F1 N1 hmem hmin
        k_steps
        (rename TL _ _ _ => hT4); (rename News _ _ _ _ => N6); (rename Fr _ _ _ _ => F6); (rename Off _ _ => ho6)
        exact hWP _ (WEnd.intro F6 N6 hlt.1 ⟨i0, j0, al, _, _, _, _, _, by k_flat, rfl, rfl, by lia, by lia, hT4, by (rw [List.length_append]; show ps.length + 1 + _ ≤ _; lia), ho6, holx, hlm3, hlx.sub (by accj_flat), hbk.step hst⟩)
end
end

section

theorem gIn_step0 {x y : Str} {c a b : Int} {i j : Nat} (ha : 0 ≤ a) (hb : 0 ≤ b) : setG (gIn x y c i j) (0 + i + 1) (0 + j + 1) (stepVal (gIn x y c i j) x y c (0 + i + 1) (0 + j + 1)) a b = gIn x y c i (j + 1) a b := by
  have e1 : (0 : Int) + i + 1 = 1 + i := by lia
  have e2 : (0 : Int) + j + 1 = 1 + j := by lia
  rw [e1, e2]
  exact gIn_step ha hb
theorem gOut_all {x y : Str} {c a b : Int} {n : Nat} (h : a < (n : Int) + 1) : gOut x y c n a b = dI x y c a b := if_pos (by lia)
section


theorem align_spec {w : World} {p : Program} {loose : List Str} {mean : ExcName → Option Value} {mg mb : Str → Option Value}
   {dp un : Nat} {gd : Option (List Code)} {cn : Str} {cs : Scope} {a : Addr} {ccd : Value} {cl : List (Str × Addr)} {outer : List Env} {A₀ : Around} {base h₀ : Heap} {L : Addr} {m : Str → Option Value} {s : Shared} {Q E : Value → Shared → Prop}
   {lm rest : Led} {x y : Str} {cost : Int} {t1 t2 t3 : Tok}
   (B : Below A₀ base outer h₀) (F : Fr h₀ L s.heap m) (X : (hd.heap_39 w.params).In h₀) (N : News h₀ L s.heap (lm ++ rest)) (T : Top p loose mean mg mb h₀) (hk : cs.kind = .function)
   (hx : x.length < 40) (hy : y.length < 40) (hlm : LamAt bkQual lm) (hor : Off lm rest) (hcd : CodeHd h₀ 56 52)
   (hd : dp + 6 < recursionLimit) (hu : un + 240 < cLine) (hc0 : 0 ≤ cost) (hc1 : cost < 1000)
   (hret : ∀ h' tk' S pl lm' ps, Fr h₀ L h' m → News h₀ L h' (pl ++ (lm' ++ rest)) → TL pl S ps → Off pl rest → LamAt bkQual lm' → Off lm' rest → PathOk x y cost ps → Q (.ref S) { s with heap := h', toks := tk' }) :
   wpAny (model PySem.Challenge.rw_be0026_01.row.prog w) (ktrTop dp un gd cn cs L a ccd cl outer) (call (.ref 65) [.str x t1, .str y t2, .int cost t3]) Q E s := by
  revert X; k_fill; intro X
  refine wpAny_call ?_
  k_dflt k_enter
  (rename Fr h₀ L _ m => FG9)
  have hcd9 := hcd.keeps FG9.keep
  k_steps
  refine ⟨?_⟩
  k_dflt (refine' check_spec ?B ?F ?X ?N ?T ?hk ?h1 ?h2 ?hd ?hu ?_; (case h1 => lia); (case h2 => lia); cell_enter; k_whole; intro h' tk' F' N')
  k_steps
  refine ⟨?_⟩
  k_dflt (refine' init_spec' ?B ?F ?X ?N ?T ?hk ?h1 ?h2 ?h3 ?h4 ?hd ?hu ?_; (case h1 => lia); (case h2 => lia); (case h3 => lia); (case h4 => lia); cell_enter; k_whole; intro h' tk' lv' la' F' N' hC' ho')
  k_steps
  refine ⟨?_⟩
  have e1 : ((x.length : Int) + 1).toNat = x.length + 1 := by lia
  have e2 : ((y.length : Int) + 1).toNat = y.length + 1 := by lia
  (rename LevAt _ _ _ _ _ => hC); (rename Off _ (lm ++ rest) => ho); (rename News _ _ _ _ => N2); (rename Fr _ _ _ _ => F2)
  rw [e1, e2] at hC
  refine range_loop (n := x.length) (fun i m nx => ∃ lv la ta tb, Has m [("s1", .str x t1), ("s2", .str y t2), ("len1", .int x.length ta), ("len2", .int y.length tb), ("lev", .ref la), ("substitution_cost", .int cost t3)] ∧
      nx = lv ++ (lm ++ rest) ∧ LevAt lv la (x.length + 1) (y.length + 1) (gOut x y cost i) ∧ Off lv (lm ++ rest))
    rfl (by assumption) (by lia) (by lia) (by lia) F2 N2 ?_ ?_ ?_
  · exact ⟨_, _, _, _, by k_flat, rfl, hC.congr fun a b ha _ hb _ => gOut_init ha hb, ho⟩
  · clear hC ho N2 F2
    rintro i t m₁ nx h tk own hi hoff ⟨lv, la, ta, tb, hM, rfl, hC, ho⟩ F1 N1 TP hTP
    k_steps
    refine ⟨?_⟩
    (rename News _ _ _ _ => N2); (rename Fr _ _ _ _ => F2)
    have hoff2 : Off lv own := hoff.symm.subL fun p hp => List.mem_append_left _ hp
    refine range_loop (n := y.length) (fun j m nx => ∃ lv, Has m [("i", .int (0 + i) t), ("s1", .str x t1), ("s2", .str y t2), ("len1", .int x.length ta), ("len2", .int y.length tb), ("lev", .ref la), ("substitution_cost", .int cost t3)] ∧
        nx = lv ++ (lm ++ rest ++ own) ∧ LevAt lv la (x.length + 1) (y.length + 1) (gIn x y cost i j) ∧ Off lv (lm ++ rest ++ own))
      rfl (by assumption) (by lia) (by lia) (by lia) F2 (news_assoc N2) ?_ ?_ ?_
    · exact ⟨lv, Has.cons (by cell_eq) (by k_tabat), rfl, hC.congr fun a b ha _ hb _ => gIn_init ha hb, Off.app ho hoff2⟩
    · clear hC N2 F2 ho
      (try clear F1)
      rintro j tj m₂ nx h2 tk2 own2 hj hoffI ⟨lv, hM2, rfl, hC, hoI⟩ F1 N1 TP hTP
      replace N1 := news_assoc N1
      have hoL : Off lv ((lm ++ rest ++ own) ++ own2) := Off.app hoI (hoffI.symm.subL fun p hp => List.mem_append_left _ hp)
      k_steps
      refine ⟨?_⟩
      k_dflt (refine' step_spec ?B ?F ?X ?N ?T ?hk ?C ?ho ?i0 ?i1 ?j0 ?j1 ?hP ?hq ?hx ?hy ?hd ?hu ?_; (case C => with_reducible assumption); (case ho => with_reducible assumption); (case i0 => lia); (case i1 => lia); (case j0 => lia); (case j1 => lia); (case hP => lia); (case hq => lia); (case hx => lia); (case hy => lia); cell_enter; k_whole; intro h' tk' lv' F' N' hC' hA')
      k_steps
      (rename LevAt _ _ _ _ _ => hC2); (rename News _ _ _ _ => N3); (rename Fr _ _ _ _ => F3); (rename List.map _ _ = List.map _ _ => hA)
      exact hTP _ (turn_lv F3 N3 hoffI (hoL.congr hA) ⟨_, by k_tabat, rfl, hC2.congr fun a b ha _ hb _ => gIn_step0 ha hb, (hoL.congr hA).sub fun p hp => List.mem_append_left _ hp⟩)
    · clear hC N2 F2 ho
      (try clear F1)
      rintro m₂ nx h2 tk2 ⟨lv, hM2, rfl, hC, hoI⟩ F1 N1
      dsimp only
      k_steps
      refine hTP _ (turn_lv (rest := lm ++ rest) F1 N1 hoff hoI ⟨lv, la, ta, tb, ?_, rfl, hC.congr fun a b ha _ hb hb2 => gIn_done hb2, hoI.sub fun p hp => List.mem_append_left _ hp⟩)
      exact hM2.tail
  clear hC ho N2 F2
  rintro m₁ nx h tk ⟨lv, la, ta, tb, hM, rfl, hC, ho⟩ F1 N1
  replace hC := hC.congr (G' := dI x y cost) fun a b _ ha _ _ => gOut_all (by lia)
  dsimp only
  k_steps
  refine ⟨?_⟩
  k_dflt (refine' back_spec ?B ?F ?X ?N ?T ?hk ?C ?hx ?hy ?hol ?hlm ?hor ?hcd ?hd ?hu ?hc0 ?hc1 ?_; (case C => with_reducible assumption); (case hx => lia); (case hy => lia); (case hol => with_reducible assumption); (case hlm => with_reducible assumption); (case hor => with_reducible assumption); (case hcd => with_reducible assumption); (case hc0 => lia); (case hc1 => lia); cell_enter; k_whole; intro h' tk' S' pl' lm' ps' F' N' hT' ho' hlm' hor' hp')
  k_steps
  (rename TL _ _ _ => hT4); (rename LamAt _ _ => hlm4); (rename PathOk _ _ _ _ => hP4)
  exact hret _ _ _ _ _ _ (by assumption) (by assumption) hT4 (by assumption) hlm4 (by assumption) hP4
end
end

section

theorem dec_pos {c p q : Prop} [Decidable c] (h : c) (hp : p) : if decide c = true then p else q := by rw [if_pos (decide_eq_true h)]; exact hp
theorem dec_neg {c p q : Prop} [Decidable c] (h : ¬c) (hq : q) : if decide c = true then p else q := by rw [if_neg (by rw [decide_eq_false h]; exact Bool.false_ne_true)]; exact hq
theorem dec_split {c p q : Prop} [Decidable c] (h1 : c → p) (h2 : ¬c → q) : if decide c = true then p else q := by
  by_cases h : c
  · exact dec_pos h (h1 h)
  · exact dec_neg h (h2 h)
noncomputable def keyOf (k : Int × Int) : List Int := [k.1, k.2]
theorem keyOf_inj {k l : Int × Int} (h : keyOf k = keyOf l) : k = l := by
  unfold keyOf at h
  injection h with h1 h2
  injection h2 with h2 _
  exact Prod.ext h1 h2

/-- what a dict's get with an int default hands back -/
def Got (g : Int → Int → Int) (ks : List (Int × Int)) (k a b v : Int) : Prop := v = if (a, b) ∈ ks then g a b else k
/-- a dict whose keys are pairs of ints: the keys ks, and g i j under (i, j) -/
structure DA (prog : Program) (w : World) (fl : Led) (d : Addr) (ks : List (Int × Int)) (g : Int → Int → Int) (o : Obj) (es : Array DictEntry) (ep : Nat) (xs : List (List Int × Addr × Value)) : Prop where
  lo : (d == sysModules) = false
  mem : (d, o) ∈ fl
  ex : o.ExactDict
  dat : o.data = .dict es ep
  ent : es.toList = xs.map (entryOfKey (tupleKind (intKind prog w)))
  keys : xs.map (·.1) = ks.map keyOf
  nd : ks.Nodup
  objs : ∀ x ∈ xs, ∃ ok, (x.2.1, ok) ∈ fl ∧ TupKeyObj (intKind prog w) x.1 ok
  vals : ∀ x ∈ xs, ∀ k : Int × Int, x.1 = keyOf k → ∃ t, x.2.2 = .int (g k.1 k.2) t
def DictAt (prog : Program) (w : World) (fl : Led) (d : Addr) (ks : List (Int × Int)) (g : Int → Int → Int) : Prop := ∃ o es ep xs, DA prog w fl d ks g o es ep xs

theorem nodup_keys {ks : List (Int × Int)} (h : ks.Nodup) : (ks.map keyOf).Nodup := by
  unfold List.Nodup at h ⊢
  rw [List.pairwise_map]
  exact h.imp fun hne e => hne (keyOf_inj e)

section
variable {prog : Program} {w : World} {A : Around} {E : Value → Shared → Prop} {s : Shared} {h₀ : Heap} {L a d : Addr} {m : Str → Option Value} {news fl rest : Led} {i j k : Int} {t u v : Tok} {nn ep : Nat} {ks : List (Int × Int)} {g : Int → Int → Int} {o : Obj} {es : Array DictEntry} {xs : List (List Int × Addr × Value)}

theorem DictAt.nodup (D : DictAt prog w fl d ks g) : ks.Nodup := by
  obtain ⟨_, _, _, _, D⟩ := D
  exact D.nd
theorem pair_key : TupKeyObj (intKind prog w) (keyOf (i, j)) (tupObj [.int i t, .int j u] nn) :=
  ⟨rfl, _, _, rfl, .cons (by simp [intKind, Value.isInt]) (.cons (by simp [intKind, Value.isInt]) .nil)⟩
theorem DA.at (D : DA prog w fl d ks g o es ep xs) (N : News h₀ L s.heap news) (hsub : ∀ z ∈ fl, z ∈ news) : s.heap.DictOfH (tupleKind (intKind prog w)) d xs :=
  ⟨o, es, ep, (N _ (hsub _ D.mem)).1, D.ex, D.dat, D.ent, fun x hx => let ⟨_, hmk, t⟩ := D.objs x hx; t.key (N _ (hsub _ hmk)).1, by rw [D.keys]; exact nodup_keys D.nd⟩
theorem DA.look (D : DA prog w fl d ks g o es ep xs) : (atKey xs (keyOf (i, j))).isSome = decide ((i, j) ∈ ks) := by
  by_cases h : (i, j) ∈ ks
  · rw [decide_eq_true h]
    have h2 : keyOf (i, j) ∈ xs.map (·.1) := by rw [D.keys]; exact List.mem_map_of_mem h
    obtain ⟨x, hx, e⟩ := List.mem_map.mp h2
    unfold atKey
    rw [Option.isSome_map, List.find?_isSome]
    exact ⟨x, hx, by simpa using e⟩
  · rw [decide_eq_false h]
    unfold atKey
    rw [Option.isSome_map, Bool.eq_false_iff]
    intro h2
    rw [List.find?_isSome] at h2
    obtain ⟨x, hx, e⟩ := h2
    have h3 : keyOf (i, j) ∈ ks.map keyOf := by rw [← D.keys]; exact List.mem_map.mpr ⟨x, hx, by simpa using e⟩
    obtain ⟨y, hy, e2⟩ := List.mem_map.mp h3
    exact h (keyOf_inj e2 ▸ hy)
theorem DA.val (D : DA prog w fl d ks g o es ep xs) {p : Addr × Value} (h : atKey xs (keyOf (i, j)) = some p) : ∃ t, p.2 = .int (g i j) t := by
  unfold atKey at h
  obtain ⟨x, hx, rfl⟩ := Option.map_eq_some_iff.mp h
  have h1 := List.mem_of_find?_eq_some hx
  have h2 := List.find?_some hx
  exact D.vals x h1 (i, j) (by simpa using h2)
theorem pair_at {h : Heap} (N : News h₀ L h news) (ha : (a, tupObj [.int i t, .int j u] nn) ∈ news) : (tupleKind (intKind prog w)).is h (keyOf (i, j)) a := pair_key.key (N _ ha).1

theorem da_in {Q : Value → Shared → Prop} (hu : A.units + 1 < cLine) (N : News h₀ L s.heap news) (D : DictAt prog w fl d ks g) (hsub : ∀ z ∈ fl, z ∈ news) (ha : (a, tupObj [.int i t, .int j u] nn) ∈ news)
    (h : ∀ tk, Q (.bool (decide ((i, j) ∈ ks))) { s with toks := tk }) : wpAny (model prog w) A (compareOp .In (.ref a) (.ref d)) Q E s := by
  obtain ⟨o, es, ep, xs, D⟩ := D
  exact wpAny_in_heap (knd := tupleKind (intKind prog w)) hu (pair_at N ha) D.lo (D.at N hsub) (by rw [D.look]; exact h _)
theorem da_notin {Q : Value → Shared → Prop} (hu : A.units + 1 < cLine) (N : News h₀ L s.heap news) (D : DictAt prog w fl d ks g) (hsub : ∀ z ∈ fl, z ∈ news) (ha : (a, tupObj [.int i t, .int j u] nn) ∈ news)
    (h : ∀ tk, Q (.bool (!decide ((i, j) ∈ ks))) { s with toks := tk }) : wpAny (model prog w) A (compareOp .NotIn (.ref a) (.ref d)) Q E s := by
  obtain ⟨o, es, ep, xs, D⟩ := D
  exact wpAny_notIn_heap (knd := tupleKind (intKind prog w)) hu (pair_at N ha) D.lo (D.at N hsub) (by rw [D.look]; exact h _)
theorem da_notin2 {Q : Value → Shared → Prop} (hu : A.units + 1 < cLine) (N : News h₀ L s.heap news) (D : DictAt prog w fl d ks g) (hsub : ∀ z ∈ fl, z ∈ news) (ha : (a, tupObj [.int i t, .int j u] nn) ∈ news)
    (h : ∀ tk, Q (.bool (decide ((i, j) ∉ ks))) { s with toks := tk }) : wpAny (model prog w) A (compareOp .NotIn (.ref a) (.ref d)) Q E s := da_notin hu N D hsub ha (fun tk => by rw [← decide_not]; exact h tk)
theorem da_notin_t {Q : Value → Shared → Prop} (hu : A.units + 1 < cLine) (N : News h₀ L s.heap news) (D : DictAt prog w fl d ks g) (hsub : ∀ z ∈ fl, z ∈ news) (ha : (a, tupObj [.int i t, .int j u] nn) ∈ news) (hn : (i, j) ∉ ks)
    (h : ∀ tk, Q (.bool true) { s with toks := tk }) : wpAny (model prog w) A (compareOp .NotIn (.ref a) (.ref d)) Q E s := da_notin hu N D hsub ha (by rw [decide_eq_false hn]; exact h)
theorem da_notin_f {Q : Value → Shared → Prop} (hu : A.units + 1 < cLine) (N : News h₀ L s.heap news) (D : DictAt prog w fl d ks g) (hsub : ∀ z ∈ fl, z ∈ news) (ha : (a, tupObj [.int i t, .int j u] nn) ∈ news) (hn : (i, j) ∈ ks)
    (h : ∀ tk, Q (.bool false) { s with toks := tk }) : wpAny (model prog w) A (compareOp .NotIn (.ref a) (.ref d)) Q E s := da_notin hu N D hsub ha (by rw [decide_eq_true hn]; exact h)
theorem da_in_t {Q : Value → Shared → Prop} (hu : A.units + 1 < cLine) (N : News h₀ L s.heap news) (D : DictAt prog w fl d ks g) (hsub : ∀ z ∈ fl, z ∈ news) (ha : (a, tupObj [.int i t, .int j u] nn) ∈ news) (hn : (i, j) ∈ ks)
    (h : ∀ tk, Q (.bool true) { s with toks := tk }) : wpAny (model prog w) A (compareOp .In (.ref a) (.ref d)) Q E s := da_in hu N D hsub ha (by rw [decide_eq_true hn]; exact h)
theorem da_in_f {Q : Value → Shared → Prop} (hu : A.units + 1 < cLine) (N : News h₀ L s.heap news) (D : DictAt prog w fl d ks g) (hsub : ∀ z ∈ fl, z ∈ news) (ha : (a, tupObj [.int i t, .int j u] nn) ∈ news) (hn : (i, j) ∉ ks)
    (h : ∀ tk, Q (.bool false) { s with toks := tk }) : wpAny (model prog w) A (compareOp .In (.ref a) (.ref d)) Q E s := da_in hu N D hsub ha (by rw [decide_eq_false hn]; exact h)
theorem da_get2 {Q : Value → Shared → Prop} (hu : A.units + 1 < cLine) (N : News h₀ L s.heap news) (D : DictAt prog w fl d ks g) (hsub : ∀ z ∈ fl, z ∈ news) (ha : (a, tupObj [.int i t, .int j u] nn) ∈ news)
    (h : ∀ tk t z, Got g ks k i j z → Q (.int z t) { s with toks := tk }) : wpAny (model prog w) A (call (.builtin "dict.get") [.ref d, .ref a, .int k v]) Q E s := by
  obtain ⟨o, es, ep, xs, D⟩ := D
  have hD := D.at N hsub
  refine call_meetsIn PySem.F.slot_dict_get hD.typeIs PySem.F.entry_dict_get (PySem.F.args_dict_get_3 _ _ _) (meetsH_dict_get_default (tupleKind (intKind prog w)) d a D.lo (.int k v)) ⟨hu, _, xs, pair_at N ha, hD, ?_⟩
  have hl := D.look (i := i) (j := j)
  cases hf : atKey xs (keyOf (i, j)) with
  | some p =>
    rw [hf] at hl
    obtain ⟨t', e⟩ := D.val hf
    have hm : (i, j) ∈ ks := by simpa using hl.symm
    have := h (s.toks + (tupleKind (intKind prog w)).draws (keyOf (i, j))) t' _ (show g i j = _ by rw [if_pos hm])
    simpa [e] using this
  | none =>
    rw [hf] at hl
    have hm : (i, j) ∉ ks := by simpa using hl.symm
    have := h (s.toks + (tupleKind (intKind prog w)).draws (keyOf (i, j))) v _ (show k = _ by rw [if_neg hm])
    simpa using this
theorem da_item {value slice : PySem.Expr} {Q : Value → Shared → Prop} (hu : A.units + 1 < cLine) (N : News h₀ L s.heap news) (D : DictAt prog w fl d ks g) (hsub : ∀ z ∈ fl, z ∈ news) (ha : (a, tupObj [.int i t, .int j u] nn) ∈ news) (hm : (i, j) ∈ ks)
    (h : ∀ tk t, Q (.int (g i j) t) { s with toks := tk })
    (hs : subscripted slice false (.ref d) (.ref a) = operate [.ref d, .ref a] (getItem (.ref d) (.ref a)) := by with_unfolding_all rfl) (hg : ∀ r, letTemporaryGo value (.ref d) r = pure () := by intro _; with_unfolding_all rfl) :
    wpAny (model prog w) A (subscriptTail value slice (.ref d) (.ref a)) Q E s := by
  obtain ⟨o, es, ep, xs, D⟩ := D
  have hD := D.at N hsub
  have hl := D.look (i := i) (j := j)
  rw [decide_eq_true hm] at hl
  obtain ⟨p, hp⟩ := Option.isSome_iff_exists.mp hl
  obtain ⟨t', e⟩ := D.val hp
  exact subscriptTail_builtin hD.typeIs slot_dict_getitem.lookup (wpAny_getItem_heap (knd := tupleKind (intKind prog w)) hu (pair_at N ha) hD hp (by rw [e]; exact h _ _)) hs hg

theorem DA.len (D : DA prog w fl d ks g o es ep xs) : es.size = ks.length := by
  have h1 := congrArg List.length D.ent
  have h2 := congrArg List.length D.keys
  simp only [List.length_map, Array.length_toList] at h1 h2
  lia
theorem meets_da_len (hd : (d == sysModules) = false) :
    MeetsIn prog w (Builtin.«dict.__len__» ⟨[.ref d], []⟩) (fun _ R s => ∃ o es ep, s.heap.get? d = some o ∧ o.data = .dict es ep ∧ R (.ok (.ret (.int es.size s.toks))) { s with toks := s.toks + 1 }) :=
  .of_wp fun A R s ⟨o, es, ep, ho, hdat, h⟩ => by
    show wpAny _ _ (dictSize d >>= _) _ _ s
    unfold dictSize
    refine wpAny_bind (wpAny_bind (wpAny_dictEntries ho hdat (wpAny_pure ?_)))
    show wpAny _ _ (Builtin.Dict.pendingCount d >>= _) _ _ s
    refine wpAny_bind (wpAny_pendingCount_other hd ?_)
    refine wpAny_ret_mkInt ?_
    rw [Nat.add_zero]; exact h
theorem da_len {Q : Value → Shared → Prop} (N : News h₀ L s.heap news) (D : DictAt prog w fl d ks g) (hsub : ∀ z ∈ fl, z ∈ news) (hfit : (ks.length : Int) < 2 ^ 62)
    (h : ∀ tk t, Q (.int ks.length t) { s with toks := tk }) : wpAny (model prog w) A (call (.builtin "len") [.ref d]) Q E s := by
  obtain ⟨o, es, ep, xs, D⟩ := D
  have ho := (N _ (hsub _ D.mem)).1
  have hT : s.TypeIs (.ref d) "dict" := ⟨o, ho, D.ex.1⟩
  have hl := D.len
  refine Calls.call_function_entry kind_len plain_len entry_len (args_len1 _) ?_
  unfold Builtin.«len»
  refine wpAny_bind (m := oneArg "len" _) (wpAny_pure ?_)
  refine wpAny_bind (m := callSpecial? (.ref d) (Str.ofString "__len__")) (wpAny_callSpecial?_slot (name := Str.ofString "__len__") hT F.slot_dict_len
    (call_meetsIn F.slot_dict_len hT F.entry_dict_len (F.args_dict_len_1 _) (meets_da_len D.lo) ⟨o, es, ep, ho, D.dat, ?_⟩))
  rw [hl]
  show wpAny _ _ _ _ _ { s with toks := s.toks + 1 }
  refine wpAny_bind (wpAny_holding (wpAny_pure ?_))
  refine wpAny_bind (wpAny_letGo ?_)
  show wpAny _ _ (if ((ks.length : Nat) : Int) < 0 then _ else _) _ _ _
  rw [if_neg (by lia)]
  show wpAny _ _ (if ((ks.length : Nat) : Int) ≥ 2 ^ 63 then _ else _) _ _ _
  rw [if_neg (by lia)]
  exact wpAny_bind (wpAny_mkInt (wpAny_pure ⟨_, rfl, h _ _⟩))

theorem DA.put {h' : Heap} (D : DA prog w fl d ks g o es ep xs) (N : News h₀ L s.heap news) (hsub : ∀ z ∈ fl ++ rest, z ∈ news) (ho : Off fl rest) (ha : (a, tupObj [.int i t, .int j u] nn) ∈ news) (hn : (i, j) ∉ ks) (hk : k = g i j)
    (hb : AllLt a (fl ++ rest)) (hD : h'.DictOfH (tupleKind (intKind prog w)) d (storedH xs (keyOf (i, j)) a (.int k v))) (hs : Heap.SameBut d s.heap h') :
    ∃ fl', News h₀ L h' (fl' ++ rest) ∧ DictAt prog w fl' d (ks ++ [(i, j)]) g ∧ Off fl' rest := by
  have hat : atKey xs (keyOf (i, j)) = none := by
    have hl := D.look (i := i) (j := j)
    rw [decide_eq_false hn] at hl
    cases hf : atKey xs (keyOf (i, j)) with
    | none => rfl
    | some p => rw [hf] at hl; cases hl
  rw [storedH_new hat] at hD
  obtain ⟨o', es', ep', ho', hc', hd', he', _, _⟩ := hD
  have N' : News h₀ L s.heap (fl ++ rest) := fun z hz => N z (hsub z hz)
  have had : a ≠ d := fun e => Nat.lt_irrefl _ (e ▸ kst_ltOf hb _ (List.mem_append_left _ D.mem))
  have hb1 : AllLt a fl := allLt_sub hb fun p hp => List.mem_append_left _ hp
  have hb2 : AllLt a rest := allLt_sub hb fun p hp => List.mem_append_right _ hp
  have hne : ∀ {b : Addr} {ob : Obj} {ks' : List Int}, (b, ob) ∈ fl → TupKeyObj (intKind prog w) ks' ob → b ≠ d := by
    intro b ob ks' hb t e
    subst e
    obtain rfl : ob = o := Option.some.inj ((N' _ (List.mem_append_left _ hb)).1.symm.trans (N' _ (List.mem_append_left _ D.mem)).1)
    have h1 := t.1
    rw [D.ex.1] at h1
    injection h1 with h2
    exact absurd h2 (by decide)
  refine ⟨(a, tupObj [.int i t, .int j u] nn) :: updAt d o' fl, fun x hx => ?_, ⟨o', es', ep', _, D.lo, List.mem_cons_of_mem _ (updAt_self D.mem), hc', hd', he', ?_, ?_, fun x hx => ?_, fun x hx q hq => ?_⟩, ?_⟩
  · rcases List.mem_cons.mp hx with rfl | hx
    · exact ⟨(hs.2 a had).trans (N _ ha).1, (N _ ha).2⟩
    · exact news_upd N' D.mem ho hs ho' x hx
  · rw [List.map_append, List.map_append, D.keys]; rfl
  · refine List.nodup_append.mpr ⟨D.nd, by simp, fun x hx y hy e => ?_⟩
    rw [List.mem_singleton.mp hy] at e
    exact hn (e ▸ hx)
  · rcases List.mem_append.mp hx with hx | hx
    · obtain ⟨ok, h1, h2⟩ := D.objs x hx
      exact ⟨ok, List.mem_cons_of_mem _ (updAt_other h1 (hne h1 h2)), h2⟩
    · rw [List.mem_singleton.mp hx]
      exact ⟨_, .head _, pair_key⟩
  · rcases List.mem_append.mp hx with hx | hx
    · exact D.vals x hx q hq
    · rw [List.mem_singleton.mp hx] at hq ⊢
      have e := keyOf_inj hq
      subst e
      exact ⟨v, by rw [hk]⟩
  · intro x hx y hy
    rcases List.mem_cons.mp hx with rfl | hx
    · exact Off.below (o := o) hb2 _ (.head _) y hy
    · exact ho.congr (updAt_fst ..) x hx y hy
theorem DA.xlen (D : DA prog w fl d ks g o es ep xs) : xs.length = ks.length := by
  have h2 := congrArg List.length D.keys
  simpa using h2
theorem da_set {Q : Unit → Shared → Prop} (hu : A.units + 1 < cLine) (F : Fr h₀ L s.heap m) (N : News h₀ L s.heap news) (D : DictAt prog w fl d ks g) (ho : Off fl rest) (hsub : ∀ z ∈ fl ++ rest, z ∈ news) (ha : (a, tupObj [.int i t, .int j u] nn) ∈ news)
    (hn : (i, j) ∉ ks) (hk : k = g i j) (hb : AllLt a (fl ++ rest)) (hsz : ks.length ≤ 10000)
    (h : ∀ h' tk fl', k = g i j → Fr h₀ L h' m → News h₀ L h' (fl' ++ rest) → DictAt prog w fl' d (ks ++ [(i, j)]) g → Off fl' rest → Q () { s with heap := h', toks := tk }) :
    wpAny (model prog w) A (setItem (.ref d) (.ref a) (.int k v)) Q E s := by
  obtain ⟨o, es, ep, xs, D⟩ := D
  have hm := N _ (hsub _ (List.mem_append_left _ D.mem))
  refine wpAny_setItem_heap (hsz := by rw [D.xlen]; exact Nat.le_trans hsz (by decide)) (knd := tupleKind (intKind prog w)) hu (pair_at N ha) (D.at N fun z hz => hsub z (List.mem_append_left _ hz)) fun h' hD hs => ?_
  obtain ⟨fl', N', D', ho'⟩ := D.put N hsub ho ha hn hk hb hD hs
  exact h h' _ fl' hk (F.change hs hm.2.1 hm.2.2) N' D' ho'
theorem da_store {Q : Unit → Shared → Prop} (hu : A.units < cLine) (F : Fr h₀ L s.heap m) (N : News h₀ L s.heap news) (D : DictAt prog w fl d ks g) (ho : Off fl rest) (hsub : ∀ z ∈ fl ++ rest, z ∈ news) (ha : (a, tupObj [.int i t, .int j u] nn) ∈ news)
    (hn : (i, j) ∉ ks) (hk : k = g i j) (hb : AllLt a (fl ++ rest)) (hsz : ks.length ≤ 10000)
    (h : ∀ h' tk fl', Fr h₀ L h' m → News h₀ L h' (fl' ++ rest) → DictAt prog w fl' d (ks ++ [(i, j)]) g → Off fl' rest → Q () { s with heap := h', toks := tk }) :
    wpAny (model prog w) A (dictSet d (.ref a) (.int k v)) Q E s := by
  obtain ⟨o, es, ep, xs, D⟩ := D
  have hm := N _ (hsub _ (List.mem_append_left _ D.mem))
  refine wpAny_dictSet_heap (hsz := by rw [D.xlen]; exact Nat.le_trans hsz (by decide)) (knd := tupleKind (intKind prog w)) hu (pair_at N ha) (D.at N fun z hz => hsub z (List.mem_append_left _ hz)) fun h' hD hs => ?_
  obtain ⟨fl', N', D', ho'⟩ := D.put N hsub ho ha hn hk hb hD hs
  exact h h' _ fl' (F.change hs hm.2.1 hm.2.2) N' D' ho'
theorem da_empty {o : Obj} (lo : (d == sysModules) = false) (hd : o.IsDictOf (intKind prog w) []) : DictAt prog w [(d, o)] d [] g := by
  obtain ⟨es, ep, hc, hdat, _, hp, _⟩ := hd
  have he : es.toList = [] := List.length_eq_zero_iff.mp hp.length
  exact ⟨o, es, ep, [], lo, .head _, hc, hdat, he, rfl, .nil, fun _ hx => (nomatch hx), fun _ hx => (nomatch hx)⟩
theorem da_method {pl : Sem Bool} {Q : Value × List Value → Shared → Prop} (N : News h₀ L s.heap news) (D : DictAt prog w fl d ks g) (hsub : ∀ z ∈ fl, z ∈ news) (h : Q (.builtin "dict.get", [.ref d]) s) :
    wpAny (model prog w) A (getMethod (.ref d) "get" pl) Q E s := by
  obtain ⟨o, es, ep, xs, D⟩ := D
  have hD := D.at N hsub
  exact getMethod_builtin hD.typeIs PySem.F.plainAttrs_dict PySem.F.slot_dict_get PySem.F.type_dict_get (dictOfH_noDict hD) h
end
end

section

section
variable {prog : Program} {w : World} {A : Around} {E : Value → Shared → Prop} {s : Shared} {h₀ : Heap} {L H : Addr} {m : Str → Option Value} {news rest : Led} {k : Int} {t u tv : Tok} {x : Value} {n0 : Nat}
theorem sl_len {Q : Value → Shared → Prop} {S : Addr} {vs : List Value} (N : News h₀ L s.heap news) (hm : (S, listOf vs.toArray n0) ∈ news) (hp : vs.length ≤ 63)
    (h : ∀ t, Q (.int vs.length t) { s with toks := s.toks + 1 + 1 }) : wpAny (model prog w) A (call (.builtin "len") [.ref S]) Q E s :=
  len_list (isList_of (N _ hm).1) (by rw [List.size_toArray]; lia) (by rw [List.size_toArray]; exact h _)
theorem sl_item {value slice : PySem.Expr} {Q : Value → Shared → Prop} {S : Addr} {vs : List Value} {u : Tok} (N : News h₀ L s.heap news) (hm : (S, listOf vs.toArray n0) ∈ news) (hvs : ∀ v ∈ vs, ∃ z u, v = .int z u) (hp : vs.length ≤ 63) (h0 : 0 ≤ k) (h1 : k < vs.length)
    (h : ∀ z t, Q (.int z t) s)
    (hs : subscripted slice false (.ref S) (.int k u) = operate [.ref S, .int k u] (getItem (.ref S) (.int k u)) := by with_unfolding_all rfl) (hg : ∀ r, letTemporaryGo value (.ref S) r = pure () := by intro _; with_unfolding_all rfl) :
    wpAny (model prog w) A (subscriptTail value slice (.ref S) (.int k u)) Q E s := by
  have hk : k.toNat < vs.length := by lia
  obtain ⟨z, t, e⟩ := hvs vs[k.toNat] (List.getElem_mem hk)
  exact item_listL (isList_of (N _ hm).1) h0 (by lia) (x := .int z t) (by rw [← e]; simp [hk]) (h z t) hs hg
theorem mod_lo {a b : Int} (h : 1 ≤ b) : 0 ≤ a.fmod b := by rw [Int.fmod_eq_emod_of_nonneg _ (by lia)]; exact Int.emod_nonneg _ (by lia)
theorem mod_hi {a b : Int} (h : 1 ≤ b) : a.fmod b < b := by rw [Int.fmod_eq_emod_of_nonneg _ (by lia)]; exact Int.emod_lt_of_pos _ (by lia)
theorem hand_set {Q : Unit → Shared → Prop} {v : Int} (F : Fr h₀ L s.heap m) (N : News h₀ L s.heap news) (ho : Off [(H, listOf #[x, .int k t] n0)] rest) (hsub : ∀ z ∈ (H, listOf #[x, .int k t] n0) :: rest, z ∈ news)
    (h : ∀ h', Fr h₀ L h' m → News h₀ L h' ((H, listOf #[x, .int v tv] n0) :: rest) → Q () { s with heap := h' }) :
    wpAny (model prog w) A (setItem (.ref H) (.int 1 u) (.int v tv)) Q E s := by
  have N' : News h₀ L s.heap ([(H, listOf #[x, .int k t] n0)] ++ rest) := fun z hz => N z (hsub z hz)
  have z := N' _ (.head _)
  have hS := Heap.SameBut.update s.heap H (Obj.mapSeq (·.setIfInBounds 1 (.int v tv)))
  refine ki_setAt z.1 (by decide) (by decide) (by simp) (h _ (F.change hS z.2.1 z.2.2) ?_)
  have e := news_upd N' (.head _) ho hS (o' := listOf #[x, .int v tv] n0) (by have q1 := PySem.IsL.update z.1 (·.setIfInBounds 1 (.int v tv)); rw [q1]; simp)
  simpa [updAt] using e
end
section

local macro_rules | `(tactic| walk_at "setItem ref int") => `(tactic| refine stop_here ?_)
local macro_rules | `(tactic| walk_at "call builtin:len") => `(tactic| refine stop_here ?_)
local macro_rules | `(tactic| walk_at "subscriptTail") => `(tactic| refine stop_here ?_)

theorem next_spec {w : World} {p : Program} {loose : List Str} {mean : ExcName → Option Value} {mg mb : Str → Option Value}
   {dp un : Nat} {gd : Option (List Code)} {cn : Str} {cs : Scope} {a : Addr} {ccd : Value} {cl : List (Str × Addr)} {outer : List Env} {A₀ : Around} {base h₀ : Heap} {L : Addr} {m : Str → Option Value} {s : Shared} {Q E : Value → Shared → Prop}
   {rest : Led} {H S : Addr} {vs : List Value} {k many : Int} {t t1 : Tok} {n0 n1 : Nat}
   (B : Below A₀ base outer h₀) (F : Fr h₀ L s.heap m) (X : (hd.heap_39 w.params).In h₀) (N : News h₀ L s.heap ((H, listOf #[.ref S, .int k t] n0) :: (S, listOf vs.toArray n1) :: rest)) (T : Top p loose mean mg mb h₀) (hk : cs.kind = .function)
   (hoH : Off [(H, listOf #[.ref S, .int k t] n0)] ((S, listOf vs.toArray n1) :: rest)) (hvs : ∀ v ∈ vs, ∃ z u, v = .int z u) (hlen : vs.length ≤ 63) (hk0 : 0 ≤ k) (hk1 : k < 1000) (hm0 : 1 ≤ many) (hm1 : many < 100)
   (hd : dp + 1 < recursionLimit) (hu : un + 8 < cLine)
   (hret : ∀ h' tk' z t' t2, Fr h₀ L h' m → News h₀ L h' ((H, listOf #[.ref S, .int (k + 1) t'] n0) :: (S, listOf vs.toArray n1) :: rest) → 0 ≤ z → z < many → Q (.int z t2) { s with heap := h', toks := tk' }) :
   wpAny (model PySem.Challenge.rw_be0026_01.row.prog w) (ktrTop dp un gd cn cs L a ccd cl outer) (call (.ref 72) [.ref H, .int many t1]) Q E s := by
  revert X; k_fill; intro X
  refine wpAny_call ?_
  k_dflt k_enter
  k_steps
  refine ⟨?_⟩
  (k_dflt (refine' hand_set ?y1F ?y1N ?y1ho ?y1sub ?_; (case y1F => k_asm); (case y1N => k_asm); (case y1ho => with_reducible assumption); (case y1sub => exact sub_refl); k_whole; intro h' F' N'; (try k_sweep)))
  k_steps
  refine ⟨?_⟩
  (k_dflt (refine' sl_len ?y2N ?y2m ?y2h ?_; (case y2N => k_asm); (case y2m => k_mem); (case y2h => with_reducible assumption); k_whole; intro t9))
  k_steps
  all_goals (try (refine ⟨?_⟩; (k_dflt (refine' sl_item ?y3N ?y3m ?y3hv ?y3h ?y3a ?y3b ?_; (case y3N => k_asm); (case y3m => k_mem); (case y3hv => with_reducible assumption); (case y3h => with_reducible assumption); (case y3a => exact mod_lo (by lia)); (case y3b => exact mod_hi (by lia)); k_whole; intro z9 t9)); k_steps))
  all_goals exact hret _ _ _ _ _ (by assumption) (by assumption) (mod_lo hm0) (mod_hi hm0)
end
end

section

/-! the growing table of distances: what it holds when the price p is scanned up to (i, j) -/
section
variable {x y : Str} {cost p i j : Int} {ks : List (Int × Int)}
def SeenIs (x y : Str) (cost : Int) (ks : List (Int × Int)) (p i j : Int) : Prop :=
  ∀ a b, (a, b) ∈ ks ↔ (0 ≤ a ∧ a ≤ x.length ∧ 0 ≤ b ∧ b ≤ y.length ∧ ((a = 0 ∧ b = 0) ∨ dI x y cost a b < p ∨ (dI x y cost a b = p ∧ (a < i ∨ (a = i ∧ b < j)))))

theorem seen_zero (hc : 0 ≤ cost) : SeenIs x y cost [(0, 0)] 0 0 0 := fun a b => by
  rw [List.mem_singleton, Prod.mk.injEq]
  constructor
  · rintro ⟨rfl, rfl⟩
    exact ⟨by lia, by lia, by lia, by lia, .inl ⟨rfl, rfl⟩⟩
  · rintro ⟨h1, h2, h3, h4, h | h | h⟩
    · exact h
    · have := (dI_bounds (x := x) (y := y) hc h1 h3).1
      lia
    · lia
theorem lex_row {a b i n : Int} (h : b ≤ n) (h0 : 0 ≤ b) : (a < i ∨ (a = i ∧ b < n + 1)) ↔ (a < i + 1 ∨ (a = i + 1 ∧ b < 0)) := by lia
theorem lex_pass {a b n p v : Int} (h0 : 0 ≤ a) (h : a ≤ n) (h1 : 0 ≤ b) : (v < p ∨ (v = p ∧ (a < n + 1 ∨ (a = n + 1 ∧ b < 0)))) ↔ (v < p + 1 ∨ (v = p + 1 ∧ (a < 0 ∨ (a = 0 ∧ b < 0)))) :=
  ⟨fun h => .inl (h.elim (fun h => Int.lt_add_one_of_le (Int.le_of_lt h)) fun h => Int.lt_add_one_of_le (Int.le_of_eq h.1)),
    fun c => c.elim (fun c => (Int.lt_or_eq_of_le (Int.le_of_lt_add_one c)).imp_right fun c => ⟨c, .inl (Int.lt_add_one_of_le h)⟩) fun c => absurd c.2 (by lia)⟩
theorem lex_next {a b i j : Int} : (a < i ∨ (a = i ∧ b < j + 1)) ↔ ((a < i ∨ (a = i ∧ b < j)) ∨ (a = i ∧ b = j)) := by lia
theorem seen_row (h : SeenIs x y cost ks p i (y.length + 1)) : SeenIs x y cost ks p (i + 1) 0 := fun a b =>
  (h a b).trans (and_congr_right fun _ => and_congr_right fun _ => and_congr_right fun h3 => and_congr_right fun h4 => or_congr_right (or_congr_right (and_congr_right fun _ => lex_row h4 h3)))
theorem seen_pass (h : SeenIs x y cost ks p (x.length + 1) 0) : SeenIs x y cost ks (p + 1) 0 0 := fun a b =>
  (h a b).trans (and_congr_right fun h1 => and_congr_right fun h2 => and_congr_right fun h3 => and_congr_right fun _ => or_congr_right (lex_pass h1 h2 h3))
/-- the place is passed by, for it stands already or its price is another -/
theorem seen_skip (h : SeenIs x y cost ks p i j) (hs : (i, j) ∈ ks ∨ dI x y cost i j ≠ p) : SeenIs x y cost ks p i (j + 1) := fun a b =>
  ⟨fun g => by
    have := (h a b).mp g
    exact ⟨this.1, this.2.1, this.2.2.1, this.2.2.2.1, this.2.2.2.2.imp_right fun g => g.imp_right fun g => ⟨g.1, lex_next.mpr (.inl g.2)⟩⟩,
  fun ⟨h1, h2, h3, h4, h5⟩ => by
    rcases h5 with c | c | ⟨c, c2⟩
    · exact (h a b).mpr ⟨h1, h2, h3, h4, .inl c⟩
    · exact (h a b).mpr ⟨h1, h2, h3, h4, .inr (.inl c)⟩
    · rcases lex_next.mp c2 with c2 | ⟨rfl, rfl⟩
      · exact (h a b).mpr ⟨h1, h2, h3, h4, .inr (.inr ⟨c, c2⟩)⟩
      · exact hs.resolve_right fun n => n c⟩
theorem seen_put (h : SeenIs x y cost ks p i j) (hd : dI x y cost i j = p) (h1 : 0 ≤ i) (h2 : i ≤ x.length) (h3 : 0 ≤ j) (h4 : j ≤ y.length) : SeenIs x y cost (ks ++ [(i, j)]) p i (j + 1) := fun a b => by
  rw [List.mem_append, h a b, List.mem_singleton, Prod.mk.injEq]
  constructor
  · rintro (⟨g1, g2, g3, g4, h⟩ | ⟨rfl, rfl⟩)
    · exact ⟨g1, g2, g3, g4, h.imp_right fun g => g.imp_right fun g => ⟨g.1, lex_next.mpr (.inl g.2)⟩⟩
    · exact ⟨h1, h2, h3, h4, .inr (.inr ⟨hd, lex_next.mpr (.inr ⟨rfl, rfl⟩)⟩)⟩
  · rintro ⟨g1, g2, g3, g4, c | c | ⟨c, c2⟩⟩
    · exact .inl ⟨g1, g2, g3, g4, .inl c⟩
    · exact .inl ⟨g1, g2, g3, g4, .inr (.inl c)⟩
    · exact (lex_next.mp c2).imp (fun c2 => ⟨g1, g2, g3, g4, .inr (.inr ⟨c, c2⟩)⟩) id
theorem seen_new (h : SeenIs x y cost ks p i j) (hn : (i, j) ∉ ks) (h1 : 0 ≤ i) (h2 : i ≤ x.length) (h3 : 0 ≤ j) (h4 : j ≤ y.length) : p ≤ dI x y cost i j ∧ ¬(i = 0 ∧ j = 0) := by
  rw [h i j] at hn
  refine ⟨Int.not_lt.mp fun c => hn ⟨h1, h2, h3, h4, .inr (.inl c)⟩, fun c => hn ⟨h1, h2, h3, h4, .inl c⟩⟩
theorem near_up (h : SeenIs x y cost ks p i j) (hi : 0 < i) (h2 : i ≤ x.length) (h3 : 0 ≤ j) (h4 : j ≤ y.length) : (if (i - 1, j) ∈ ks then dI x y cost (i - 1) j else p) < p ↔ dI x y cost (i - 1) j < p := by
  by_cases c : (i - 1, j) ∈ ks
  · rw [if_pos c]
  · rw [if_neg c]
    have := mt (h (i - 1) j).mpr c
    constructor
    · intro h; lia
    · intro h5
      exact absurd ⟨by lia, by lia, h3, h4, .inr (.inl h5)⟩ this
theorem near_left (h : SeenIs x y cost ks p i j) (h1 : 0 ≤ i) (h2 : i ≤ x.length) (h3 : 0 < j) (h4 : j ≤ y.length) : (if (i, j - 1) ∈ ks then dI x y cost i (j - 1) else p) < p ↔ dI x y cost i (j - 1) < p := by
  by_cases c : (i, j - 1) ∈ ks
  · rw [if_pos c]
  · rw [if_neg c]
    have := mt (h i (j - 1)).mpr c
    constructor
    · intro h; lia
    · intro h5
      exact absurd ⟨by lia, by lia, by lia, by lia, .inr (.inl h5)⟩ this
theorem near_diag (h : SeenIs x y cost ks p i j) (hi : 0 < i) (h2 : i ≤ x.length) (h3 : 0 < j) (h4 : j ≤ y.length) (hc : 0 ≤ cost) : (i - 1, j - 1) ∈ ks ∨ p < dI x y cost (i - 1) (j - 1) := by
  rw [h]
  by_cases c : p < dI x y cost (i - 1) (j - 1)
  · exact .inr c
  · exact .inl ⟨by lia, by lia, by lia, by lia, by lia⟩
theorem put_up (h : SeenIs x y cost ks p i j) (hn : (i, j) ∉ ks) (hi : 0 < i) (h2 : i ≤ x.length) (h3 : 0 ≤ j) (h4 : j ≤ y.length) (hc : (if (i - 1, j) ∈ ks then dI x y cost (i - 1) j else p) < p) : p = dI x y cost i j := by
  exact Int.le_antisymm (seen_new h hn (Int.le_of_lt hi) h2 h3 h4).1 (Int.le_trans (dI_up hi) ((near_up h hi h2 h3 h4).mp hc))
theorem put_left (h : SeenIs x y cost ks p i j) (hn : (i, j) ∉ ks) (h1 : 0 ≤ i) (h2 : i ≤ x.length) (h3 : 0 < j) (h4 : j ≤ y.length) (hc : (if (i, j - 1) ∈ ks then dI x y cost i (j - 1) else p) < p) : p = dI x y cost i j := by
  exact Int.le_antisymm (seen_new h hn h1 h2 (Int.le_of_lt h3) h4).1 (Int.le_trans (dI_left h3) ((near_left h h1 h2 h3 h4).mp hc))
theorem put_diag (h : SeenIs x y cost ks p i j) (hn : (i, j) ∉ ks) (hi : 0 < i) (h2 : i ≤ x.length) (h3 : 0 < j) (h4 : j ≤ y.length) (hc : dI x y cost (i - 1) (j - 1) + (if Txt.item x (i - 1) = Txt.item y (j - 1) then 0 else cost) ≤ p) : p = dI x y cost i j := by
  exact Int.le_antisymm (seen_new h hn (Int.le_of_lt hi) h2 (Int.le_of_lt h3) h4).1 (Int.le_trans (dI_diag hi h3) hc)
theorem put_diag0 (h : SeenIs x y cost ks p i j) (hn : (i, j) ∉ ks) (hi : 0 < i) (h2 : i ≤ x.length) (h3 : 0 < j) (h4 : j ≤ y.length) (he : (Txt.item x (i - 1) == Txt.item y (j - 1)) = true) (hc : dI x y cost (i - 1) (j - 1) + 0 ≤ p) : p = dI x y cost i j :=
  put_diag h hn hi h2 h3 h4 (by rw [if_pos (by simpa using he)]; exact hc)
theorem put_diag1 (h : SeenIs x y cost ks p i j) (hn : (i, j) ∉ ks) (hi : 0 < i) (h2 : i ≤ x.length) (h3 : 0 < j) (h4 : j ≤ y.length) (he : (Txt.item x (i - 1) == Txt.item y (j - 1)) = false) (hc : dI x y cost (i - 1) (j - 1) + cost ≤ p) : p = dI x y cost i j :=
  put_diag h hn hi h2 h3 h4 (by rw [if_neg (by simpa using he)]; exact hc)
section
variable {G : Int → Int → Int} (hG : G = dI x y cost) (h : SeenIs x y cost ks p i j) (hn : (i, j) ∉ ks)
include hG h hn
theorem gput_up (hi : 0 < i) (h2 : i ≤ x.length) (h3 : 0 ≤ j) (h4 : j ≤ y.length) {v : Int} (hv : Got G ks p (i - 1) j v) (hc : v < p) : p = G i j := by subst hG; unfold Got at hv; subst hv; exact put_up h hn hi h2 h3 h4 hc
theorem gput_left (h1 : 0 ≤ i) (h2 : i ≤ x.length) (h3 : 0 < j) (h4 : j ≤ y.length) {v : Int} (hv : Got G ks p i (j - 1) v) (hc : v < p) : p = G i j := by subst hG; unfold Got at hv; subst hv; exact put_left h hn h1 h2 h3 h4 hc
theorem gput_diag0 (hi : 0 < i) (h2 : i ≤ x.length) (h3 : 0 < j) (h4 : j ≤ y.length) (he : (Txt.item x (i - 1) == Txt.item y (j - 1)) = true) (hc : G (i - 1) (j - 1) + 0 ≤ p) : p = G i j := by subst hG; exact put_diag0 h hn hi h2 h3 h4 he hc
theorem gput_diag1 (hi : 0 < i) (h2 : i ≤ x.length) (h3 : 0 < j) (h4 : j ≤ y.length) (he : (Txt.item x (i - 1) == Txt.item y (j - 1)) = false) (hc : G (i - 1) (j - 1) + cost ≤ p) : p = G i j := by subst hG; exact put_diag1 h hn hi h2 h3 h4 he hc
end
/-- no road leads here at this price -/
theorem skip_none (h : SeenIs x y cost ks p i j) (hn : (i, j) ∉ ks) (h1 : 0 ≤ i) (h2 : i ≤ x.length) (h3 : 0 ≤ j) (h4 : j ≤ y.length) (hcost : 0 ≤ cost)
    (n1 : 0 < i → ¬(if (i - 1, j) ∈ ks then dI x y cost (i - 1) j else p) < p) (n2 : 0 < j → ¬(if (i, j - 1) ∈ ks then dI x y cost i (j - 1) else p) < p)
    (n3 : 0 < i → 0 < j → (i - 1, j - 1) ∈ ks → ¬dI x y cost (i - 1) (j - 1) + (if Txt.item x (i - 1) = Txt.item y (j - 1) then 0 else cost) ≤ p) : dI x y cost i j ≠ p := by
  have h0 := seen_new h hn h1 h2 h3 h4
  by_cases ci : 0 < i
  · have m1 := Int.lt_add_one_of_le (Int.not_lt.mp (mt (near_up h ci h2 h3 h4).mpr (n1 ci)))
    by_cases cj : 0 < j
    · have m2 := Int.lt_add_one_of_le (Int.not_lt.mp (mt (near_left h h1 h2 cj h4).mpr (n2 cj)))
      have m3 : p < dI x y cost (i - 1) (j - 1) + (if Txt.item x (i - 1) = Txt.item y (j - 1) then 0 else cost) := by
        rcases near_diag h ci h2 cj h4 hcost with c | c
        · exact Int.not_le.mp (n3 ci cj c)
        · exact Int.lt_of_lt_of_le c (Int.le_add_of_nonneg_right (by split <;> lia))
      rw [dI_at ci cj]
      exact (Int.ne_of_lt (Int.lt_min.mpr ⟨Int.lt_min.mpr ⟨m1, m2⟩, m3⟩)).symm
    · obtain rfl : j = 0 := by lia
      rw [dI_col _ _ _ _ h1]
      rw [dI_col _ _ _ _ (pred_of ci)] at m1
      lia
  · obtain rfl : i = 0 := by lia
    have cj : 0 < j := by lia
    have m2 := mt (near_left h h1 h2 cj h4).mpr (n2 cj)
    rw [dI_zero _ _ _ _ h3]
    rw [dI_zero _ _ _ _ (pred_of cj)] at m2
    lia
end

/-! how many places there are -/
noncomputable def gridL (n m : Nat) : List (Int × Int) := (List.range n).flatMap fun (i : Nat) => (List.range m).map fun (j : Nat) => ((i : Int), (j : Int))
theorem gridL_len (n m : Nat) : (gridL n m).length = n * m := by
  unfold gridL
  rw [List.length_flatMap]
  simp only [List.length_map, List.length_range]
  induction n with
  | zero => simp
  | succ n ih => rw [List.range_succ, List.map_append, List.sum_append, ih, Nat.succ_mul]; simp
theorem mem_gridL {n m : Nat} {a b : Int} : (a, b) ∈ gridL n m ↔ 0 ≤ a ∧ a < n ∧ 0 ≤ b ∧ b < m := by
  unfold gridL
  simp only [List.mem_flatMap, List.mem_range, List.mem_map, Prod.mk.injEq]
  constructor
  · rintro ⟨i, hi, j, hj, rfl, rfl⟩
    lia
  · rintro ⟨h1, h2, h3, h4⟩
    exact ⟨a.toNat, by lia, b.toNat, by lia, by lia, by lia⟩
theorem gridL_nodup (n m : Nat) : (gridL n m).Nodup := by
  unfold gridL List.Nodup
  rw [List.pairwise_flatMap]
  refine ⟨fun i _ => ?_, ?_⟩
  · rw [List.pairwise_map]
    exact (List.nodup_range (n := m)).imp fun h e => h (by injection e with _ e; lia)
  · refine (List.nodup_range (n := n)).imp fun h x hx y hy e => ?_
    obtain ⟨j, _, rfl⟩ := List.mem_map.mp hx
    obtain ⟨k, _, rfl⟩ := List.mem_map.mp hy
    injection e with e _
    lia
theorem nodup_len {α : Type} [DecidableEq α] : ∀ {l l' : List α}, l.Nodup → (∀ z ∈ l, z ∈ l') → l.length ≤ l'.length
  | [], _, _, _ => Nat.zero_le _
  | a :: l, l', h, hs => by
    have ha := hs a (.head _)
    have h1 := List.nodup_cons.mp h
    have := nodup_len (l' := l'.erase a) h1.2 fun z hz => (List.mem_erase_of_ne (a := z) (b := a) (fun e => h1.1 (e ▸ hz))).mpr (hs z (.tail _ hz))
    rw [List.length_erase_of_mem ha] at this
    have hpos : 0 < l'.length := List.length_pos_of_mem ha
    show l.length + 1 ≤ _
    lia
theorem seen_full {x y : Str} {cost p : Int} {ks : List (Int × Int)} (hn : ks.Nodup) (h : SeenIs x y cost ks p 0 0) (hl : ¬((ks.length : Int) < ((x.length : Int) + 1) * ((y.length : Int) + 1))) :
    ∀ a b : Int, 0 ≤ a → a ≤ x.length → 0 ≤ b → b ≤ y.length → (a, b) ∈ ks := fun a b h1 h2 h3 h4 => by
  refine Classical.byContradiction fun c => hl ?_
  have := nodup_len (l := (a, b) :: ks) (l' := gridL (x.length + 1) (y.length + 1)) (List.nodup_cons.mpr ⟨c, hn⟩) fun z hz => by
    rcases List.mem_cons.mp hz with rfl | hz
    · exact mem_gridL.mpr ⟨by lia, by lia, by lia, by lia⟩
    · obtain ⟨a', b'⟩ := z
      have := (h a' b').mp hz
      exact mem_gridL.mpr ⟨by lia, by lia, by lia, by lia⟩
  rw [gridL_len, List.length_cons] at this
  have e : (((x.length + 1) * (y.length + 1) : Nat) : Int) = ((x.length : Int) + 1) * ((y.length : Int) + 1) := by
    rw [Int.natCast_mul]; rfl
  lia
theorem seen_more {x y : Str} {cost p : Int} {ks : List (Int × Int)} (hc : 0 ≤ cost) (h : SeenIs x y cost ks p 0 0) (hl : (ks.length : Int) < ((x.length : Int) + 1) * ((y.length : Int) + 1)) : p ≤ x.length + y.length := by
  refine Classical.byContradiction fun c => ?_
  have := nodup_len (l := gridL (x.length + 1) (y.length + 1)) (l' := ks) (gridL_nodup ..) fun z hz => by
    obtain ⟨a, b⟩ := z
    have hb := mem_gridL.mp hz
    have := (dI_bounds (x := x) (y := y) hc hb.1 hb.2.2.1).2
    exact (h a b).mpr ⟨by lia, by lia, by lia, by lia, by lia⟩
  rw [gridL_len] at this
  have e : (((x.length + 1) * (y.length + 1) : Nat) : Int) = ((x.length : Int) + 1) * ((y.length : Int) + 1) := by
    rw [Int.natCast_mul]; rfl
  lia
theorem seen_len {x y : Str} {cost p i j : Int} {ks : List (Int × Int)} (hn : ks.Nodup) (h : SeenIs x y cost ks p i j) (hx : x.length < 40) (hy : y.length < 40) : ks.length ≤ 1600 := by
  have := nodup_len (l' := gridL (x.length + 1) (y.length + 1)) hn fun z hz => by
    obtain ⟨a', b'⟩ := z
    have := (h a' b').mp hz
    exact mem_gridL.mpr ⟨by lia, by lia, by lia, by lia⟩
  rw [gridL_len] at this
  exact Nat.le_trans this (Nat.le_trans (Nat.mul_le_mul (by lia : x.length + 1 ≤ 40) (by lia : y.length + 1 ≤ 40)) (by decide))
section
variable {x y : Str} {cost p i j : Int} {ks : List (Int × Int)} {G : Int → Int → Int} (hG : G = dI x y cost) (h : SeenIs x y cost ks p i j) (hn : (i, j) ∉ ks) (h1 : 0 ≤ i) (h2 : i ≤ x.length) (h3 : 0 ≤ j) (h4 : j ≤ y.length) (hcost : 0 ≤ cost)
include hG h hn h1 h2 h3 h4 hcost
/-- the place stays free: what was asked, and what came back -/
theorem gskip (n1 : i ≤ 0 ∨ ∃ v, Got G ks p (i - 1) j v ∧ ¬v < p) (n2 : j ≤ 0 ∨ ∃ v, Got G ks p i (j - 1) v ∧ ¬v < p)
    (n3 : i ≤ 0 ∨ j ≤ 0 ∨ (i - 1, j - 1) ∉ ks ∨ ((Txt.item x (i - 1) == Txt.item y (j - 1)) = true ∧ ¬G (i - 1) (j - 1) + 0 ≤ p) ∨ ((Txt.item x (i - 1) == Txt.item y (j - 1)) = false ∧ ¬G (i - 1) (j - 1) + cost ≤ p)) :
    SeenIs x y cost ks p i (j + 1) := by
  subst hG
  refine seen_skip h (.inr (skip_none h hn h1 h2 h3 h4 hcost (fun hi => ?_) (fun hj => ?_) fun hi hj hm => ?_))
  · rcases n1 with c | ⟨v, hv, hc⟩
    · lia
    · unfold Got at hv; subst hv; exact hc
  · rcases n2 with c | ⟨v, hv, hc⟩
    · lia
    · unfold Got at hv; subst hv; exact hc
  · rcases n3 with c | c | c | ⟨e, c⟩ | ⟨e, c⟩
    · lia
    · lia
    · exact absurd hm c
    · rw [if_pos (by simpa using e)]; exact c
    · rw [if_neg (by simpa using e)]; exact c
end
theorem gseen_put {x y : Str} {cost p i : Int} {j : Nat} {ks : List (Int × Int)} {G : Int → Int → Int} (hG : G = dI x y cost) (h : SeenIs x y cost ks p i (0 + j)) (hd : p = G i (0 + j)) (h1 : 0 ≤ i) (h2 : i ≤ x.length) (h4 : (j : Int) ≤ y.length) :
    SeenIs x y cost (ks ++ [(i, 0 + (j : Int))]) p i (0 + ((j + 1 : Nat) : Int)) := by
  subst hG
  have e : (0 : Int) + ((j + 1 : Nat) : Int) = 0 + j + 1 := by lia
  rw [e]
  exact seen_put h hd.symm h1 h2 (by lia) (by lia)
theorem seen_cast {x y : Str} {cost p i : Int} {j : Nat} {ks : List (Int × Int)} (h : SeenIs x y cost ks p i (0 + j + 1)) : SeenIs x y cost ks p i (0 + ((j + 1 : Nat) : Int)) := by
  have e : (0 : Int) + ((j + 1 : Nat) : Int) = 0 + j + 1 := by lia
  rw [e]
  exact h
end

section

section
variable {prog : Program} {w : World} {A : Around} {E : Value → Shared → Prop} {s : Shared} {h₀ : Heap} {L D : Addr} {m : Str → Option Value} {news : Led} {g : Int → Int → Int} {oD : Obj}
/-- the one entry of a display -/
def OneEntry (h₀ : Heap) (L : Addr) (m : Str → Option Value) (news : Led) (D : Addr) (oD : Obj) (prog : Program) (w : World) (g : Int → Int → Int) (Q : Value → Shared → Prop) (vs : List (Value × Value)) (s₁ : Shared) : Prop :=
  ∃ a i j k t u v nn news', vs = [(.ref a, .int k v)] ∧ Fr h₀ L s₁.heap m ∧ News h₀ L s₁.heap news' ∧ (a, tupObj [.int i t, .int j u] nn) ∈ news' ∧ (∀ z ∈ (D, oD) :: news, z ∈ news') ∧ AllLt a ((D, oD) :: news) ∧ k = g i j ∧
    ∀ h' tk fl, Fr h₀ L h' m → News h₀ L h' (fl ++ news) → DictAt prog w fl D [(i, j)] g → Off fl news → Q (.ref D) { s₁ with heap := h', toks := tk }
theorem dict_one (g : Int → Int → Int) {env : Env} {keys : List (Option Expr)} {values : List Expr} {pos : Pos} {Q : Value → Shared → Prop} (F : Fr h₀ L s.heap m) (N : News h₀ L s.heap news) (hu : A.units < cLine)
    (hbig : sysModules < h₀.objs.size) (hall : keys.all (·.isSome) = true) (hl : keys.length = values.length) (h0 : keys ≠ []) (hlen : keys.length ≤ 15)
    (h : ∀ D oD hp, Fr h₀ L hp m → News h₀ L hp ((D, oD) :: news) → AllLt D news →
      wpAny (model prog w) A (evalPairs (pairTrees keys values env pos)) (OneEntry h₀ L m news D oD prog w g Q) E { s with heap := hp }) :
    wpAny (model prog w) A (eval (.Dict keys values pos) env) Q E s := by
  refine wpAny_Dict_any hall hl h0 hlen ?_
  obtain ⟨o, ho, hd⟩ := Heap.dictOf_iff.mp (Heap.DictOf.new (knd := intKind prog w) s.heap)
  have lo := F.notModules hbig
  have hb : AllLt s.heap.objs.size news := allLt_mk fun p hp => Heap.lt_size (N p hp).1
  refine wpAny_mono (h s.heap.objs.size _ _ (F.push _) (News.push F N _) hb) (fun vs s₁ hv => ?_) fun _ _ e => e
  obtain ⟨a, i, j, k, t, u, v, nn, news', rfl, F₁, N₁, hm, hsub, hlt, hk, hQ⟩ := hv
  rw [Heap.get?_push_size _ rfl] at ho
  have he : DictAt prog w [(s.heap.objs.size, o)] s.heap.objs.size [] g := da_empty lo hd
  obtain rfl := Option.some.inj ho
  unfold storeAll
  rw [List.forIn_cons]
  refine wpAny_bind (wpAny_bind (da_store (rest := news) hu F₁ N₁ he (Off.below hb) (fun z hz => hsub z hz) hm (fun h => nomatch h) hk hlt (by decide) fun h' tk fl F' N' D' ho' => wpAny_pure ?_))
  dsimp only
  rw [List.forIn_nil]
  exact wpAny_pure (hQ h' tk fl F' N' D' ho')
end
section
local macro_rules | `(tactic| walk_at "ite") => `(tactic| (first
  | (with_reducible refine dec_pos ?_ ?_; focus (first | with_reducible assumption | lia))
  | (with_reducible refine dec_neg ?_ ?_; focus (first | with_reducible assumption | lia))
  | (with_reducible refine dec_neg (not_not_intro ?_) ?_; focus with_reducible assumption)
  | (with_reducible refine dec_split ?_ ?_ <;> intro _)))

local macro_rules | `(tactic| walk_at "eval Dict") => `(tactic| refine stop_here ?_)
local macro_rules | `(tactic| walk_at "call builtin:len") => `(tactic| ((with_reducible show wpAny _ _ (call _ [Value.ref _]) _ _ _); refine stop_here ?_))
local macro_rules | `(tactic| walk_at "compareOp NotIn ref ref") => `(tactic| (k_here; k_dflt (refine' da_notin2 ?u ?N ?C ?sub ?a ?_; (case u => ktr_units); (case N => k_asm); (case C => with_reducible assumption); (case sub => accj_flat); (case a => k_mem); k_whole; intro tk9; (try dsimp only))))
local macro_rules | `(tactic| walk_at "compareOp In ref ref") => `(tactic| (k_here; k_dflt (refine' da_in ?u ?N ?C ?sub ?a ?_; (case u => ktr_units); (case N => k_asm); (case C => with_reducible assumption); (case sub => accj_flat); (case a => k_mem); k_whole; intro tk9; (try dsimp only))))
local macro_rules | `(tactic| walk_at "getMethod ref") => `(tactic| (k_here; k_dflt (refine' da_method ?N ?C ?sub ?_; (case N => k_asm); (case C => with_reducible assumption); (case sub => accj_flat); k_whole)))
local macro_rules | `(tactic| walk_at "call builtin:dict.get") => `(tactic| (k_here; k_dflt (refine' da_get2 ?u ?N ?C ?sub ?a ?_; (case u => ktr_units); (case N => k_asm); (case C => with_reducible assumption); (case sub => accj_flat); (case a => k_mem); k_whole; intro tk9 t9 z9 hz9; (try dsimp only))))
local macro_rules | `(tactic| walk_at "subscriptTail") => `(tactic| (k_here; (with_reducible show wpAny _ _ (subscriptTail _ _ (Value.ref _) (Value.ref _)) _ _ _); k_dflt (refine' da_item ?u ?N ?C ?sub ?a ?hm ?_; (case u => ktr_units); (case N => k_asm); (case C => with_reducible assumption); (case sub => accj_flat); (case a => k_mem); (case hm => with_reducible assumption); k_whole; intro tk9 t9; (try dsimp only))))
local macro_rules | `(tactic| walk_at "setItem ref ref") => `(tactic| (k_here; k_dflt (first
  | (refine' da_set ?u ?F ?N ?C ?ho ?sub ?a ?hn ?hk ?hb ?hsz ?_; (case u => ktr_units); (case F => k_asm); (case N => k_asm); (case C => with_reducible assumption); (case ho => with_reducible assumption); (case sub => accj_flat); (case a => k_mem); (case hn => with_reducible assumption); (case hk => (first | exact gput_up (by with_reducible assumption) (by with_reducible assumption) (by with_reducible assumption) (by lia) (by lia) (by lia) (by lia) (by with_reducible assumption) (by with_reducible assumption) | exact gput_left (by with_reducible assumption) (by with_reducible assumption) (by with_reducible assumption) (by lia) (by lia) (by lia) (by lia) (by with_reducible assumption) (by with_reducible assumption) | exact gput_diag1 (by with_reducible assumption) (by with_reducible assumption) (by with_reducible assumption) (by lia) (by lia) (by lia) (by lia) (by assumption) (by assumption) | exact gput_diag0 (by with_reducible assumption) (by with_reducible assumption) (by with_reducible assumption) (by lia) (by lia) (by lia) (by lia) (by assumption) (by assumption))); (case hb => (first   | (rename _ ∧ _ ∧ _ ∧ _ ∧ _ ∧ _ ∧ AllLt _ _ => hL9; exact hL9.2.2.2.2.2.2) | (rename _ ∧ _ ∧ _ ∧ _ ∧ _ ∧ AllLt _ _ => hL9; exact hL9.2.2.2.2.2) | (rename _ ∧ _ ∧ _ ∧ _ ∧ AllLt _ _ => hL9; exact hL9.2.2.2.2)   | (rename _ ∧ _ ∧ _ ∧ AllLt _ _ => hL9; exact hL9.2.2.2) | (rename _ ∧ _ ∧ AllLt _ _ => hL9; exact hL9.2.2) | (rename _ ∧ AllLt _ _ => hL9; exact hL9.2))); (case hsz => lia); k_whole; intro h' tk9 fl' hk' F' N' hD' ho'; (try k_sweep)))))

theorem ahead_spec {w : World} {p : Program} {loose : List Str} {mean : ExcName → Option Value} {mg mb : Str → Option Value}
   {dp un : Nat} {gd : Option (List Code)} {cn : Str} {cs : Scope} {a : Addr} {ccd : Value} {cl : List (Str × Addr)} {outer : List Env} {A₀ : Around} {base h₀ : Heap} {L : Addr} {m : Str → Option Value} {s : Shared} {Q E : Value → Shared → Prop}
   {news : Led} {x y : Str} {cost : Int} {t1 t2 t3 : Tok}
   (B : Below A₀ base outer h₀) (F : Fr h₀ L s.heap m) (X : (hd.heap_39 w.params).In h₀) (N : News h₀ L s.heap news) (T : Top p loose mean mg mb h₀) (hk : cs.kind = .function)
   (hx : x.length < 40) (hy : y.length < 40) (hc0 : 0 ≤ cost) (hc1 : cost < 1000)
   (hd : dp + 3 < recursionLimit) (hu : un + 40 < cLine)
   (hret : ∀ h' tk' d fl ks, Fr h₀ L h' m → News h₀ L h' (fl ++ news) → DictAt PySem.Challenge.rw_be0026_01.row.prog w fl d ks (dI x y cost) → Off fl news → (∀ a b : Int, 0 ≤ a → a ≤ x.length → 0 ≤ b → b ≤ y.length → (a, b) ∈ ks) → Q (.ref d) { s with heap := h', toks := tk' }) :
   wpAny (model PySem.Challenge.rw_be0026_01.row.prog w) (ktrTop dp un gd cn cs L a ccd cl outer) (call (.ref 79) [.str x t1, .str y t2, .int cost t3]) Q E s := by
  revert X; k_fill; intro X
  refine wpAny_call ?_
  k_dflt k_enter
  k_steps
  refine ⟨?_⟩
  (rename News _ _ _ _ => N2); (rename Fr _ _ _ _ => F2); (rename Top _ _ _ _ _ _ => T2)
  refine dict_one (dI x y cost) F2 N2 (by ktr_units) (modules_low T2.nolimit) rfl rfl (List.cons_ne_nil _ _) (by decide) ?_
  clear N2 F2
  intro D oD hp F1 N1 hb1
  k_steps
  refine ⟨_, _, _, _, _, _, _, _, _, rfl, by assumption, by assumption, .head _, sub_cons sub_refl, by assumption, (dI_zero x y cost 0 (Int.le_refl _)).symm, ?_⟩
  intro h' tk' fl F1 N1 hD ho
  dsimp only
  k_steps
  refine ⟨?_⟩
  (rename News _ _ _ _ => N2); (rename Fr _ _ _ _ => F2)
  refine while_rule (fun n m nx => ∃ (p : Int), ∃ fl d ks tw tp, 0 ≤ p ∧ Has m [("price", .int p tp), ("whole", .int (((x.length : Int) + 1) * ((y.length : Int) + 1)) tw), ("far", .ref d), ("first", .str x t1), ("second", .str y t2), ("cost", .int cost t3)] ∧
      nx = fl ++ news ∧ n = ((x.length : Int) + y.length + 1 - p).toNat ∧ DictAt PySem.Challenge.rw_be0026_01.row.prog w fl d ks (dI x y cost) ∧ Off fl news ∧ SeenIs x y cost ks p 0 0)
    F2 N2 (n₀ := ((x.length : Int) + y.length + 1 - 0).toNat) ?_ ?_ PassesOwn.never
  · exact ⟨0, fl, _, _, _, _, Int.le_refl _, by k_flat, rfl, rfl, hD, ho, seen_zero hc0⟩
  · clear N2 F2 hD ho hb1
    rintro n m₁ nx h tk ⟨p, fl, d, ks, tw, tp, hp0, hM, rfl, rfl, hD, ho, hS⟩ F1 N1 WP hWP
    have hnd : ks.Nodup := hD.nodup
    have hlen := seen_len hnd hS hx hy
    k_steps
    refine ⟨?_⟩
    (k_dflt (refine' da_len ?y1N ?y1C ?y1sub ?y1a ?_; (case y1N => k_asm); (case y1C => with_reducible assumption); (case y1sub => accj_flat); (case y1a => lia); k_whole; intro tk9 t9; (try dsimp only)))
    k_steps
    · refine ⟨?_⟩
      (rename News _ _ _ _ => N2); (rename Fr _ _ _ _ => F2); (rename (ks.length : Int) < _ => hlt)
      have hp := seen_more hc0 hS hlt
      refine range_loop (n := x.length + 1) (fun i m nx => ∃ fl ks, Has m [("price", .int p tp), ("whole", .int (((x.length : Int) + 1) * ((y.length : Int) + 1)) tw), ("far", .ref d), ("first", .str x t1), ("second", .str y t2), ("cost", .int cost t3)] ∧
          nx = fl ++ news ∧ DictAt PySem.Challenge.rw_be0026_01.row.prog w fl d ks (dI x y cost) ∧ Off fl news ∧ SeenIs x y cost ks p i 0)
        rfl (by assumption) (by lia) (by lia) (by lia) F2 N2 ?_ ?_ ?_
      · exact ⟨fl, ks, by k_tabat, rfl, hD, ho, hS⟩
      · clear N2 F2 hD ho hS hlt hlen hnd hM
        rintro i t m₁ nx h tk own hi hoff ⟨fl, ks, hM, rfl, hD, ho, hS⟩ F1 N1 TP hTP
        k_steps
        refine ⟨?_⟩
        (rename News _ _ _ _ => N2); (rename Fr _ _ _ _ => F2)
        have hoff2 : Off fl own := hoff.symm.subL fun p hp => List.mem_append_left _ hp
        refine range_loop (n := y.length + 1) (fun j m nx => ∃ fl ks, Has m [("i", .int (0 + i) t), ("price", .int p tp), ("whole", .int (((x.length : Int) + 1) * ((y.length : Int) + 1)) tw), ("far", .ref d), ("first", .str x t1), ("second", .str y t2), ("cost", .int cost t3)] ∧
            nx = fl ++ (news ++ own) ∧ DictAt PySem.Challenge.rw_be0026_01.row.prog w fl d ks (dI x y cost) ∧ Off fl (news ++ own) ∧ SeenIs x y cost ks p (0 + i) (0 + j))
          rfl (by assumption) (by lia) (by lia) (by lia) F2 (news_assoc N2) ?_ ?_ ?_
        · exact ⟨fl, ks, Has.cons (by cell_eq) (by k_tabat), rfl, hD, Off.app ho hoff2, by rw [Int.zero_add]; exact hS⟩
        · clear N2 F2 hD ho hS hM
          (try clear F1)
          rintro j tj m₂ nx h2 tk2 own2 hj hoffI ⟨fl, ks, hM, rfl, hD, hoI, hS⟩ F1 N1 TP hTP
          replace N1 := news_assoc N1
          have hoL : Off fl ((news ++ own) ++ own2) := Off.app hoI (hoffI.symm.subL fun p hp => List.mem_append_left _ hp)
          have hnd : ks.Nodup := hD.nodup
          have hlen := seen_len hnd hS hx hy
          obtain ⟨G, hG⟩ : ∃ G, G = dI x y cost := ⟨_, rfl⟩
          rw [← hG] at hD
          by_cases hn : ((0 + i : Int), (0 + j : Int)) ∈ ks
          · k_steps
            (rename News _ _ _ _ => N3); (rename Fr _ _ _ _ => F3)
            exact hTP _ (turn_lv (lv' := fl) F3 (kst_newsOf N3 (by accj_flat)) hoffI hoL ⟨fl, ks, by k_tabat, rfl, hG ▸ hD, hoI, seen_cast (seen_skip hS (.inl hn))⟩)
          k_steps
          all_goals ((rename News _ _ _ _ => N3); (rename Fr _ _ _ _ => F3))
          all_goals first
            | ((rename DictAt _ _ _ _ (ks ++ _) G => hD3); (rename Off _ (news ++ own ++ own2) => ho3)
               exact hTP _ (turn_lv F3 N3 hoffI ho3 ⟨_, _, by k_tabat, rfl, hG ▸ hD3, ho3.sub fun p hp => List.mem_append_left _ hp, gseen_put hG hS (by with_reducible assumption) (by lia) (by lia) (by lia)⟩))
            | (have n1 : (0 + i : Int) ≤ 0 ∨ ∃ v, Got G ks p (0 + i - 1) (0 + j) v ∧ ¬v < p := by first | exact .inl (by lia) | exact .inr ⟨_, by with_reducible assumption, by with_reducible assumption⟩
               have n2 : (0 + j : Int) ≤ 0 ∨ ∃ v, Got G ks p (0 + i) (0 + j - 1) v ∧ ¬v < p := by first | exact .inl (by lia) | exact .inr ⟨_, by with_reducible assumption, by with_reducible assumption⟩
               have n3 : (0 + i : Int) ≤ 0 ∨ (0 + j : Int) ≤ 0 ∨ ((0 + i - 1 : Int), (0 + j - 1 : Int)) ∉ ks ∨ ((Txt.item x (0 + i - 1) == Txt.item y (0 + j - 1)) = true ∧ ¬G (0 + i - 1) (0 + j - 1) + 0 ≤ p) ∨ ((Txt.item x (0 + i - 1) == Txt.item y (0 + j - 1)) = false ∧ ¬G (0 + i - 1) (0 + j - 1) + cost ≤ p) := by
                 first | exact .inl (by lia) | exact .inr (.inl (by lia)) | exact .inr (.inr (.inl (by with_reducible assumption))) | exact .inr (.inr (.inr (.inl ⟨by with_reducible assumption, by with_reducible assumption⟩))) | exact .inr (.inr (.inr (.inr ⟨by with_reducible assumption, by with_reducible assumption⟩)))
               have hS3 := seen_cast (gskip hG hS hn (by lia) (by lia) (by lia) (by lia) hc0 n1 n2 n3)
               have N4 := kst_newsOf N3 (by accj_flat : ∀ z ∈ fl ++ (news ++ own ++ own2), z ∈ _)
               clear n1 n2 n3 N3
               refine hTP _ ?_
               (try dsimp only)
               exact turn_lv (lv' := fl) F3 N4 hoffI hoL ⟨fl, ks, by k_tabat, rfl, hG ▸ hD, hoI, hS3⟩)
        · clear N2 F2 hD ho hS hM
          (try clear F1)
          rintro m₂ nx h2 tk2 ⟨fl, ks, hM, rfl, hD, hoI, hS⟩ F1 N1
          dsimp only
          k_steps
          refine hTP _ (turn_lv (rest := news) F1 N1 hoff hoI ⟨fl, ks, hM.tail, rfl, hD, hoI.sub fun p hp => List.mem_append_left _ hp, ?_⟩)
          have e9 : (0 : Int) + ((y.length + 1 : Nat) : Int) = y.length + 1 := by lia
          rw [e9] at hS
          have := seen_row (i := 0 + i) hS
          rw [Int.zero_add] at this
          exact this
      · clear N2 F2 hD ho hS hlt hlen hnd hM
        rintro m₁ nx h tk ⟨fl, ks, hM, rfl, hD, ho, hS⟩ F1 N1
        dsimp only
        k_steps
        (rename News _ _ _ _ => N3); (rename Fr _ _ _ _ => F3)
        have e9 : ((x.length + 1 : Nat) : Int) = x.length + 1 := by lia
        rw [e9] at hS
        exact hWP _ (WEnd.intro F3 N3 (n' := ((x.length : Int) + y.length + 1 - (p + 1)).toNat) (by lia) ⟨p + 1, fl, d, ks, tw, _, by lia, by k_flat, rfl, rfl, hD, ho, seen_pass hS⟩)
    · exact hret _ _ _ _ _ (by assumption) (by assumption) hD ho (seen_full hnd hS (by assumption))
end
end

section

theorem off3_of {I C D : Addr} {oI oC oD : Obj} {l : Led} (h : Off [(I, oI), (C, oC), (D, oD)] l) : LCg.Off3 I C D l :=
  LCg.Off3.of fun p hp => ⟨(h _ (.head _) p hp).symm, (h _ (.tail _ (.head _)) p hp).symm, (h _ (.tail _ (.tail _ (.head _))) p hp).symm⟩
theorem off_of3 {I C D : Addr} {oI oC oD : Obj} {l : Led} (h : LCg.Off3 I C D l) : Off [(I, oI), (C, oC), (D, oD)] l := fun p hp q hq => by
  have := h.mem q hq
  rcases List.mem_cons.mp hp with rfl | hp
  · exact this.1.symm
  · rcases List.mem_cons.mp hp with rfl | hp
    · exact this.2.1.symm
    · rw [List.mem_singleton.mp hp]; exact this.2.2.symm
theorem off_of1 {D : Addr} {oD : Obj} : ∀ {l : Led}, LCg.Off1 D l → Off [(D, oD)] l
  | [], _ => fun _ _ _ hq => nomatch hq
  | q :: r, h => fun p hp z hz => by
    rw [List.mem_singleton.mp hp]
    rcases List.mem_cons.mp hz with rfl | hz
    · exact Ne.symm h.1
    · exact off_of1 (oD := oD) h.2 _ (.head _) z hz

/-- the end of a turn of a list's comprehension -/
structure CEnd (h₀ : Heap) (L : Addr) (m : Str → Option Value) (s₁ : Shared) (own : Led) (S : Led → Prop) (J : List Value → Led → Prop) (ys : List Value) (y : Value) (s₂ : Shared) : Prop where
  out : ∃ h' tk all nx, s₂ = { s₁ with heap := h', toks := tk } ∧ Fr h₀ L h' m ∧ News h₀ L h' all ∧ (∀ p ∈ own ++ nx, p ∈ all) ∧ Off own nx ∧ S nx ∧ J (ys ++ [y]) nx
theorem CEnd.intro {h₀ : Heap} {L : Addr} {m : Str → Option Value} {s₁ : Shared} {own all nx : Led} {S : Led → Prop} {J : List Value → Led → Prop} {ys : List Value} {y : Value} {h' : Heap} {tk : Nat} (F : Fr h₀ L h' m) (N : News h₀ L h' all) (hs : ∀ p ∈ own ++ nx, p ∈ all)
    (ho : Off own nx) (hS : S nx) (hj : J (ys ++ [y]) nx) : CEnd h₀ L m s₁ own S J ys y { s₁ with heap := h', toks := tk } := ⟨h', tk, all, nx, rfl, F, N, hs, ho, hS, hj⟩
section
variable {prog : Program} {w : World} {A : Around} {s : Shared} {h₀ : Heap} {L : Addr} {m : Str → Option Value} {env : Env} {elt : Expr} {x : Str} {scope : Scope} {cl : List (Str × Addr)} {S : Led → Prop} {P : Nat → Value → Prop} {Fin : List Value → Led → Prop}
theorem rest_inv (J : Nat → List Value → Led → Prop) {n : Nat}
    (turn : ∀ i v I oI C oC D m₂ h tk (E' : Value → Shared → Prop) ys nx, i < n → P i v → J i ys nx → LCg.NsObj oC m₂ → m₂ x = some v → Fr h₀ L h m → News h₀ L h ((I, oI) :: (C, oC) :: (D, LCg.lst ys) :: nx) → Off [(I, oI), (C, oC), (D, LCg.lst ys)] nx →
      ∀ CP : Value → Shared → Prop, (∀ y s₂, CEnd h₀ L m { s with heap := h, toks := tk } [(I, oI), (C, oC), (D, LCg.lst ys)] S (J (i + 1)) ys y s₂ → CP y s₂) →
      wpAny (model prog w) A (eval elt (compEnvC scope cl C env)) CP E' { s with heap := h, toks := tk })
    (fin : ∀ ys nx, J n ys nx → Fin ys nx) (k : Nat) : ∀ (i : Nat) (ys : List Value) (nx : Led), i + k = n → J i ys nx → LCg.CompRest prog w A h₀ L m env elt x scope cl s S P Fin k i ys nx := by
  induction k with
  | zero =>
    intro i ys nx e hj
    exact LCg.CompRest.zero (fin ys nx (e ▸ hj))
  | succ k ih =>
    intro i ys nx e hj
    refine LCg.CompRest.succ fun v I oI C oC D m₂ h tk E' hP hC hx F N off ne => turn i v I oI C oC D m₂ h tk E' ys nx (by lia) hP hj hC hx F N (off_of3 off) _ fun y s₂ h => ?_
    obtain ⟨h', tk', all, nx', rfl, F', N', hs, ho, hS, hj'⟩ := h
    exact LCg.CompEnd.intro F' N' nx' hs (off3_of ho) hS (ih (i + 1) _ nx' (by lia) hj')
end
end

section

/-- the hand of the law: its list, and the script's list, and where it stands -/
def HandL (hl : Led) (H : Addr) (k : Int) : Prop := ∃ (S : Addr) (vs : List Value) (t : Tok) (n0 n1 : Nat), hl = [(H, listOf #[.ref S, .int k t] n0), (S, listOf vs.toArray n1)] ∧ H ≠ S ∧ (∀ v ∈ vs, ∃ z u, v = .int z u) ∧ vs.length ≤ 63

theorem next_hand {w : World} {p : Program} {loose : List Str} {mean : ExcName → Option Value} {mg mb : Str → Option Value}
   {dp un : Nat} {gd : Option (List Code)} {cn : Str} {cs : Scope} {a : Addr} {ccd : Value} {cl : List (Str × Addr)} {outer : List Env} {A₀ : Around} {base h₀ : Heap} {L : Addr} {m : Str → Option Value} {s : Shared} {Q E : Value → Shared → Prop}
   {hl rest news : Led} {H : Addr} {k many : Int} {t1 : Tok}
   (B : Below A₀ base outer h₀) (F : Fr h₀ L s.heap m) (X : (hd.heap_39 w.params).In h₀) (N : News h₀ L s.heap news) (T : Top p loose mean mg mb h₀) (hk : cs.kind = .function)
   (C : HandL hl H k) (ho : Off hl rest) (hsub : ∀ z ∈ hl ++ rest, z ∈ news) (hk0 : 0 ≤ k) (hk1 : k < 1000) (hm0 : 1 ≤ many) (hm1 : many < 100)
   (hd : dp + 1 < recursionLimit) (hu : un + 8 < cLine)
   (hret : ∀ h' tk' hl' z t2, Fr h₀ L h' m → News h₀ L h' (hl' ++ rest) → HandL hl' H (k + 1) → Off hl' rest → 0 ≤ z → z < many → Q (.int z t2) { s with heap := h', toks := tk' }) :
   wpAny (model PySem.Challenge.rw_be0026_01.row.prog w) (ktrTop dp un gd cn cs L a ccd cl outer) (call (.ref 72) [.ref H, .int many t1]) Q E s := by
  obtain ⟨S, vs, t, n0, n1, rfl, hne, hvs, hlen⟩ := C
  have N' : News h₀ L s.heap ((H, listOf #[.ref S, .int k t] n0) :: (S, listOf vs.toArray n1) :: rest) := fun z hz => N z (hsub z hz)
  have hoH : Off [(H, listOf #[.ref S, .int k t] n0)] ((S, listOf vs.toArray n1) :: rest) := by
    refine Off.cons (fun p hp => ?_) (ho.subL fun p hp => ?_)
    · rw [List.mem_singleton.mp hp]; exact hne
    · rw [List.mem_singleton.mp hp]; exact .head _
  refine next_spec B F X N' T hk hoH hvs hlen hk0 hk1 hm0 hm1 hd hu fun h' tk' z t' t2 F1 N1 h0 h1 => ?_
  exact hret h' tk' [(H, listOf #[.ref S, .int (k + 1) t'] n0), (S, listOf vs.toArray n1)] z t2 F1 N1 ⟨S, vs, t', n0, n1, rfl, hne, hvs, hlen⟩ (ho.congr rfl) h0 h1

theorem ints_mem {vs : List Value} {ns : List Int} (h : IntsAre vs ns) : ∀ v ∈ vs, ∃ z u, v = .int z u := by
  induction h with
  | nil => exact fun v hv => nomatch hv
  | cons n t _ ih =>
    intro v hv
    rcases List.mem_cons.mp hv with rfl | hv
    · exact ⟨_, _, rfl⟩
    · exact ih v hv
theorem ints_short {vs : List Value} {ns ms : List Int} (h : IntsAre vs ns) (h2 : ns.length = min 20 ms.length) : vs.length ≤ 63 := by
  have := IntsAre.length h
  lia
theorem hand_first {H S : Addr} {t : Tok} {vs : List Value} {ns ms : List Int} (h : IntsAre vs ns) (h2 : ns.length = min 20 ms.length) (hne : S < H) : HandL [(H, listOf #[.ref S, .int 0 t] 0), (S, listOf vs.toArray 0)] H 0 :=
  ⟨S, vs, t, 0, 0, rfl, (fun e => Nat.lt_irrefl _ (e ▸ hne)), ints_mem h, ints_short h h2⟩

/-- texts, none of them longer than B -/
def Texts (ys : List Value) (B : Nat) : Prop := ∀ v ∈ ys, ∃ x t, v = .str x t ∧ x.length ≤ B
theorem Texts.nil {B : Nat} : Texts [] B := fun _ h => nomatch h
theorem Texts.snoc {ys : List Value} {B : Nat} {x : Str} {t : Tok} (h : Texts ys B) (hx : x.length ≤ B) : Texts (ys ++ [.str x t]) B := fun v hv => by
  rcases List.mem_append.mp hv with hv | hv
  · exact h v hv
  · rw [List.mem_singleton.mp hv]; exact ⟨_, _, rfl, hx⟩
theorem texts_values : ∀ {ys : List Value} {B : Nat}, Texts ys B → ∃ l : List (Str × Tok), ys = strValues l ∧ ∀ y ∈ l.map (·.1), y.length ≤ B
  | [], _, _ => ⟨[], rfl, fun _ h => nomatch h⟩
  | v :: r, B, h => by
    obtain ⟨x, t, rfl, hx⟩ := h v (.head _)
    obtain ⟨l, hl, hB⟩ := texts_values (fun u hu => h u (List.mem_cons_of_mem _ hu))
    refine ⟨(x, t) :: l, by rw [hl]; rfl, fun y hy => ?_⟩
    rcases List.mem_cons.mp hy with rfl | hy
    · exact hx
    · exact hB y hy
theorem join_le {texts : List Str} {B : Nat} (h : ∀ y ∈ texts, y.length ≤ B) : (Txt.join (Str.ofString "") texts).length ≤ texts.length * B := by
  show (Builtin.Str.glued (Str.ofString "") texts).length ≤ _
  rw [StrLaws.glued_eq_join]
  cases texts with
  | nil => exact Nat.le_of_eq (by simp; rfl)
  | cons a r =>
    have z : (Str.ofString "").length = 0 := by decide
    have := StrLaws.sumLen_le (a :: r) h
    rw [len_join_cons, z]
    lia
section
variable {prog : Program} {w : World} {A : Around} {E : Value → Shared → Prop} {s : Shared} {h₀ : Heap} {L D : Addr} {m : Str → Option Value} {news : Led} {t : Tok} {ys : List Value}
theorem join_texts {Q : Value → Shared → Prop} {n : Nat} (N : News h₀ L s.heap news) (hm : (D, LCg.lst ys) ∈ news) (ht : Texts ys 1) (hn : ys.length ≤ n) (hs : n ≤ 100)
    (h : ∀ x t k, x.length ≤ n → Q (.str x t) { s with toks := k }) : wpAny (model prog w) A (call (.builtin "str.join") [.str (Str.ofString "") t, .ref D]) Q E s := by
  obtain ⟨l, rfl, hB⟩ := texts_values ht
  have hlen : (l.map (·.1)).length ≤ n := by
    have : (strValues l).length = l.length := List.length_map ..
    rw [List.length_map]; lia
  refine SC.join (texts := l.map (·.1)) (isList_of (N _ hm).1) rfl ?_ fun t' k => h _ _ _ ?_
  · unfold JoinOk
    rw [Bool.not_eq_true']
    refine StrLaws.joinFits (B := 1) hB ?_
    have z : (Str.ofString "").length = 0 := by decide
    rw [z]
    lia
  · have := join_le hB
    lia
end
theorem name_tail {h₀ h : Heap} {L : Addr} {hl R : Led} (N : News h₀ L h (hl ++ R)) (o : Off hl R) : ∃ R', R' = R ∧ News h₀ L h (hl ++ R') ∧ Off hl R' := ⟨R, rfl, N, o⟩
theorem two_ints {i : Nat} {v : Value} {a b c : Int} {t u : Tok} (h : (#[Value.int a t, Value.int b u] : Array Value)[i]? = some v) (ha : 0 ≤ a ∧ a < c) (hb : 0 ≤ b ∧ b < c) : ∃ z k, v = .int z k ∧ 0 ≤ z ∧ z < c := by
  match i, h with
  | 0, h => exact ⟨a, t, by simpa using h.symm, ha⟩
  | 1, h => exact ⟨b, u, by simpa using h.symm, hb⟩
  | i + 2, h => simp at h
theorem comp_range {prog : Program} {w : World} {A : Around} {h₀ : Heap} {L : Addr} {m : Str → Option Value} {env : Env} {elt : Expr} {x : Str} {scope : Scope} {cl : List (Str × Addr)} {Fin : Shared → List Value → Led → Prop} {r : Addr} {a b : Int} {t u v : Tok} {n : Nat} {news : Led} {s₁ : Shared}
    (hh : A.handled = none) (F : Fr h₀ L s₁.heap m) (N : News h₀ L s₁.heap news) (hr : IsRange s₁.heap r a b 1 t u v) (ha : -1000 < a ∧ a < 1000) (hb : -1000 < b ∧ b < 1000) (hn : (b - a).toNat = n)
    (h : ∀ g, LCg.CompRest prog w A h₀ L m env elt x scope cl { s₁ with heap := g } (fun _ => True) (fun i v => ∃ t, v = .int (a + (i : Int)) t) (Fin { s₁ with heap := g }) n 0 [] news) :
    LCg.CompSrc prog w A h₀ L m env elt x scope cl Fin (.ref r) s₁ := by
  have h2 : n ≤ 2000 := by lia
  exact LCg.CompSrc.range hh F N hr (range_of ha hb hn).2 (range_of ha hb hn).1 (Nat.le_trans h2 (by decide)) h
theorem off_mid {hl R own : Led} (h1 : Off own (hl ++ R)) (h2 : Off hl R) : Off hl (own ++ R) := Off.app (h1.sub fun p hp => List.mem_append_left _ hp).symm h2
theorem off_back {hl R own : Led} (h1 : Off own R) (h2 : Off hl (own ++ R)) : Off own (hl ++ R) := Off.app (h2.sub fun p hp => List.mem_append_left _ hp).symm h1
theorem tail_two {x a b c y : Addr × Obj} {R r : Led} (h : R = x :: a :: b :: c :: y :: r) : x ∈ R ∧ y ∈ R := by
  rw [h]
  exact ⟨.head _, .tail _ (.tail _ (.tail _ (.tail _ (.head _))))⟩
theorem two_texts {ys : List Value} {B : Nat} (h : Texts ys B) (hl : ys.length = 2) : ∃ x tx y ty, ys = [.str x tx, .str y ty] ∧ x.length ≤ B ∧ y.length ≤ B := by
  obtain ⟨a, r, rfl⟩ := List.exists_cons_of_length_eq_add_one hl
  obtain ⟨b, r, rfl⟩ := List.exists_cons_of_length_eq_add_one (Nat.succ.inj hl)
  obtain rfl := List.eq_nil_of_length_eq_zero (Nat.succ.inj (Nat.succ.inj hl))
  obtain ⟨x, tx, rfl, hx⟩ := h a (.head _)
  obtain ⟨y, ty, rfl, hy⟩ := h b (.tail _ (.head _))
  exact ⟨x, tx, y, ty, rfl, hx, hy⟩
theorem news_tail2 {h₀ h : Heap} {L : Addr} {a b : Addr × Obj} {l : Led} (N : News h₀ L h (a :: b :: l)) : News h₀ L h l := fun p hp => N p (.tail _ (.tail _ hp))
theorem has_frame {h₀ h : Heap} {L : Addr} {m : Str → Option Value} {l : List (Str × Value)} (F : Fr h₀ L h m) (hM : Has m l) : ∃ m', Has m' l ∧ Fr h₀ L h m' := ⟨m, hM, F⟩
theorem mv_front {a b c : Led} : ∀ z ∈ a ++ (b ++ c), z ∈ b ++ (a ++ c) := fun z hz => by
  rcases List.mem_append.mp hz with h | h
  · exact List.mem_append_right _ (List.mem_append_left _ h)
  · rcases List.mem_append.mp h with h | h
    · exact List.mem_append_left _ h
    · exact List.mem_append_right _ (List.mem_append_right _ h)
theorem off_cons {l r : Led} {D : Addr} {o : Obj} (hb : AllLt D l) (h : Off l r) : Off l ((D, o) :: r) := Off.cons (fun p hp => Nat.ne_of_lt (kst_ltOf hb p hp)) h
theorem off_two {a b : Addr} {o o2 : Obj} {l : Led} (h1 : AllLt a l) (h2 : AllLt b l) : Off [(a, o), (b, o2)] l := fun p hp => by
  rcases List.mem_cons.mp hp with rfl | hp
  · exact Off.below (o := o) h1 _ (.head _)
  · exact Off.below (o := o2) h2 _ hp
theorem first_ledger {h₀ h : Heap} {L H S : Addr} {t : Tok} {vs : List Value} {ns ms : List Int} {rest : Led} (N : News h₀ L h ((H, listOf #[.ref S, .int 0 t] 0) :: (S, listOf vs.toArray 0) :: rest)) (h1 : IntsAre vs ns) (h2 : ns.length = min 20 ms.length)
    (hH : AllLt H ((S, listOf vs.toArray 0) :: rest)) (hS : AllLt S rest) : ∃ hl, News h₀ L h (hl ++ rest) ∧ HandL hl H 0 ∧ Off hl rest :=
  ⟨[(H, listOf #[.ref S, .int 0 t] 0), (S, listOf vs.toArray 0)], N, hand_first h1 h2 hH.1, off_two hH.2 hS⟩
end

section

/-- a cell, alone in its ledger -/
def CellAt (cc : Led) (c : Addr) (v : Option Value) : Prop := ∃ o, cc = [(c, o)] ∧ o.data = .cell v
theorem CellAt.mem {cc : Led} {c : Addr} {v : Option Value} (h : CellAt cc c v) : ∃ o, (c, o) ∈ cc ∧ o.data = .cell v := by
  obtain ⟨o, rfl, hd⟩ := h
  exact ⟨o, .head _, hd⟩
theorem CellAt.fst {cc cc' : Led} {c : Addr} {v v' : Option Value} (h : CellAt cc c v) (h' : CellAt cc' c v') : cc'.map (·.1) = cc.map (·.1) := by
  obtain ⟨o, rfl, _⟩ := h
  obtain ⟨o', rfl, _⟩ := h'
  rfl

section
variable {M : Model} {A : Around} {E : Value → Shared → Prop} {s : Shared} {h₀ : Heap} {L a C c : Addr} {m : Str → Option Value} {cn : Str} {cs scope : Scope} {ccd : Value} {cl : List (Str × Addr)} {env : Env}
  {x : Str} {pos : Pos} {v : Value} {news rest cc : Led} {v₀ : Option Value}
theorem cell_put {Q : Unit → Shared → Prop} (F : Fr h₀ L s.heap m) (N : News h₀ L s.heap news) (K : CellAt cc c v₀) (ho : Off cc rest) (hsub : ∀ z ∈ cc ++ rest, z ∈ news) (hc : cl.lookup x = some c)
    (h : ∀ h' cc', Fr h₀ L h' m → News h₀ L h' (cc' ++ rest) → CellAt cc' c (some v) → Off cc' rest → Q () { s with heap := h' })
    (hk : cs.kind = .function) (hx : (envX cn cs L a ccd cl).kindOf x = some .cell) : wpAny M A (storeName (envX cn cs L a ccd cl) x v) Q E s := by
  obtain ⟨o, rfl, hd⟩ := K
  have N' : News h₀ L s.heap ((c, o) :: rest) := fun z hz => N z (hsub z hz)
  refine storeX_C F N' hc (.head fun p hp => (ho _ (.head _) p hp).symm) hd (fun h' o' F' N' hd' => h h' [(c, o')] F' N' ⟨o', rfl, hd'⟩ (ho.congr rfl)) hk hx
theorem cell_get {Q : Value → Shared → Prop} (N : News h₀ L s.heap news) (K : CellAt cc c (some v)) (hsub : ∀ z ∈ cc, z ∈ news) (hc : cl.lookup x = some c) (h : Q v s)
    (hk : cs.kind = .function) (hx : (envX cn cs L a ccd cl).kindOf x = some .cell) (hb : (x == ("__debug__" : Str)) = false) : wpAny M A (eval (.Name x pos) (envX cn cs L a ccd cl)) Q E s := by
  obtain ⟨o, hm, hd⟩ := K.mem
  exact nameX_C N hc (hsub _ hm) hd h hk hx hb
theorem cell_free {Q : Value → Shared → Prop} (N : News h₀ L s.heap news) (K : CellAt cc c (some v)) (hsub : ∀ z ∈ cc, z ∈ news) (hc : cl.lookup x = some c) (h : Q v s)
    (hk : (compEnvC scope cl C env).scope.kind = .function) (hx : (compEnvC scope cl C env).kindOf x = some .free) (hb : (x == ("__debug__" : Str)) = false) (hn : (x == ("__classdict__" : Str)) = false) :
    wpAny M A (eval (.Name x pos) (compEnvC scope cl C env)) Q E s := by
  obtain ⟨o, hm, hd⟩ := K.mem
  exact lcf_free N hc (hsub _ hm) hd h hk hx hb hn
theorem cell_comp {Q : Value → Shared → Prop} (N : News h₀ L s.heap news) (K : CellAt cc c (some v)) (hsub : ∀ z ∈ cc, z ∈ news) (hc : cl.lookup x = some c) (h : Q v s)
    (hk : (compEnvC scope cl C env).scope.kind = .function) (hx : (compEnvC scope cl C env).kindOf x = some .cell) (hb : (x == ("__debug__" : Str)) = false) :
    wpAny M A (eval (.Name x pos) (compEnvC scope cl C env)) Q E s := by
  obtain ⟨o, hm, hd⟩ := K.mem
  exact lcf_cell N hc (hsub _ hm) hd h hk hx hb
end

theorem others_pack {h₀ h : Heap} {L l a b : Addr} {i j i2 j2 : Int} {t u t2 u2 : Tok} {n n1 n2 : Nat} {rest : Led} (N : News h₀ L h ((l, listOf #[.ref a, .ref b] n) :: (b, tupObj [.int i2 t2, .int j2 u2] n2) :: (a, tupObj [.int i t, .int j u] n1) :: rest)) (hb : b < l) (ha : a < l) :
    ∃ ol, TL ol l [(i, j), (i2, j2)] ∧ News h₀ L h (ol ++ rest) := ⟨_, tl_two (Nat.ne_of_lt ha) (Nat.ne_of_lt hb), N⟩
theorem two_pairs {k : Nat} {a b : Int} {p q : Int × Int} (h : [p, q][k]? = some (a, b)) : (a, b) = p ∨ (a, b) = q := by
  match k, h with
  | 0, h => exact .inl (by simpa using h.symm)
  | 1, h => exact .inr (by simpa using h.symm)
  | k + 2, h => simp at h
theorem addr_far {S : Nat} {a b : Nat} (h : a ≠ b) : (S + a : Nat) ≠ S + b := by lia
theorem cells_split {h₀ h : Heap} {L S : Addr} {o4 o3 o2 o1 o52 : Obj} {v4 v3 v2 : Option Value} (N : News h₀ L h [(S + 1 + 1 + 1 + 1, o4), (S + 1 + 1 + 1, o3), (S + 1 + 1, o2), (S + 1, o1), (52, o52)]) (h0 : 52 < S)
    (d4 : o4.data = .cell v4) (d3 : o3.data = .cell v3) (d2 : o2.data = .cell v2) :
    ∃ cf ce ci lm, News h₀ L h (cf ++ (ce ++ (ci ++ lm))) ∧ CellAt cf (S + 1 + 1) v2 ∧ CellAt ce (S + 1 + 1 + 1) v3 ∧ CellAt ci (S + 1 + 1 + 1 + 1) v4 ∧ lm = [(52, o52)] ∧
      Off cf (ce ++ (ci ++ lm)) ∧ Off ce (ci ++ lm) ∧ Off ci lm := by
  have g : ∀ a b : Nat, a ≠ b → ∀ T : Nat, T + a ≠ T + b := fun a b h T => by lia
  have k : ∀ a : Nat, ∀ T : Nat, 52 < T → T + a ≠ 52 := fun a T h => by lia
  refine ⟨[(S + 1 + 1, o2)], [(S + 1 + 1 + 1, o3)], [(S + 1 + 1 + 1 + 1, o4)], [(52, o52)], ?_, ⟨_, rfl, d2⟩, ⟨_, rfl, d3⟩, ⟨_, rfl, d4⟩, rfl, ?_, ?_, ?_⟩
  · intro p hp
    rcases List.mem_cons.mp hp with rfl | hp
    · exact N _ (.tail _ (.tail _ (.head _)))
    · rcases List.mem_cons.mp hp with rfl | hp
      · exact N _ (.tail _ (.head _))
      · rcases List.mem_cons.mp hp with rfl | hp
        · exact N _ (.head _)
        · rw [List.mem_singleton.mp hp]; exact N _ (.tail _ (.tail _ (.tail _ (.tail _ (.head _)))))
  · intro p hp q hq
    rw [List.mem_singleton.mp hp]
    rcases List.mem_cons.mp hq with rfl | hq
    · exact g 2 3 (by decide) S
    · rcases List.mem_cons.mp hq with rfl | hq
      · exact g 2 4 (by decide) S
      · rw [List.mem_singleton.mp hq]; exact k 2 S h0
  · intro p hp q hq
    rw [List.mem_singleton.mp hp]
    rcases List.mem_cons.mp hq with rfl | hq
    · exact g 3 4 (by decide) S
    · rw [List.mem_singleton.mp hq]; exact k 3 S h0
  · intro p hp q hq
    rw [List.mem_singleton.mp hp, List.mem_singleton.mp hq]
    exact k 4 S h0

section
variable {prog : Program} {w : World} {A : Around} {E : Value → Shared → Prop} {s : Shared} {env : Env} {h₀ : Heap} {body : List Stmt} {Q : Flow → Shared → Prop} {m₀ : Str → Option Value} {news : Led} {x : Str} {pos : Pos}
/-- a for over a range whose name is put by assign: for a name in a cell -/
theorem range_loopT {r : Addr} {a b : Int} {t u v : Tok} {n : Nat} (J : Nat → (Str → Option Value) → Led → Prop)
    (hh : A.handled = none) (hr : IsRange s.heap r a b 1 t u v) (ha : -1000 < a ∧ a < 1000) (hb : -1000 < b ∧ b < 1000) (hn : (b - a).toNat = n) (F : Fr h₀ env.locals s.heap m₀) (N : News h₀ env.locals s.heap news) (hj : J 0 m₀ news)
    (turn : ∀ (i : Nat) t m₁ nx h tk own, i < n → Off own nx → J i m₁ nx → Fr h₀ env.locals h m₁ → News h₀ env.locals h (nx ++ own) →
      ∀ TP : Flow → Shared → Prop, (∀ s₂, TurnEnd h₀ env.locals (J (i + 1)) own { s with heap := h, toks := tk } s₂ → TP .next s₂) →
      wpAny (model prog w) A (assign (.Name x pos) env (.int (a + i) t)) (fun _ s₂ => wpAny (model prog w) A (execs body env) TP E s₂) E { s with heap := h, toks := tk })
    (done : ∀ m₁ nx h tk, J n m₁ nx → Fr h₀ env.locals h m₁ → News h₀ env.locals h nx → Q .next { s with heap := h, toks := tk }) :
    wpAny (model prog w) A (pyIter (.ref r)) (fun it s₂ => TurnsAt prog w A h₀ env (.Name x pos) body Q E it s₂) E s := by
  have hsz := (range_of ha hb hn).1
  have hsmall := (range_of ha hb hn).2
  refine wpAny_pyIter_range hr hsmall ?_
  have W : Walks prog w A s.heap.objs.size [s.heap.objs.size] [s.heap.objs.size] n (fun i v => i < n ∧ ∃ t, v = .int (a + i * 1) t)
      (fun i h => IsRangeIter h s.heap.objs.size (a + (i : Nat) * 1) ((n : Int) - (i : Nat)) 1) := (Walks.range hh _ a 1 n).bound
  have W2 := KTurns.ofWalks (target := .Name x pos) W fun i v s Q E st hQ => wpAny_pure hQ
  refine ⟨_, _, _, n, _, _, _, m₀, news, J, rfl, W2, ?_, ?_, ?_, (by show IsRangeIter _ _ _ _ _; rw [hsz]; simpa using Heap.get?_push_size _ rfl), F.push _, (fun p hp => ⟨Heap.get?_push_of_some _ (N p hp).1, (N p hp).2⟩), hj, ?_, ?_⟩
  · intro hm
    exact absurd F.ns.lt ((List.mem_singleton.mp hm) ▸ Nat.lt_irrefl _)
  · intro b hb
    rw [List.mem_singleton.mp hb]
    exact next_is_new F
  · intro p hp hI
    exact absurd (Heap.lt_size (N p hp).1) ((List.mem_singleton.mp hI) ▸ Nat.lt_irrefl _)
  · intro i v m₁ nx h tk own hin hP hJ hoff hown hget hfp hst F₁ N₁
    obtain ⟨_, t, rfl⟩ := hP
    rw [Int.mul_one]
    have hI0 : h₀.get? s.heap.objs.size = none := next_is_new F
    have hst' : h.get? s.heap.objs.size = some _ := hst
    generalize hoI : ({ cls := _, data := _ } : Obj) = oI at hst'
    have hIown : (s.heap.objs.size, oI) ∈ own := hfp _ (List.mem_singleton.mpr rfl) hI0 _ hst'
    have hsep : Off [(s.heap.objs.size, oI)] nx := fun p hp q hq e => by
      rw [List.mem_singleton.mp hp] at e
      exact hoff q hq (List.mem_singleton.mpr e.symm)
    have N₂ : News h₀ env.locals h (nx ++ [(s.heap.objs.size, oI)]) := fun p hp => by
      rcases List.mem_append.mp hp with hp | hp
      · exact N₁ _ (List.mem_append_right _ hp)
      · rw [List.mem_singleton.mp hp]; exact N₁ _ (List.mem_append_left _ hIown)
    refine wpAny_mono (turn i t m₁ nx h tk _ hin hsep hJ F₁ N₂ _ (fun _ h => h)) (fun _ s₂ h₂ => wpAny_mono h₂ (fun f s₃ p => post_fin (fun p h3 => ?_) p) fun _ _ e => e) fun _ _ e => e
    have hI := List.mem_singleton.mp (hown p h3)
    have h4 : h.get? p.1 = some p.2 := hget p h3
    rw [hI, hst'] at h4
    exact .inl (Prod.ext hI (Option.some.inj h4).symm)
  · exact fun h' tk m' news' F' N' _ hJ => done m' news' h' tk hJ F' N'
end
end

section

/-! the distance of the ends, and what the law says of it -/
noncomputable def endG (x y : Str) (c : Int) (i j : Int) : Int := dist (shf (eqAt x y) i.toNat j.toNat) c (x.length - i.toNat) (y.length - j.toNat)

theorem slice_form {x : Str} {i : Int} (h0 : 0 ≤ i) (h2 : i ≤ x.length) : Txt.slice x (some i) none = ⟨(x.cps.toList.drop i.toNat).toArray⟩ := by
  have e : x.length = x.cps.toList.length := rfl
  rw [slice_from_eq h0 h2 rfl]
  congr 2
  apply List.take_of_length_le
  rw [List.length_drop]
  lia
theorem slice_len {x : Str} {i : Int} (h0 : 0 ≤ i) (h2 : i ≤ x.length) : (Txt.slice x (some i) none).length = x.length - i.toNat := by
  rw [slice_form h0 h2]
  show ((x.cps.toList.drop i.toNat).toArray).size = x.cps.size - i.toNat
  simp
theorem item_at {x : Str} {k : Nat} (h : k < x.length) : Txt.item x (k : Int) = ⟨#[x.cps.toList[k]'h]⟩ := by
  unfold Txt.item Txt.charAt
  have e : PySem.seqIndex? (k : Int) x.length = some k := by
    unfold PySem.seqIndex?
    simp
    lia
  rw [e]
  have h' : k < x.cps.size := h
  simp only [Option.bind_some, Array.getElem?_eq_getElem h', Option.getD_some]
  rfl
theorem slice_item {x : Str} {i : Int} {k : Nat} (h0 : 0 ≤ i) (h2 : i ≤ x.length) (hk : k < x.length - i.toNat) : Txt.item (Txt.slice x (some i) none) (k : Int) = Txt.item x ((i.toNat + k : Nat) : Int) := by
  have hl := slice_len h0 h2
  rw [item_at (by rw [hl]; exact hk), item_at (by lia)]
  congr 2
  have e : (Txt.slice x (some i) none).cps.toList = x.cps.toList.drop i.toNat := by rw [slice_form h0 h2]
  simp only [e, List.getElem_drop]
  rfl
theorem end_dist {x y : Str} {c i j : Int} (hi0 : 0 ≤ i) (hi : i ≤ x.length) (hj0 : 0 ≤ j) (hj : j ≤ y.length) :
    dI (Txt.slice x (some i) none) (Txt.slice y (some j) none) c ((Txt.slice x (some i) none).length : Int) ((Txt.slice y (some j) none).length : Int) = endG x y c i j := by
  unfold dI endG
  rw [Int.toNat_natCast, Int.toNat_natCast, slice_len hi0 hi, slice_len hj0 hj]
  refine dist_congr _ _ fun a b ha hb => ?_
  unfold shf eqAt
  rw [slice_item hi0 hi ha, slice_item hj0 hj hb]

section
variable {x y : Str} {c i j : Int}
theorem end_first : endG x y c 0 0 = dI x y c x.length y.length := by
  unfold endG dI
  have e : shf (eqAt x y) (Int.toNat 0) (Int.toNat 0) = eqAt x y := by
    funext a b
    show eqAt x y (0 + a) (0 + b) = _
    rw [Nat.zero_add, Nat.zero_add]
  rw [e]
  rfl
theorem end_over (hi0 : 0 ≤ i) (hi : i ≤ x.length) (hj0 : 0 ≤ j) (hj : j ≤ y.length) : dI x y c x.length y.length ≤ dI x y c i j + endG x y c i j := by
  have h := dist_over (eq := eqAt x y) (c := c) i.toNat j.toNat (x.length - i.toNat) (y.length - j.toNat)
  rw [Nat.add_sub_cancel' (by lia), Nat.add_sub_cancel' (by lia)] at h
  exact h
theorem end_via (hi0 : 0 ≤ i) (hi : i ≤ x.length) : ∃ j : Int, 0 ≤ j ∧ j ≤ y.length ∧ dI x y c i j + endG x y c i j = dI x y c x.length y.length := by
  obtain ⟨j, hj, h⟩ := dist_via (eq := eqAt x y) (c := c) i.toNat x.length y.length (by lia)
  refine ⟨j, by lia, by lia, ?_⟩
  have h2 := end_over (c := c) hi0 hi (j := (j : Int)) (by lia) (by lia : (j : Int) ≤ y.length)
  have h3 : dI x y c i j + endG x y c i j ≤ dI x y c x.length y.length := h
  lia
theorem shf_shf {eq : Nat → Nat → Bool} (a b a2 b2 : Nat) : shf (shf eq a b) a2 b2 = shf eq (a + a2) (b + b2) := by
  funext p q
  show eq (a + (a2 + p)) (b + (b2 + q)) = eq (a + a2 + p) (b + b2 + q)
  rw [Nat.add_assoc, Nat.add_assoc]
theorem succ_toNat (h : 0 ≤ i) : (i + 1).toNat = i.toNat + 1 := by lia
theorem sub_succ {n : Nat} (h : 0 ≤ i) (h2 : i + 1 ≤ n) : n - i.toNat = n - (i.toNat + 1) + 1 := by lia
theorem end_up (hi0 : 0 ≤ i) (hi : i + 1 ≤ x.length) : endG x y c i j ≤ endG x y c (i + 1) j + 1 := by
  unfold endG
  rw [succ_toNat hi0, sub_succ hi0 hi]
  have h := dist_shf_up (eq := shf (eqAt x y) i.toNat j.toNat) (c := c) (x.length - (i.toNat + 1)) (y.length - j.toNat)
  rw [shf_shf] at h
  exact h
theorem end_left (hj0 : 0 ≤ j) (hj : j + 1 ≤ y.length) : endG x y c i j ≤ endG x y c i (j + 1) + 1 := by
  unfold endG
  rw [succ_toNat hj0, sub_succ hj0 hj]
  have h := dist_shf_left (eq := shf (eqAt x y) i.toNat j.toNat) (c := c) (x.length - i.toNat) (y.length - (j.toNat + 1))
  rw [shf_shf] at h
  exact h
theorem within {p q : Int} (h1 : p ≤ q + 1) (h2 : q ≤ p + 1) : p - q ≤ 1 ∧ -1 ≤ p - q := by lia
theorem end_row (hc : 0 ≤ c) (hi0 : 0 ≤ i) (hi : i + 1 ≤ x.length) : endG x y c i j - endG x y c (i + 1) j ≤ 1 ∧ -1 ≤ endG x y c i j - endG x y c (i + 1) j := by
  refine within (end_up hi0 hi) ?_
  unfold endG
  rw [succ_toNat hi0, sub_succ hi0 hi]
  have h := dist_drop_row (eq := shf (eqAt x y) i.toNat j.toNat) hc (x.length - (i.toNat + 1)) (y.length - j.toNat)
  rw [shf_shf] at h
  exact h
theorem end_col (hc : 0 ≤ c) (hj0 : 0 ≤ j) (hj : j + 1 ≤ y.length) : endG x y c i j - endG x y c i (j + 1) ≤ 1 ∧ -1 ≤ endG x y c i j - endG x y c i (j + 1) := by
  refine within (end_left hj0 hj) ?_
  unfold endG
  rw [succ_toNat hj0, sub_succ hj0 hj]
  have h := dist_drop_col (eq := shf (eqAt x y) i.toNat j.toNat) hc (x.length - i.toNat) (y.length - (j.toNat + 1))
  rw [shf_shf] at h
  exact h
theorem end_diag (hi0 : 0 ≤ i) (hi : i + 1 ≤ x.length) (hj0 : 0 ≤ j) (hj : j + 1 ≤ y.length) : endG x y c i j ≤ endG x y c (i + 1) (j + 1) + (if Txt.item x i = Txt.item y j then 0 else c) := by
  have e : shf (eqAt x y) i.toNat j.toNat 0 0 = decide (Txt.item x i = Txt.item y j) := eqAt_at hi0 hj0
  unfold endG
  rw [succ_toNat hi0, sub_succ hi0 hi, succ_toNat hj0, sub_succ hj0 hj]
  have h := dist_shf_diag (eq := shf (eqAt x y) i.toNat j.toNat) (c := c) (x.length - (i.toNat + 1)) (y.length - (j.toNat + 1))
  rw [shf_shf, e] at h
  simp only [decide_eq_true_eq] at h
  exact h
theorem end_last : endG x y c x.length y.length = 0 := by
  unfold endG
  rw [Int.toNat_natCast, Int.toNat_natCast, Nat.sub_self, Nat.sub_self, dist_zero]
  rfl

theorem path_eq {W A B P Q t : Int} (q5 : W - B = Q) (hs : B = A + t) (g1 : P ≤ Q + t) (g2 : W ≤ A + P) : W - A = P := by lia
theorem le_of_succ {p n : Int} (h : p + 1 ≤ n) : p ≤ n := by lia
/-- at each point of a cheapest way: within the words; what is ahead of it is the distance of the ends -/
theorem path_at {ps : List (Int × Int)} (P : PathOk x y c ps) (d : Nat) : ∀ (k : Nat), k + d + 1 = ps.length → ∀ p, ps[k]? = some p →
    p.1 ≤ x.length ∧ p.2 ≤ y.length ∧ 0 ≤ p.1 ∧ 0 ≤ p.2 ∧ dI x y c x.length y.length - dI x y c p.1 p.2 = endG x y c p.1 p.2 := by
  induction d with
  | zero =>
    intro k hk p hp
    have hl := P.last
    rw [← hk, Nat.add_sub_cancel, Nat.add_zero, hp] at hl
    cases hl
    exact ⟨Int.le_refl _, Int.le_refl _, Int.natCast_nonneg _, Int.natCast_nonneg _, (Int.sub_self _).trans end_last.symm⟩
  | succ d ih =>
    intro k hk p hp
    have hk2 : k + 1 < ps.length := by lia
    obtain ⟨q1, q2, q3, q4, q5⟩ := ih (k + 1) (by lia) _ (List.getElem?_eq_getElem hk2)
    obtain ⟨h1, h2, hs⟩ := P.steps k _ _ hp (List.getElem?_eq_getElem hk2)
    revert q1 q2 q3 q4 q5 hs
    generalize ps[k + 1] = q
    obtain ⟨p1, p2⟩ := p
    obtain ⟨r1, r2⟩ := q
    intro q1 q2 q3 q4 q5 hs
    dsimp only at *
    rcases hs with ⟨rfl, rfl, hs⟩ | ⟨rfl, rfl, hs⟩ | ⟨rfl, rfl, hs⟩
    · exact ⟨le_of_succ q1, le_of_succ q2, h1, h2, path_eq q5 hs (end_diag h1 q1 h2 q2) (end_over h1 (le_of_succ q1) h2 (le_of_succ q2))⟩
    · exact ⟨le_of_succ q1, q2, h1, h2, path_eq q5 hs (end_up h1 q1) (end_over h1 (le_of_succ q1) h2 q2)⟩
    · exact ⟨q1, le_of_succ q2, h1, h2, path_eq q5 hs (end_left h2 q2) (end_over h1 q1 h2 (le_of_succ q2))⟩
end
end

section
theorem bne_neg {a b : Int} {p q : Prop} (h : a = b) (hq : q) : if (a != b) = true then p else q := by rw [if_neg (by simp [h])]; exact hq
theorem bne_pos {a b : Int} {p q : Prop} (h : a ≠ b) (hp : p) : if (a != b) = true then p else q := by rw [if_pos (by simp [h])]; exact hp
theorem beq_neg {a b : Int} {p q : Prop} (h : a ≠ b) (hq : q) : if (a == b) = true then p else q := by rw [if_neg (by simp [h])]; exact hq
theorem beq_pos {a b : Int} {p q : Prop} (h : a = b) (hp : p) : if (a == b) = true then p else q := by rw [if_pos (by simp [h])]; exact hp
theorem ite_tt {p q : Prop} (hp : p) : if true = true then p else q := hp
theorem ite_ff {p q : Prop} (hq : q) : if false = true then p else q := hq
theorem stop_cell {p : Prop} {cc : Led} {c : Addr} {v : Option Value} (h : Stop p) (_h : CellAt cc c v) : p := h.out
theorem sub_app {a b l : Led} (h1 : ∀ z ∈ a, z ∈ l) (h2 : ∀ z ∈ b, z ∈ l) : ∀ z ∈ a ++ b, z ∈ l := fun z hz => (List.mem_append.mp hz).elim (h1 z) (h2 z)
theorem sub_cons_l {b l : Led} {x : Addr × Obj} (h1 : x ∈ l) (h2 : ∀ z ∈ b, z ∈ l) : ∀ z ∈ x :: b, z ∈ l := fun z hz => (List.mem_cons.mp hz).elim (fun e => e ▸ h1) (h2 z)
theorem sub_nil {l : Led} : ∀ z ∈ ([] : Led), z ∈ l := fun _ hz => nomatch hz
section
variable {prog : Program} {w : World} {A : Around} {E : Value → Shared → Prop} {s : Shared} {h₀ : Heap} {L : Addr} {m : Str → Option Value} {news : Led}
theorem dict_new (g : Int → Int → Int) {env : Env} {pos : Pos} {Q : Value → Shared → Prop} (F : Fr h₀ L s.heap m) (N : News h₀ L s.heap news) (hbig : h₀.NoLimit)
    (k : ∀ d h' el, Fr h₀ L h' m → News h₀ L h' (el ++ news) → DictAt prog w el d [] g → Off el news → Q (.ref d) { s with heap := h' }) : wpAny (model prog w) A (eval (.Dict [] [] pos) env) Q E s :=
  newDict_K (w := w) (prog := prog) F N hbig fun d h' o F' N' lt lo _ _ hi _ => k d h' [(d, o)] F' N' (da_empty lo hi) (Off.below (allLt_of lt))
end
/-- the keys up to row i, and in row i up to j -/
def Keys (q : Int) (ks : List (Int × Int)) (i j : Int) : Prop := ∀ a b, (a, b) ∈ ks ↔ (0 ≤ a ∧ a < i ∧ 0 ≤ b ∧ b < q) ∨ (a = i ∧ 0 ≤ b ∧ b < j)
theorem keys_nil {q : Int} : Keys q [] 0 0 := fun a b => ⟨(fun h => nomatch h), fun h => by lia⟩
theorem keys_put {q i j : Int} {ks : List (Int × Int)} (h : Keys q ks i j) (h0 : 0 ≤ j) : Keys q (ks ++ [(i, j)]) i (j + 1) := fun a b => by
  rw [List.mem_append, List.mem_singleton, Prod.mk.injEq, h a b, or_assoc, ← and_or_left]
  exact or_congr_right (and_congr_right fun _ => by lia)
theorem keys_row {q i : Int} {ks : List (Int × Int)} (h : Keys q ks i q) (hi : 0 ≤ i) : Keys q ks (i + 1) 0 := fun a b => (h a b).trans
  ⟨fun h => .inl (h.elim (fun h => ⟨h.1, Int.lt_add_one_of_le (Int.le_of_lt h.2.1), h.2.2⟩) fun h => ⟨h.1 ▸ hi, Int.lt_add_one_of_le (Int.le_of_eq h.1), h.2⟩),
    fun h => h.elim (fun h => (Int.lt_or_eq_of_le (Int.le_of_lt_add_one h.2.1)).elim (fun c => .inl ⟨h.1, c, h.2.2⟩) fun c => .inr ⟨c, h.2.2⟩) fun h => absurd h.2.2 (Int.not_lt.mpr h.2.1)⟩
theorem keys_cast {q i j i' j' : Int} {ks : List (Int × Int)} (h : Keys q ks i j) (e1 : i = i') (e2 : j = j') : Keys q ks i' j' := e1 ▸ e2 ▸ h
theorem keys_notin {q i j : Int} {ks : List (Int × Int)} (h : Keys q ks i j) : (i, j) ∉ ks := fun hm => by
  have := (h i j).mp hm
  lia

/-- what the law asks of the two tables, in plain words -/
structure Facts (Gf Ge : Int → Int → Int) (X Y : Int) : Prop where
  first : Ge 0 0 = Gf X Y
  over : ∀ i j, 0 ≤ i → i ≤ X → 0 ≤ j → j ≤ Y → Gf X Y ≤ Gf i j + Ge i j
  via : ∀ i, 0 ≤ i → i ≤ X → ∃ j, 0 ≤ j ∧ j ≤ Y ∧ Gf i j + Ge i j = Gf X Y
  row : ∀ i j, 0 ≤ i → i + 1 ≤ X → Ge i j - Ge (i + 1) j ≤ 1 ∧ -1 ≤ Ge i j - Ge (i + 1) j
  col : ∀ i j, 0 ≤ j → j + 1 ≤ Y → Ge i j - Ge i (j + 1) ≤ 1 ∧ -1 ≤ Ge i j - Ge i (j + 1)
theorem facts {x y : Str} {c : Int} (hc : 0 ≤ c) : Facts (dI x y c) (endG x y c) x.length y.length where
  first := end_first
  over := fun i j a b d e => end_over a b d e
  via := fun i a b => end_via a b
  row := fun i j a b => end_row hc a b
  col := fun i j a b => end_col hc a b
structure Full (X Y : Int) (ks : List (Int × Int)) : Prop where
  iff : ∀ a b, (a, b) ∈ ks ↔ 0 ≤ a ∧ a ≤ X ∧ 0 ≤ b ∧ b ≤ Y
structure Wide (X Y : Int) (ks : List (Int × Int)) : Prop where
  all : ∀ a b, 0 ≤ a → a ≤ X → 0 ≤ b → b ≤ Y → (a, b) ∈ ks
theorem full_mem {X Y a b : Int} {ks : List (Int × Int)} (h : Full X Y ks) (h1 : 0 ≤ a) (h2 : a ≤ X) (h3 : 0 ≤ b) (h4 : b ≤ Y) : (a, b) ∈ ks := (h.iff a b).mpr ⟨h1, h2, h3, h4⟩
theorem wide_mem {X Y a b : Int} {ks : List (Int × Int)} (h : Wide X Y ks) (h1 : 0 ≤ a) (h2 : a ≤ X) (h3 : 0 ≤ b) (h4 : b ≤ Y) : (a, b) ∈ ks := h.all a b h1 h2 h3 h4
theorem keys_full {X Y i : Int} {ks : List (Int × Int)} (h : Keys (Y + 1) ks i 0) (e : i = X + 1) : Full X Y ks := ⟨fun a b => (h a b).trans (e ▸
  ⟨fun h => h.elim (fun h => ⟨h.1, Int.le_of_lt_add_one h.2.1, h.2.2.1, Int.le_of_lt_add_one h.2.2.2⟩) fun h => absurd h.2.2 (Int.not_lt.mpr h.2.1),
    fun h => .inl ⟨h.1, Int.lt_add_one_of_le h.2.1, h.2.2.1, Int.lt_add_one_of_le h.2.2.2⟩⟩)⟩

theorem row_ints : ∀ (vs : List Value) (q : Nat) (g : Int → Int), RowIs vs q g → ∃ ns, IntsAre vs ns ∧ ns.length = q ∧ (∀ M ∈ ns, ∃ j : Nat, j < q ∧ M = g j) ∧ ∀ j : Nat, j < q → g j ∈ ns
  | [], q, g, h => ⟨[], .nil, h.1, (fun _ h => nomatch h), fun j hj => by have := h.1; simp at this; lia⟩
  | v :: vs, q, g, h => by
    obtain ⟨q, rfl⟩ : ∃ p, q = p + 1 := ⟨vs.length, by have := h.1; simpa using this.symm⟩
    obtain ⟨t, ht⟩ := h.2 0 (Nat.succ_pos _)
    have hv : v = .int (g 0) t := by simpa using ht
    subst hv
    obtain ⟨ns, h1, h2, h3, h4⟩ := row_ints vs q (fun j => g (j + 1)) ⟨by have := h.1; simpa using this, fun j hj => by
      obtain ⟨t, ht⟩ := h.2 (j + 1) (by lia)
      exact ⟨t, by simpa using ht⟩⟩
    refine ⟨g 0 :: ns, .cons _ _ h1, by rw [List.length_cons, h2], fun M hM => ?_, fun j hj => ?_⟩
    · rcases List.mem_cons.mp hM with rfl | hM
      · exact ⟨0, by lia, rfl⟩
      · obtain ⟨j, hj, e⟩ := h3 M hM
        exact ⟨j + 1, by lia, by rw [e]; simp⟩
    · cases j with
      | zero => exact .head _
      | succ j => exact List.mem_cons_of_mem _ (by have := h4 j (by lia); simpa using this)
theorem row_snoc {ys : List Value} {q : Nat} {g : Int → Int} {z : Int} {t : Tok} (h : RowIs ys q g) (e : z = g q) : RowIs (ys ++ [.int z t]) (q + 1) g := by
  refine ⟨by rw [List.length_append, h.1]; rfl, fun j hj => ?_⟩
  by_cases c : j < q
  · obtain ⟨u, hu⟩ := h.2 j c
    exact ⟨u, by rw [List.getElem?_append_left (by rw [h.1]; exact c)]; exact hu⟩
  · have e2 : j = q := by lia
    subst e2
    exact ⟨t, by rw [List.getElem?_append_right (by rw [h.1]; exact Nat.le_refl _), h.1, Nat.sub_self, e]; rfl⟩
theorem row_nil {g : Int → Int} : RowIs [] 0 g := ⟨rfl, fun j hj => by lia⟩
section
variable {prog : Program} {w : World} {A : Around} {E : Value → Shared → Prop} {s : Shared} {h₀ : Heap} {L D : Addr} {m : Str → Option Value} {news : Led} {ys : List Value} {q : Nat} {g : Int → Int} {W : Int}
theorem min_row {Q : Value → Shared → Prop} (hh : A.handled = none) (F : Fr h₀ L s.heap m) (N : News h₀ L s.heap news) (hm : (D, LCg.lst ys) ∈ news) (hr : RowIs ys q g) (hq : 0 < q) (hlow : ∀ j : Nat, j < q → W ≤ g j) (hhit : ∃ j : Nat, j < q ∧ g j = W)
    (h : ∀ h' t tk, Fr h₀ L h' m → News h₀ L h' news → Q (.int W t) { s with heap := h', toks := tk }) : wpAny (model prog w) A (call (.builtin "min") [.ref D]) Q E s := by
  obtain ⟨ns, h1, h2, h3, h4⟩ := row_ints ys q g hr
  refine kso_min F N (isList_of (N _ hm).1) h1 (by lia) hh fun h' M t tk F' N' hM hlo => ?_
  obtain ⟨j, hj, rfl⟩ := h3 M hM
  obtain ⟨k, hk, e⟩ := hhit
  have := hlo _ (h4 k hk)
  have := hlow j hj
  have e2 : g j = W := by lia
  rw [e2]
  exact h h' t tk F' N'
end
section
variable {prog : Program} {w : World} {A : Around} {E : Value → Shared → Prop} {s : Shared} {h₀ : Heap} {L T l t1 t2 t3 : Addr} {m : Str → Option Value} {news : Led} {i j : Int} {t u a1 b1 a2 b2 a3 b3 : Tok} {n n0 n1 n2 n3 : Nat}
noncomputable def stepE (t1 t2 : Addr) (i j : Int) : Value → Bool
  | .ref a => if a = t1 then decide ((0 : Int) = i ∧ (1 : Int) = j) else if a = t2 then decide ((1 : Int) = i ∧ (0 : Int) = j) else decide ((1 : Int) = i ∧ (1 : Int) = j)
  | _ => false
theorem step_notin {Q : Value → Shared → Prop} (N : News h₀ L s.heap news) (hs : (T, tupObj [.int i t, .int j u] n) ∈ news) (h1 : (t1, tupObj [.int 0 a1, .int 1 b1] n1) ∈ news) (h2 : (t2, tupObj [.int 1 a2, .int 0 b2] n2) ∈ news) (h3 : (t3, tupObj [.int 1 a3, .int 1 b3] n3) ∈ news)
    (hl : (l, listOf #[.ref t1, .ref t2, .ref t3] n0) ∈ news) (hu : A.in1.units + 64 < cLine) (hin : (i = 0 ∧ j = 1) ∨ (i = 1 ∧ j = 0) ∨ (i = 1 ∧ j = 1)) (h : Q (.bool false) s) :
    wpAny (model prog w) A (compareOp .NotIn (.ref T) (.ref l)) Q E s := by
  have inj : ∀ {tt : Addr} {p q p' q' : Int} {a b a' b' : Tok} {nn nn' : Nat}, (tt, tupObj [.int p a, .int q b] nn) ∈ news → (tt, tupObj [.int p' a', .int q' b'] nn') ∈ news → p = p' ∧ q = q' := fun h1 h2 => by
    have e := (N _ h1).1.symm.trans (N _ h2).1
    simp at e
    exact ⟨e.1.1.1, e.1.2.1⟩
  have e12 : t2 ≠ t1 := fun e => by
    subst e
    have := inj h1 h2
    lia
  have e13 : t3 ≠ t1 := fun e => by
    subst e
    have := inj h1 h3
    lia
  have e23 : t3 ≠ t2 := fun e => by
    subst e
    have := inj h2 h3
    lia
  have key : ∀ {k1 k2 : Int} {tt : Addr} {a b : Tok} {nn : Nat}, (tt, tupObj [.int k1 a, .int k2 b] nn) ∈ news → SeqAt.EqAt A.in1 s (.ref tt) (.ref T) (decide (k1 = i ∧ k2 = j)) := fun hm => by
    have := SeqAt.eqAt_reads _ _ A.in1 s _ _ [] [] (pair_reads N hm) (pair_reads N hs) rfl rfl (SeqAt.room_of_shaped rfl hu)
    rw [pair_eqv] at this
    exact this
  refine SeqAt.notIn_listAt (stepE t1 t2 i j) (isList_of (vs := [.ref t1, .ref t2, .ref t3]) (N _ hl).1) (fun y hy => ?_) ?_
  · have hy' : y = .ref t1 ∨ y = .ref t2 ∨ y = .ref t3 := by simpa using hy
    rcases hy' with rfl | rfl | rfl
    · have := key h1
      simp only [stepE, if_true]
      exact this
    · have := key h2
      simp only [stepE, if_neg e12, if_true]
      exact this
    · have := key h3
      simp only [stepE, if_neg e13, if_neg e23]
      exact this
  · have e : (([.ref t1, .ref t2, .ref t3] : List Value).toArray.any (stepE t1 t2 i j)) = true := by
      rw [List.any_toArray]
      simp only [List.any_cons, List.any_nil, Bool.or_false, stepE, if_neg e12, if_neg e13, if_neg e23, if_true, Bool.or_eq_true, decide_eq_true_eq]
      lia
    rw [e]
    exact h
end
section
variable {prog : Program} {w : World} {A : Around} {E : Value → Shared → Prop} {s : Shared} {h₀ : Heap} {L al r : Addr} {m : Str → Option Value} {news pl : Led} {i j k : Int} {t u : Tok} {ps : List (Int × Int)} {nn : Nat}
theorem tl_known {value slice : PySem.Expr} {Q : Value → Shared → Prop} (N : News h₀ L s.heap news) (C : TL pl al ps) (hsub : ∀ z ∈ pl, z ∈ news) (hk : ps[k.toNat]? = some (i, j)) (h0 : 0 ≤ k) (hp : (ps.length : Int) < 2 ^ 62)
    (h : ∀ r t u nn, News h₀ L s.heap ((r, tupObj [.int i t, .int j u] nn) :: news) → Q (.ref r) s)
    (hs : subscripted slice false (.ref al) (.int k u) = operate [.ref al, .int k u] (getItem (.ref al) (.int k u)) := by with_unfolding_all rfl) (hg : ∀ r, letTemporaryGo value (.ref al) r = pure () := by intro _; with_unfolding_all rfl) :
    wpAny (model prog w) A (subscriptTail value slice (.ref al) (.int k u)) Q E s := by
  have hlt : k.toNat < ps.length := (List.getElem?_eq_some_iff.mp hk).1
  refine tl_item N C hsub h0 (by lia) hp (fun r i' j' t u nn e N' => ?_) hs hg
  rw [hk] at e
  cases e
  exact h r t u nn N'
theorem tl_known_last {value slice : PySem.Expr} {Q : Value → Shared → Prop} (N : News h₀ L s.heap news) (C : TL pl al ps) (hsub : ∀ z ∈ pl, z ∈ news) (hk : ps[ps.length - 1]? = some (i, j)) (h0 : k = -1) (hp : (ps.length : Int) < 2 ^ 62)
    (h : ∀ r t u nn, News h₀ L s.heap ((r, tupObj [.int i t, .int j u] nn) :: news) → Q (.ref r) s)
    (hs : subscripted slice false (.ref al) (.int k u) = operate [.ref al, .int k u] (getItem (.ref al) (.int k u)) := by with_unfolding_all rfl) (hg : ∀ r, letTemporaryGo value (.ref al) r = pure () := by intro _; with_unfolding_all rfl) :
    wpAny (model prog w) A (subscriptTail value slice (.ref al) (.int k u)) Q E s := by
  have hlt : ps.length - 1 < ps.length := (List.getElem?_eq_some_iff.mp hk).1
  refine tl_last N C hsub h0 (by lia) hp (fun r i' j' t u nn e N' => ?_) hs hg
  rw [hk] at e
  cases e
  exact h r t u nn N'
end
theorem bool_pos {c : Bool} {p q : Prop} (h : c = true) (hp : p) : if c = true then p else q := by rw [if_pos h]; exact hp
theorem bool_neg {c : Bool} {p q : Prop} (h : c = false) (hq : q) : if c = true then p else q := by rw [if_neg (by rw [h]; exact Bool.false_ne_true)]; exact hq
/-- what the law has spent before turn k of its last loop -/
def SpentIs (Gf : Int → Int → Int) (ps : List (Int × Int)) (k : Nat) (sp : Int) : Prop := (k = 0 → sp = 0) ∧ ∀ (j : Nat) a b, k = j + 1 → ps[j]? = some (a, b) → sp = Gf a b
theorem spent_zero {Gf : Int → Int → Int} {ps : List (Int × Int)} : SpentIs Gf ps 0 0 := ⟨fun _ => rfl, fun j a b h => by lia⟩
theorem spent_next {Gf : Int → Int → Int} {ps : List (Int × Int)} {k : Nat} {a b sp : Int} (h : ps[k]? = some (a, b)) (e : sp = Gf a b) : SpentIs Gf ps (k + 1) sp := ⟨fun h => by lia, fun j a' b' hj h' => by
  have e2 : j = k := by lia
  subst e2
  rw [h] at h'
  cases h'
  exact e⟩
/-- what the law asks of the way, in plain words -/
structure WayF (x y : Str) (cost : Int) (Gf Ge : Int → Int → Int) (ps : List (Int × Int)) : Prop where
  len0 : 0 < ps.length
  len : ps.length ≤ x.length + y.length + 1
  first : ps[Int.toNat 0]? = some (0, 0)
  last : ps[ps.length - 1]? = some ((x.length : Int), (y.length : Int))
  zero : Gf 0 0 = 0
  pt : ∀ (k : Nat) a b, ps[k]? = some (a, b) → a ≤ x.length ∧ b ≤ y.length ∧ 0 ≤ a ∧ 0 ≤ b ∧ Gf x.length y.length - Gf a b = Ge a b
  step : ∀ (k : Nat) p q a b, ps[k]? = some (p, q) → ps[k + 1]? = some (a, b) →
    (p = a - 1 ∧ q = b - 1 ∧ (Txt.item x (a - 1) == Txt.item y (b - 1)) = true ∧ Gf a b = Gf p q) ∨ (p = a - 1 ∧ q = b - 1 ∧ (Txt.item x (a - 1) == Txt.item y (b - 1)) = false ∧ Gf a b = Gf p q + cost) ∨
    (((p = a - 1 ∧ q = b) ∨ (p = a ∧ q = b - 1)) ∧ Gf a b = Gf p q + 1)
theorem way_facts {x y : Str} {cost : Int} {ps : List (Int × Int)} (P : PathOk x y cost ps) : WayF x y cost (dI x y cost) (endG x y cost) ps where
  len0 := P.pos
  len := P.len
  first := P.first
  last := P.last
  zero := rfl
  pt := fun k a b h => by
    have hlt := (List.getElem?_eq_some_iff.mp h).1
    exact path_at P (ps.length - (k + 1)) k (by lia) (a, b) h
  step := fun k p q a b h1 h2 => by
    obtain ⟨g1, g2, h⟩ := P.steps k _ _ h1 h2
    dsimp only at g1 g2 h
    rcases h with ⟨rfl, rfl, h⟩ | ⟨rfl, rfl, h⟩ | ⟨rfl, rfl, h⟩
    · rw [Int.add_sub_cancel, Int.add_sub_cancel]
      by_cases c : Txt.item x p = Txt.item y q
      · rw [if_pos c] at h
        exact .inl ⟨rfl, rfl, by simp [c], h.trans (Int.add_zero _)⟩
      · rw [if_neg c] at h
        exact .inr (.inl ⟨rfl, rfl, by simp [c], h⟩)
    · exact .inr (.inr ⟨.inl ⟨(Int.add_sub_cancel ..).symm, rfl⟩, h⟩)
    · exact .inr (.inr ⟨.inr ⟨rfl, (Int.add_sub_cancel ..).symm⟩, h⟩)
theorem pair_ne2 {prog : Program} {w : World} {A : Around} {E : Value → Shared → Prop} {s : Shared} {h₀ : Heap} {L a b : Addr} {news : Led} {i j k l : Int} {t u t' u' : Tok} {n n' : Nat} {Q : Value → Shared → Prop} (N : News h₀ L s.heap news) (ha : (a, tupObj [.int i t, .int j u] n) ∈ news) (hb : (b, tupObj [.int k t', .int l u'] n') ∈ news) (hu : A.units + 64 < cLine)
    (h : Q (.bool (decide (¬(i = k ∧ j = l)))) s) : wpAny (model prog w) A (compareOp .NotEq (.ref a) (.ref b)) Q E s := pair_ne N ha hb hu (by rw [← decide_not]; exact h)
theorem lam_mem {q : Str} {lm : Led} (h : LamAt q lm) : ∃ ps, ((52 : Addr), tabObj ps) ∈ lm := by
  rcases h with rfl | ⟨c', oc, vs, t, rfl, _⟩
  · exact ⟨_, .head _⟩
  · exact ⟨_, .head _⟩
end

section
theorem ed_ends {w : World} {p : Program} {loose : List Str} {mean : ExcName → Option Value} {mg mb : Str → Option Value}
   {dp un : Nat} {gd : Option (List Code)} {cn : Str} {cs : Scope} {a : Addr} {ccd : Value} {cl : List (Str × Addr)} {outer : List Env} {A₀ : Around} {base h₀ : Heap} {L : Addr} {m : Str → Option Value} {s : Shared} {Q E : Value → Shared → Prop}
   {news : Led} {x y : Str} {cost i j : Int} {t1 t2 t3 : Tok}
   (B : Below A₀ base outer h₀) (F : Fr h₀ L s.heap m) (X : (hd.heap_39 w.params).In h₀) (N : News h₀ L s.heap news) (T : Top p loose mean mg mb h₀) (hk : cs.kind = .function)
   (hx : x.length < 40) (hy : y.length < 40) (hi0 : 0 ≤ i) (hi : i ≤ x.length) (hj0 : 0 ≤ j) (hj : j ≤ y.length)
   (hd : dp + 5 < recursionLimit) (hu : un + 40 < cLine)
   (hret : ∀ h' tk' t, Fr h₀ L h' m → News h₀ L h' news → Q (.int (endG x y cost i j) t) { s with heap := h', toks := tk' }) :
   wpAny (model PySem.Challenge.rw_be0026_01.row.prog w) (ktrTop dp un gd cn cs L a ccd cl outer) (call (.ref 49) [.str (Txt.slice x (some i) none) t1, .str (Txt.slice y (some j) none) t2, .int cost t3]) Q E s :=
  ed_spec B F X N T hk (by rw [slice_len hi0 hi]; lia) (by rw [slice_len hj0 hj]; lia) hd hu fun h' tk' t F' N' => by
    rw [end_dist hi0 hi hj0 hj]
    exact hret h' tk' t F' N'
end

section
section
local macro_rules | `(tactic| k_mem) => `(tactic| k_memK)
local macro_rules | `(tactic| k_memK) => `(tactic| first | with_reducible assumption | (with_reducible exact List.mem_cons_self) | (with_reducible refine List.mem_append_right _ ?_; k_memK) | (with_reducible refine List.mem_append_left _ ?_; k_memK) | (with_reducible refine List.mem_cons_of_mem _ ?_; k_memK))
local macro_rules | `(tactic| walk_at "call builtin:str.join") => `(tactic| refine stop_here ?_)
local macro_rules | `(tactic| walk_at "CompSrc") => `(tactic| refine stop_here ?_)
local macro_rules | `(tactic| walk_at "eval ListComp") => `(tactic| refine stop_here ?_)
local macro_rules | `(tactic| accj_flat) => `(tactic| first | (with_reducible exact fun _ h => h) | with_reducible assumption | (with_reducible refine sub_app ?_ ?_ <;> accj_flat) | (with_reducible refine sub_cons_l ?_ ?_; (focus k_memK); accj_flat) | (with_reducible exact sub_nil) | (with_reducible refine sub_left ?_; accj_flat) | (with_reducible refine sub_right ?_; accj_flat) | (with_reducible refine sub_cons ?_; accj_flat))
local macro_rules | `(tactic| walk_at "storeName") => `(tactic| ((try dsimp only); k_here; (first
  | (k_dflt (refine' storeX_L ?F ?N ?_ ?a ?b; (case a => rfl); (case b => rfl); (case F => k_asm); (case N => k_asm); k_whole; intro h' F' N'; (try k_sweep); (try dsimp only)))
  | (with_reducible refine stop_cell ?_ (by with_reducible assumption)))))
local macro_rules | `(tactic| walk_at "eval Dict nil nil") => `(tactic| refine stop_here ?_)
local macro_rules | `(tactic| walk_at "exec For Name Call cons nil") => `(tactic| refine stop_here ?_)
local macro_rules | `(tactic| walk_at "setItem ref ref") => `(tactic| refine stop_here ?_)
local macro_rules | `(tactic| walk_at "eval Name") => `(tactic| (k_here; k_dflt (first
  | (refine' cell_get ?N ?K ?sub ?hc ?_ ?hk ?hx ?hb; (case hk => exact rfl); (case hx => exact rfl); (case hb => decide); (case N => k_asm); (case hc => exact rfl); (case K => with_reducible assumption); (case sub => accj_flat); k_whole)
  | (refine' nameX_C ?N ?c ?m ?d ?_ ?a ?b; (case a => rfl); (case b => rfl); (case N => k_asm); (case c => rfl); (case m => k_memK); (case d => with_reducible assumption); k_whole)
  | (refine' nameX_L ?F ?v ?_ ?a ?b; (case F => k_asm); (case a => rfl); (case b => rfl); (case v => cell_eq); k_whole)
  | (refine' nameX_K ?F ?X ?T ?e ?_ ?a ?b; (case F => k_asm); (case X => k_asm); (case T => k_asm); (case a => rfl); (case b => rfl); (case e => k_is); k_whole)
  | (refine' nameX_B ?F ?X ?T ?e ?v ?n ?_ ?a ?b; (case F => k_asm); (case X => k_asm); (case T => k_asm); (case a => rfl); (case b => rfl); (case e => k_is); (case v => boot_fast); (case n => decide); k_whole))))
local macro_rules | `(tactic| walk_at "eval Name") => `(tactic| (k_here; (with_reducible show wpAny _ _ (eval (Expr.Name _ _) (compEnvC _ _ _ _)) _ _ _); k_dflt (first
  | (refine' cell_comp ?N ?K ?sub ?hc ?_ ?hk ?hx ?hb; (case hk => rfl); (case hx => rfl); (case hb => decide); (case N => k_asm); (case hc => exact rfl); (case K => with_reducible assumption); (case sub => accj_flat); k_whole)
  | (refine' lcf_cell ?N ?c ?m ?d ?_ ?a ?b; (case a => rfl); (case b => rfl); (case N => k_asm); (case c => rfl); (case m => k_memK); (case d => with_reducible assumption); k_whole)
  | refine LCgL.ld_own (by k_asm) (by k_mem) (by with_reducible assumption) (by with_reducible assumption) ?_
  | refine LCgL.ld_global (by k_asm) (by k_asm) (by k_asm) (by k_is) ?_
  | refine LCgL.ld_built (by k_asm) (by k_asm) (by k_asm) (by k_is) (by boot_by_name) (by decide) ?_)))
local macro_rules | `(tactic| walk_at "subscriptTail") => `(tactic| (k_here; (with_reducible show wpAny _ _ (subscriptTail _ _ (Value.ref _) (Value.ref _)) _ _ _); k_dflt (refine' da_item ?u ?N ?C ?sub ?a ?hm ?_; (case u => ktr_units); (case N => k_asm); (case C => with_reducible assumption); (case sub => accj_flat); (case a => first | exact .head _ | k_memK); (case hm => first | with_reducible assumption | exact wide_mem (by with_reducible assumption) (by lia) (by lia) (by lia) (by lia) | exact full_mem (by with_reducible assumption) (by lia) (by lia) (by lia) (by lia)); k_whole; intro tk9 t9; (try dsimp only))))
local macro_rules | `(tactic| walk_at "call builtin:min") => `(tactic| refine stop_here ?_)
local macro_rules | `(tactic| walk_at "exec For Name List cons nil") => `(tactic| refine stop_here ?_)
local macro_rules | `(tactic| walk_at "compareOp In ref ref") => `(tactic| (k_here; k_dflt (refine' da_in ?u ?N ?C ?sub ?a ?_; (case u => ktr_units); (case N => k_asm); (case C => with_reducible assumption); (case sub => accj_flat); (case a => k_mem); k_whole; intro tk9; (try dsimp only))))
local macro_rules | `(tactic| walk_at "ite") => `(tactic| (first
  | (with_reducible refine ite_tt ?_)
  | (with_reducible refine ite_ff ?_)
  | (with_reducible refine bne_neg ?_ ?_; focus (first | with_reducible assumption | lia))
  | (with_reducible refine bne_pos ?_ ?_; focus (first | with_reducible assumption | lia))
  | (with_reducible refine dec_pos ?_ ?_; focus (first | with_reducible assumption | lia))
  | (with_reducible refine dec_neg ?_ ?_; focus (first | with_reducible assumption | lia))
  | (with_reducible refine bool_pos ?_ ?_; focus with_reducible assumption)
  | (with_reducible refine bool_neg ?_ ?_; focus with_reducible assumption)
  | (refine stop_here ?_)))
local macro_rules | `(tactic| walk_at "subscriptTail") => `(tactic| (k_here; (with_reducible show wpAny _ _ (subscriptTail _ _ (Value.ref _) (Value.int _ _)) _ _ _); k_dflt (first
  | ((rename News _ _ _ _ => N8); refine' tl_known N8 ?C ?sub ?hk ?a ?b ?_; (case C => with_reducible assumption); (case sub => accj_flat); (case hk => with_reducible assumption); (case a => lia); (case b => lia); k_whole; intro r9 t9 u9 n9 N9; clear N8)
  | ((rename News _ _ _ _ => N8); refine' tl_known_last N8 ?C ?sub ?hk ?a ?b ?_; (case C => with_reducible assumption); (case sub => accj_flat); (case hk => with_reducible assumption); (case a => lia); (case b => lia); k_whole; intro r9 t9 u9 n9 N9; clear N8)
  | (refine' item_tupleT ?t ?a ?b ?c ?d ?_; (case t => exact News.isTup (by k_asm) (by k_mem)); (case a => decide); (case b => decide); (case c => rfl); (case d => rfl); k_whole))))
local macro_rules | `(tactic| walk_at "compareOp NotEq ref ref") => `(tactic| (k_here; k_dflt (refine' pair_ne2 ?N ?a ?b ?u ?_; (case N => k_asm); (case a => k_mem); (case b => k_mem); (case u => ktr_units); k_whole)))
local macro_rules | `(tactic| walk_at "call builtin:len") => `(tactic| ((with_reducible show wpAny _ _ (call _ [Value.ref _]) _ _ _); refine stop_here ?_))
local macro_rules | `(tactic| walk_at "compareOp NotIn ref ref") => `(tactic| refine stop_here ?_)

theorem law_holds : PySem.Challenge.rw_be0026_01.Holds := hd (by
  k_go0
  k_steps
  (rename (hd.heap_39 _).In _ => X9); revert X9; k_fill; intro X9
  refine ⟨?_⟩
  (rename News _ _ _ _ => N0); (rename _ ∧ _ ∧ _ ∧ _ ∧ _ ∧ _ => hL9); revert hL9; (rename _ ∧ _ ∧ _ ∧ _ ∧ _ => hL8); intro hL9
  obtain ⟨hl0, Nh, C0, o0⟩ := first_ledger N0 (by assumption) (by assumption) ⟨hL9.1, hL9.2.1, hL9.2.2.1, hL9.2.2.2.1, hL9.2.2.2.2.1, hL9.2.2.2.2.2, trivial⟩ ⟨hL8.1, hL8.2.1, hL8.2.2.1, hL8.2.2.2.1, hL8.2.2.2.2, trivial⟩
  rename_i w9 s0 s1 mg9 mb9 cG cY fa ob pm cd doc cho chcd chg cX cV cT cB cTE cTW wl chs clay chL chr chl2 wa wb wc wd we chL2 cra cw1 cr0 chI chr2 cc1 cc2 chD h1 tk1 ob1 ob2 ob3 ob4 lf1 lf2 lf3 rt1 cX0 T' K' l0 D' ws' h1' chI' chC' chL' l' h2' h3' o' F' d'
  obtain ⟨v1, wf1⟩ : ∃ v, ob1.data = .cell v := ⟨_, lf1⟩
  obtain ⟨v2, wf2⟩ : ∃ v, ob2.data = .cell v := ⟨_, lf2⟩
  obtain ⟨v3, wf3⟩ : ∃ v, ob3.data = .cell v := ⟨_, lf3⟩
  obtain ⟨m0, F0⟩ : ∃ m, Fr _ _ _ m := ⟨_, F'⟩
  clear F' lf1 lf2 lf3 rt1 cX0
  clear cG cY cho chcd hT8 cX cV cT cB cTE cTW hT9 chs clay chL chr chl2 chL2 cra cw1 cr0 chI chr2 cc1 cc2 chD lifted chI' chC' chL' hL8 hL9 N0
  generalize hGP : GoodW PySem.Challenge.rw_be0026_01.row.claim (classAt s0.heap) (ExcName.means s0.heap) [ofPy (PyData.list (List.map PyData.int wl))] { heap := ghostOf s1.heap [(56, 52)], gens := s1.gens, drawn := s1.drawn, toks := s1.toks, os := s1.os } = GP
  k_dflt (refine' next_hand ?B ?F ?X ?N ?T ?hk ?C ?ho ?sub ?hk0 ?hk1 ?hm0 ?hm1 ?hd ?hu ?_; cell_enter; (case sub => exact sub_refl); (case C => with_reducible assumption); (case ho => with_reducible assumption); (case hk0 => lia); (case hk1 => lia); (case hm0 => lia); (case hm1 => lia))
  intro h' tk' hl1 z1 t2 F1 N1 C1 o1 hz0 hz1
  clear C0 o0
  (try dsimp only)
  k_steps
  refine ⟨?_⟩
  k_dflt (refine' next_hand ?B ?F ?X ?N ?T ?hk ?C ?ho ?sub ?hk0 ?hk1 ?hm0 ?hm1 ?hd ?hu ?_; cell_enter; (case sub => exact sub_refl); (case C => with_reducible assumption); (case ho => with_reducible assumption); (case hk0 => lia); (case hk1 => lia); (case hm0 => lia); (case hm1 => lia))
  intro h' tk' hl2 z2 t2 F2 N2 C2 o2 hy0 hy1
  clear F1 N1 C1 o1
  (try dsimp only)
  k_steps
  refine ⟨?_⟩
  k_dflt (refine' next_hand ?B ?F ?X ?N ?T ?hk ?C ?ho ?sub ?hk0 ?hk1 ?hm0 ?hm1 ?hd ?hu ?_; cell_enter; (case sub => exact mem_mid); (case C => with_reducible assumption); (case ho => exact off_cons (allLt_sub (allLt_mk (by assumption)) fun p hp => List.mem_append_left _ hp) o2); (case hk0 => lia); (case hk1 => lia); (case hm0 => lia); (case hm1 => lia))
  intro h' tk' hl3 cost tc F3 N3 C3 o3 hc0 hc1
  clear C2 o2
  (try dsimp only)
  k_steps
  refine ⟨?_⟩
  k_dflt (refine LCg.ListComp_U (F₀ := by k_asm) (by with_unfolding_all rfl) (by decide) (by rfl) (by decide) (by rfl) ?_)
  k_steps
  refine ⟨?_⟩
  (rename News _ _ _ _ => N4); (rename Fr _ _ _ _ => F4)
  obtain ⟨R, hR, N5, o5⟩ := name_tail N4 o3
  refine LCg.CompSrc.ledger rfl F4 N5 (by rw [hR]; k_mem) (show (#[Value.int _ _, Value.int _ _] : Array Value).size ≤ sizeLine from (show 2 ≤ sizeLine by decide)) fun g => ?_
  refine rest_inv (n := 2) (fun i ys nx => ∃ hl k, nx = hl ++ R ∧ HandL hl _ k ∧ Off hl R ∧ 0 ≤ k ∧ k ≤ 3 + 4 * i ∧ Texts ys 4 ∧ ys.length = i) ?_ ?_ _ 0 [] _ rfl ⟨hl3, _, rfl, C3, o5, by lia, by lia, Texts.nil, rfl⟩
  · obtain ⟨hsz, hcl⟩ := tail_two hR
    clear hR N4 F4 N5 o3 o5 C3
    rintro i v I oI C oC D m₂ h tk E' ys1 nx hi hP ⟨hl, k, rfl, C1, o1, hk0, hk1, hT, hlen⟩ hC hx F1 N1 off CP hCP
    obtain ⟨z, tz, rfl, hz4⟩ := two_ints hP ⟨hz0, hz1⟩ ⟨hy0, hy1⟩
    dsimp only
    k_steps
    refine ⟨?_⟩
    k_dflt (refine LCg.ListComp_U (F₀ := by k_asm) (by with_unfolding_all rfl) (by decide) (by rfl) (by decide) (by rfl) ?_)
    k_steps
    refine ⟨?_⟩
    (rename News _ _ _ _ => N4); (rename Fr _ _ _ _ => F4)
    have o6 := off_mid off o1
    refine comp_range rfl F4 (show News _ _ _ (hl ++ ([(I, oI), (C, oC), (D, LCg.lst ys1)] ++ R)) from kst_newsOf N4 (mv_front (b := [(I, oI), (C, oC), (D, LCg.lst ys1)]))) (by assumption) (by lia) (by lia) rfl fun g => ?_
    refine rest_inv (fun i ys nx => ∃ hl k', nx = hl ++ ([(I, oI), (C, oC), (D, LCg.lst ys1)] ++ R) ∧ HandL hl _ k' ∧ Off hl ([(I, oI), (C, oC), (D, LCg.lst ys1)] ++ R) ∧ 0 ≤ k' ∧ k' ≤ k + i ∧ Texts ys 1 ∧ ys.length = i) ?_ ?_ _ 0 [] _ (Nat.zero_add _) ⟨hl, _, rfl, C1, o6, by lia, by lia, Texts.nil, rfl⟩
    · clear N4 F4 o6 C1 o1
      rintro i2 v I2 oI2 C2 oC2 D2 m2 h2 tk2 E2 ys2 nx2 hi2 hP2 ⟨hl, k', rfl, C1, o1, hk0', hk1', hT', hlen'⟩ hC2 hx2 F1 N1 off2 CP hCP
      dsimp only
      k_steps
      refine ⟨?_⟩
      have o7 := off_mid off2 o1
      k_dflt (refine' next_hand ?B ?F ?X ?N ?T ?hk ?C ?ho ?sub ?hk0 ?hk1 ?hm0 ?hm1 ?hd ?hu ?_; cell_enter; (case sub => exact mv_front (b := [_, _, _])); (case C => with_reducible assumption); (case ho => exact o7); (case hk0 => lia); (case hk1 => lia); (case hm0 => lia); (case hm1 => lia))
      intro h3 tk3 hl3 z3 t3 F3 N3 C3 o3 hz30 hz31
      (try dsimp only)
      k_steps
      (rename News _ _ _ _ => N9); (rename Fr _ _ _ _ => F9)
      exact hCP _ _ <| CEnd.intro F9 N9 (fun p hp => mv_front p hp) (off_back (off2.sub fun p hp => List.mem_append_right _ hp) o3) trivial
        ⟨hl3, _, rfl, C3, o3.sub fun p hp => List.mem_append_right _ hp, by lia, by lia, hT'.snoc (Nat.le_of_eq (by assumption)), by simp [hlen']⟩
    · intro ys2 nx2 ⟨hl2, k2, e, C5, o5, hk5, hk6, hT5, hl5⟩
      subst e
      intro D2 h2 tk2 F5 N5 off5
      dsimp only
      k_steps
      refine ⟨?_⟩
      (k_dflt (refine' join_texts (n := 4) ?y1N ?y1m ?y1t ?y1h ?y1b ?_; (case y1N => k_asm); (case y1m => k_mem); (case y1t => with_reducible assumption); (case y1h => lia); (case y1b => decide); k_whole; intro x9 t9 k9 hx9; (try dsimp only)))
      k_steps
      (rename News _ _ _ _ => N9); (rename Fr _ _ _ _ => F9)
      exact hCP _ _ <| CEnd.intro F9 N9 (fun p hp => .tail _ (mv_front p hp)) (off_back (off.sub fun p hp => List.mem_append_right _ hp) o5) (.inr ⟨_, List.mem_append_right _ hsz, rfl, _, rfl⟩)
        ⟨hl2, k2, rfl, C5, o5.sub fun p hp => List.mem_append_right _ hp, by lia, by lia, hT.snoc (by assumption), by simp [hlen]⟩
  intro ys nx ⟨hl, k, e, C5, o5, hk5, hk6, hT, hlen⟩
  subst e
  obtain ⟨x, tx, y, ty, rfl, hx, hy⟩ := two_texts hT hlen
  intro D4 h4 tk4 F5 N5 off5
  subst hR
  replace N5 : News _ _ _ ((D4, LCg.lst [.str x tx, .str y ty]) :: _) := kst_newsOf N5 (fun p hp => (List.mem_cons.mp hp).elim (fun e => e ▸ .head _) fun h => .tail _ (List.mem_append_right _ h))
  clear F4 N4 o3 C3 o5 C5 off5 hT hlen hk5 hk6
  dsimp only
  k_steps
  refine ⟨?_⟩
  (rename News _ _ _ _ => N6); (rename Fr _ _ _ _ => F6)
  obtain ⟨m1, hM, F7⟩ := has_frame (l := [("first", .str x tx), ("second", .str y ty), ("cost", .int cost tc)]) F6 (by k_flat)
  have N7 := news_tail2 N6
  clear N6 F6 hz0 hz1 hy0 hy1
  obtain ⟨cf, ce, ci, lm, N8, Cf, Ce, Ci, hlm, of, oe, oi⟩ := cells_split N7 (by assumption) (by assumption) (by assumption) (by assumption)
  clear N7
  k_dflt (refine' ahead_spec ?B ?F ?X ?N ?T ?hk ?hx ?hy ?hc0 ?hc1 ?hd ?hu ?_; cell_enter; (case hx => lia); (case hy => lia); (case hc0 => lia); (case hc1 => lia))
  intro h' tk' df fl ksf F8 N8 D8 of8 hks
  have of1 : Off cf (fl ++ (ce ++ (ci ++ lm))) := Off.app (of8.sub fun p hp => List.mem_append_left _ hp).symm of
  (try dsimp only)
  k_steps
  refine ⟨?_⟩
  k_dflt (refine' cell_put ?F ?N Cf ?ho ?sub ?hc ?_ ?hk ?hx; (case hk => exact rfl); (case hx => exact rfl); (case hc => exact rfl); (case F => k_asm); (case N => k_asm); (case ho => exact of1); (case sub => exact mv_front))
  clear of1 Cf of
  intro h' cf F9 N9 Cf of
  (try dsimp only)
  k_steps
  refine ⟨?_⟩
  refine dict_new (endG x y cost) F9 N9 (Top.nolimit (by assumption)) ?_
  clear F9 N9
  intro de h' el F10 N10 D10 oel
  (try dsimp only)
  k_steps
  refine ⟨?_⟩
  have oe1 : Off ce (el ++ (cf ++ (fl ++ (ci ++ lm)))) := Off.app (oel.sub fun p hp => List.mem_append_right _ (List.mem_append_right _ (List.mem_append_left _ hp))).symm (Off.app (of.sub fun p hp => List.mem_append_right _ (List.mem_append_left _ hp)).symm (Off.app (of8.sub fun p hp => List.mem_append_right _ (List.mem_append_left _ hp)).symm oe))
  k_dflt (refine' cell_put ?F ?N Ce ?ho ?sub ?hc ?_ ?hk ?hx; (case hk => exact rfl); (case hx => exact rfl); (case hc => exact rfl); (case F => k_asm); (case N => k_asm); (case ho => exact oe1); (case sub => accj_flat))
  clear oe1 Ce oe
  intro h' ce F11 N11 Ce oe
  have oel2 : Off el (ci ++ (lm ++ (cf ++ (ce ++ fl)))) := Off.app (oel.sub (by accj_flat)) (Off.app (oel.sub (by accj_flat)) (Off.app (oel.sub (by accj_flat)) (Off.app (oe.sub (by accj_flat)).symm (oel.sub (by accj_flat)))))
  have oci : Off ci (lm ++ (cf ++ (ce ++ fl))) := Off.app oi (Off.app (of.sub (by accj_flat)).symm (Off.app (oe.sub (by accj_flat)).symm (of8.sub (by accj_flat)).symm))
  have olm : Off lm (cf ++ (ce ++ fl)) := Off.app (of.sub (by accj_flat)).symm (Off.app (oe.sub (by accj_flat)).symm (of8.sub (by accj_flat)).symm)
  have N12 : News _ _ _ (el ++ (ci ++ (lm ++ (cf ++ (ce ++ fl))))) := kst_newsOf N11 (by accj_flat)
  have hG : ∃ G0, G0 = cf ++ (ce ++ fl) := ⟨_, rfl⟩
  obtain ⟨G0, hG⟩ := hG
  have hcf : ∀ z ∈ cf, z ∈ G0 := by rw [hG]; accj_flat
  have hce : ∀ z ∈ ce, z ∈ G0 := by rw [hG]; accj_flat
  have hfl : ∀ z ∈ fl, z ∈ G0 := by rw [hG]; accj_flat
  rw [← hG] at oel2 oci olm N12
  clear N11 of8 of oel oe oi hG F8 N8 F10 N10
  (try dsimp only)
  k_steps
  refine ⟨?_⟩
  k_dflt (with_unfolding_all refine' For_turns (by k_asm) ?_ ?k3 ?k4; (case k3 => intro _; rfl); (case k4 => passes_own); k_whole)
  k_steps
  refine ⟨?_⟩
  (rename News _ _ _ _ => N2); (rename Fr _ _ _ _ => F2)
  refine range_loopT (n := x.length + 1) (fun i m nx => ∃ el ci ks v, Has m [("first", .str x tx), ("second", .str y ty), ("cost", .int cost tc)] ∧ nx = el ++ (ci ++ (lm ++ G0)) ∧ CellAt ci _ v ∧ DictAt PySem.Challenge.rw_be0026_01.row.prog _ el de ks (endG x y cost) ∧ Off el (ci ++ (lm ++ G0)) ∧ Off ci (lm ++ G0) ∧ Keys (y.length + 1) ks i 0 ∧ (ks.length : Int) ≤ 5 * i)
    rfl (by assumption) (by lia) (by lia) (by lia) F2 N2 ⟨el, ci, [], _, hM, rfl, Ci, D10, oel2, oci, keys_nil, by simp⟩ ?_ ?_
  · clear N2 F2 Ci D10 oel2 oci hM
    rintro i t m₁ nx h tk own hi hoff ⟨el, ci, ks, v, hM, rfl, Ci, D10, oel, oci, hK, hlen⟩ F1 N1 TP hTP
    have oci1 : Off ci (el ++ (lm ++ (G0 ++ own))) := Off.app (oel.sub (by accj_flat)).symm (Off.app (oci.sub (by accj_flat)) (Off.app (oci.sub (by accj_flat)) (hoff.sub (by accj_flat)).symm))
    k_steps
    refine ⟨?_⟩
    k_dflt (refine' cell_put ?F ?N Ci ?ho ?sub ?hc ?_ ?hk ?hx; (case hk => exact rfl); (case hx => exact rfl); (case hc => exact rfl); (case F => k_asm); (case N => k_asm); (case ho => exact oci1); (case sub => accj_flat))
    clear Ci F1 N1
    intro h' ci' F1 N1 Ci oci2
    (try dsimp only)
    k_steps
    refine ⟨?_⟩
    ((rename Fr _ _ _ _ => lF'); (with_unfolding_all refine' For_invVF lF' ?k1 ?k2 ?_ ?k3 ?k4; (case k1 => exact rfl); (case k2 => exact rfl); (case k3 => intro _; rfl); (case k4 => passes_own); k_whole))
    k_steps
    refine ⟨?_⟩
    (rename News _ _ _ _ => N2); (rename Fr _ _ _ _ => F2)
    have oel2 : Off el (ci' ++ (lm ++ (G0 ++ own))) := Off.app (oci2.sub (by accj_flat)).symm (Off.app (oel.sub (by accj_flat)) (Off.app (oel.sub (by accj_flat)) (hoff.sub (by accj_flat)).symm))
    refine range_loop (n := y.length + 1) (fun j m nx => ∃ el ks, Has m [("first", .str x tx), ("second", .str y ty), ("cost", .int cost tc)] ∧ nx = el ++ (ci' ++ (lm ++ (G0 ++ own))) ∧ DictAt PySem.Challenge.rw_be0026_01.row.prog _ el de ks (endG x y cost) ∧ Off el (ci' ++ (lm ++ (G0 ++ own))) ∧ Keys (y.length + 1) ks (0 + i) (0 + j) ∧ (ks.length : Int) ≤ 5 * i + j)
      rfl (by assumption) (by lia) (by lia) (by lia) F2 (kst_newsOf N2 (by accj_flat)) ⟨el, ks, hM, rfl, D10, oel2, keys_cast hK (by lia) (by lia), by lia⟩ ?_ ?_
    · clear N2 F2 D10 oel2 oel hK hlen hM
      (try clear F1 N1)
      rintro j tj m₂ nx h2 tk2 own2 hj hoffI ⟨el, ks, hM, rfl, D10, oel, hK, hlen⟩ F1 N1 TP hTP
      have oelL : Off el ((ci' ++ (lm ++ (G0 ++ own))) ++ own2) := Off.app oel (hoffI.sub (by accj_flat)).symm
      k_steps
      refine ⟨?_⟩
      k_dflt (refine' ed_ends ?B ?F ?X ?N ?T ?hk ?hx ?hy ?e9a ?e9b ?e9c ?e9d ?hd ?hu ?_; cell_enter; (case hx => lia); (case hy => lia); (case e9a => lia); (case e9b => lia); (case e9c => lia); (case e9d => lia))
      intro h' tk' t F3 N3
      (try dsimp only)
      k_steps
      refine ⟨?_⟩
      (rename ∀ p ∈ _, _ => hlt); (rename News _ _ _ _ => N4); (rename Fr _ _ _ _ => F4)
      k_dflt (refine da_set (rest := (ci' ++ (lm ++ (G0 ++ own))) ++ own2) (by ktr_units) F4 N4 D10 oelL (by accj_flat) (.head _) (keys_notin hK) rfl (allLt_sub (allLt_of hlt) (by accj_flat)) (by lia) ?_)
      clear F4 N4 hlt oel
      intro h' tk9 el' hk9 F5 N5 D5 o5
      (try dsimp only)
      k_steps
      refine hTP _ ?_
      (try dsimp only)
      (rename Fr _ _ _ _ => F6); (rename News _ _ _ _ => N6)
      exact turn_lv (lv := el) (rest := ci' ++ (lm ++ (G0 ++ own))) F6 N6 hoffI o5 ⟨el', _, by k_tabat, rfl, D5, o5.sub (by accj_flat), keys_cast (keys_put hK (by lia)) rfl (by lia), by rw [List.length_append, List.length_singleton]; lia⟩
    · clear N2 F2 D10 oel2 oel hK hlen hM
      (try clear F1 N1)
      rintro m₂ nx h2 tk2 ⟨el, ks, hM, rfl, D10, oel, hK, hlen⟩ F1 N1
      (try dsimp only)
      k_steps
      refine hTP _ ?_
      (try dsimp only)
      (rename Fr _ _ _ _ => F6); (rename News _ _ _ _ => N6)
      exact TurnEnd.intro F6 N6 (nx := el ++ (ci' ++ (lm ++ G0))) (by accj_flat) (by accj_flat) (Off.app (oel.sub (by accj_flat)).symm (Off.app (oci2.sub (by accj_flat)).symm (hoff.sub (by accj_flat))))
        ⟨el, ci', ks, _, hM, rfl, Ci, D10, oel.sub (by accj_flat), oci2.sub (by accj_flat), keys_cast (keys_row (keys_cast hK rfl (by lia)) (by lia)) (by lia) rfl, by lia⟩
  · clear N2 F2 Ci D10 oel2 oci hM
    rintro m₁ nx h tk ⟨el, ci, ks, v, hM, rfl, Ci, D10, oel, oci, hK, hlen⟩ F1 N1
    (try dsimp only)
    have hfull : Full x.length y.length ks := keys_full hK (by lia)
    have hwide : Wide x.length y.length ksf := ⟨hks⟩
    have hfa := facts (x := x) (y := y) hc0
    have hGf : ∃ g, g = dI x y cost := ⟨_, rfl⟩
    obtain ⟨Gf, hGf⟩ := hGf
    have hGe : ∃ g, g = endG x y cost := ⟨_, rfl⟩
    obtain ⟨Ge, hGe⟩ := hGe
    rw [← hGf] at D8 hfa
    rw [← hGe] at D10 hfa
    have N2 : News _ _ _ (ci ++ (lm ++ (el ++ G0))) := kst_newsOf N1 (by accj_flat)
    have oci2 : Off ci (lm ++ (el ++ G0)) := Off.app (oci.sub (by accj_flat)) (Off.app (oel.sub (by accj_flat)).symm (oci.sub (by accj_flat)))
    have olm2 : Off lm (el ++ G0) := Off.app (oel.sub (by accj_flat)).symm olm
    have hG : ∃ G, G = el ++ G0 := ⟨_, rfl⟩
    obtain ⟨G, hG⟩ := hG
    have hcf2 : ∀ z ∈ cf, z ∈ G := by rw [hG]; accj_flat
    have hce2 : ∀ z ∈ ce, z ∈ G := by rw [hG]; accj_flat
    have hfl2 : ∀ z ∈ fl, z ∈ G := by rw [hG]; accj_flat
    have hel2 : ∀ z ∈ el, z ∈ G := by rw [hG]; accj_flat
    rw [← hG] at N2 oci2 olm2
    clear N1 oel oci olm hK hlen hks hcf hce hfl hG F7 N8
    have hE0 := hfa.first
    k_steps
    refine ⟨?_⟩
    (rename News _ _ _ _ => N3); (rename Fr _ _ _ _ => F3)
    have N4 : News _ _ _ (ci ++ (lm ++ G)) := kst_newsOf N3 (by accj_flat)
    obtain ⟨m2, hM2, F4⟩ := has_frame (l := [("first", .str x tx), ("second", .str y ty), ("cost", .int cost tc), ("whole", .int (Gf x.length y.length) _)]) F3 (by k_flat)
    have htw : ∃ tw : Tok, Has m2 [("first", .str x tx), ("second", .str y ty), ("cost", .int cost tc), ("whole", .int (Gf x.length y.length) tw)] := ⟨_, hM2⟩
    obtain ⟨tw, hM3⟩ := htw
    clear N3 F3 hM2 hM
    k_dflt (with_unfolding_all refine' For_turns (by k_asm) ?_ ?k3 ?k4; (case k3 => intro _; rfl); (case k4 => passes_own); k_whole)
    k_steps
    refine ⟨?_⟩
    (rename News _ _ _ _ => N5); (rename Fr _ _ _ _ => F5)
    refine range_loopT (n := x.length + 1) (fun i m nx => ∃ ci v, Has m [("first", .str x tx), ("second", .str y ty), ("cost", .int cost tc), ("whole", .int (Gf x.length y.length) tw)] ∧ nx = ci ++ (lm ++ G) ∧ CellAt ci _ v ∧ Off ci (lm ++ G))
      rfl (by assumption) (by lia) (by lia) (by lia) F5 N5 ⟨ci, _, hM3, rfl, Ci, oci2⟩ ?_ ?_
    · clear N5 F5 Ci oci2 hM3
      (try clear N4 F4)
      rintro i t m₁ nx h tk own hi hoff ⟨ci, v, hM, rfl, Ci, oci⟩ F1 N1 TP hTP
      have oci1 : Off ci (lm ++ (G ++ own)) := Off.app (oci.sub (by accj_flat)) (Off.app (oci.sub (by accj_flat)) (hoff.sub (by accj_flat)).symm)
      k_steps
      refine ⟨?_⟩
      k_dflt (refine' cell_put ?F ?N Ci ?ho ?sub ?hc ?_ ?hk ?hx; (case hk => exact rfl); (case hx => exact rfl); (case hc => exact rfl); (case F => k_asm); (case N => k_asm); (case ho => exact oci1); (case sub => accj_flat))
      clear Ci F1 N1
      intro h' ci' F1 N1 Ci oci2
      (try dsimp only)
      k_steps
      refine ⟨?_⟩
      k_dflt (refine LCg.ListComp_U (F₀ := by k_asm) (by with_unfolding_all rfl) (by decide) (by rfl) (by decide) (by rfl) ?_)
      k_steps
      refine ⟨?_⟩
      (rename News _ _ _ _ => N5); (rename Fr _ _ _ _ => F5)
      refine comp_range rfl F5 N5 (by assumption) (by lia) (by lia) rfl fun g => ?_
      refine rest_inv (fun k ys nx => nx = ci' ++ (lm ++ (G ++ own)) ∧ RowIs ys k (fun j => Gf (0 + i) j + Ge (0 + i) j)) ?_ ?_ _ 0 [] _ (Nat.zero_add _) ⟨rfl, row_nil⟩
      · clear N5 F5
        (try clear N1 F1)
        rintro i2 v I oI C oC D m2 h2 tk2 E' ys nx hi2 ⟨tv, rfl⟩ ⟨rfl, hR⟩ hC hx2 F1 N1 off CP hCP
        (try dsimp only)
        k_steps
        (rename News _ _ _ _ => N9); (rename Fr _ _ _ _ => F9)
        refine hCP _ _ <| CEnd.intro F9 N9 ?_ off trivial ⟨rfl, row_snoc hR (by rw [Int.zero_add (i2 : Int)])⟩
        accj_flat
      · rintro ys nx ⟨rfl, hR⟩
        clear N5 F5
        (try clear N1 F1)
        intro D4 h4 tk4 F5 N5 off5
        (try dsimp only)
        k_steps
        refine ⟨?_⟩
        refine min_row (W := Gf x.length y.length) rfl F5 N5 (.head _) hR (by lia) ?_ ?_ ?_
        · intro j hj
          exact hfa.over (0 + i) j (by lia) (by lia) (by lia) (by lia)
        · obtain ⟨j, hj0, hj1, e⟩ := hfa.via (0 + i) (by lia) (by lia)
          exact ⟨j.toNat, by lia, by rw [Int.toNat_of_nonneg hj0]; exact e⟩
        intro h' tm tkm F6 N6
        clear F5 N5 off5 hR
        (try dsimp only)
        k_steps
        refine ⟨?_⟩
        ((rename Fr _ _ _ _ => lF'); (with_unfolding_all refine' For_invVF lF' ?k1 ?k2 ?_ ?k3 ?k4; (case k1 => exact rfl); (case k2 => exact rfl); (case k3 => intro _; rfl); (case k4 => passes_own); k_whole))
        k_steps
        refine ⟨?_⟩
        (rename News _ _ _ _ => N7); (rename Fr _ _ _ _ => F7)
        refine range_loop (n := y.length + 1) (fun j m nx => Has m [("first", .str x tx), ("second", .str y ty), ("cost", .int cost tc), ("whole", .int (Gf x.length y.length) tw)] ∧ nx = ci' ++ (lm ++ (G ++ own)))
          rfl (by assumption) (by lia) (by lia) (by lia) F7 (kst_newsOf N7 (by accj_flat)) ⟨hM, rfl⟩ ?_ ?_
        · clear N7 F7 hM
          (try clear F6 N6)
          rintro j tj m₂ nx h2 tk2 own2 hj hoffI ⟨hM, rfl⟩ F1 N1 TP hTP
          k_steps
          refine ⟨?_⟩
          k_dflt (with_unfolding_all refine' For_turns (by k_asm) ?_ ?k3 ?k4; (case k3 => intro _; rfl); (case k4 => passes_own); k_whole)
          k_steps
          refine ⟨?_⟩
          (rename News _ _ _ _ => N3); (rename Fr _ _ _ _ => F3); (rename _ < _ ∧ _ < _ ∧ AllLt _ _ => hlt)
          obtain ⟨ol, hT, N4⟩ := others_pack N3 hlt.1 hlt.2.1
          refine tl_loop still_name (fun k m nx => Has m (("j", .int (0 + j) tj) :: [("first", .str x tx), ("second", .str y ty), ("cost", .int cost tc), ("whole", .int (Gf x.length y.length) tw)]) ∧ nx = ol ++ ((ci' ++ (lm ++ (G ++ own))) ++ own2)) rfl hT F3 N4 ⟨Has.cons (by cell_eq) (by k_tabat), rfl⟩ ?_ ?_ ?_
          · rintro _ _ _ ⟨_, rfl⟩
            exact fun p hp => List.mem_append_left _ hp
          · clear N3 F3 N4 hM hlt
            (try clear F1 N1)
            rintro k a b r t0 u0 n0 m₃ nx h3 tk3 own3 hk hoff3 ⟨hM, rfl⟩ F1 N1 TP hTP
            have hab := two_pairs hk
            simp only [Prod.mk.injEq] at hab
            by_cases hin : (a, b) ∈ ks
            · have hg := (hfull.iff a b).mp hin
              have hb : -1 ≤ Ge (0 + i) (0 + j) - Ge a b ∧ Ge (0 + i) (0 + j) - Ge a b ≤ 1 := by
                rcases hab with ⟨rfl, rfl⟩ | ⟨rfl, rfl⟩
                · exact (hfa.row (0 + i) (0 + j) (by lia) (by lia)).symm
                · exact (hfa.col (0 + i) (0 + j) (by lia) (by lia)).symm
              clear hk hab
              k_steps
              refine hTP _ ?_
              (try dsimp only)
              (rename News _ _ _ _ => N6); (rename Fr _ _ _ _ => F6)
              exact TurnEnd.intro F6 N6 (nx := ol ++ ((ci' ++ (lm ++ (G ++ own))) ++ own2)) (by accj_flat) (by accj_flat) hoff3 ⟨by k_tabat, rfl⟩
            · clear hk hab
              k_steps
              refine hTP _ ?_
              (try dsimp only)
              (rename News _ _ _ _ => N6); (rename Fr _ _ _ _ => F6)
              exact TurnEnd.intro F6 N6 (nx := ol ++ ((ci' ++ (lm ++ (G ++ own))) ++ own2)) (by accj_flat) (by accj_flat) hoff3 ⟨by k_tabat, rfl⟩
          · clear N3 F3 N4 hM hlt
            (try clear F1 N1)
            rintro m₃ nx h3 tk3 ⟨hM, rfl⟩ F1 N1
            (try dsimp only)
            k_steps
            refine hTP _ ?_
            (try dsimp only)
            (rename News _ _ _ _ => N6); (rename Fr _ _ _ _ => F6)
            exact TurnEnd.intro F6 N6 (nx := ci' ++ (lm ++ (G ++ own))) (by accj_flat) (by accj_flat) hoffI ⟨hM.tail, rfl⟩
        · clear N7 F7 hM
          (try clear F6 N6)
          rintro m₂ nx h2 tk2 ⟨hM, rfl⟩ F1 N1
          (try dsimp only)
          k_steps
          refine hTP _ ?_
          (try dsimp only)
          (rename News _ _ _ _ => N6); (rename Fr _ _ _ _ => F6)
          exact TurnEnd.intro F6 N6 (nx := ci' ++ (lm ++ G)) (by accj_flat) (by accj_flat) (Off.app (oci2.sub (by accj_flat)).symm (hoff.sub (by accj_flat))) ⟨ci', _, hM, rfl, Ci, oci2.sub (by accj_flat)⟩
    · clear N5 F5 Ci oci2 hM3
      (try clear N4 F4)
      rintro m₁ nx h tk ⟨ci, v, hM, rfl, Ci, oci⟩ F1 N1
      (try dsimp only)
      k_steps
      refine ⟨?_⟩
      (rename News _ _ _ _ => N2)
      have N3 : News _ _ _ (lm ++ (ci ++ G)) := kst_newsOf N2 (by accj_flat)
      have olm3 : Off lm (ci ++ G) := Off.app (oci.sub (by accj_flat)).symm olm2
      clear N2
      k_dflt (refine' align_spec ?B ?F ?X ?N ?T ?hk ?hx ?hy ?hlm ?hor ?hcd ?hd ?hu ?hc0 ?hc1 ?_; cell_enter; (case hx => lia); (case hy => lia); (case hlm => exact .inl hlm); (case hor => exact olm3); (case hcd => assumption); (case hc0 => lia); (case hc1 => lia))
      intro h' tk' S pl lm' ps F3 N4 hT opl hlm' olm' hP
      have hW := way_facts hP
      rw [← hGf, ← hGe] at hW
      have hz := hW.zero
      have hw0 := hW.first
      have hwl := hW.last
      have hlen0 := hW.len0
      have hlen1 := hW.len
      obtain ⟨pso, h52⟩ := lam_mem hlm'
      have oci3 : Off ci (lm' ++ (pl ++ G)) := Off.app (olm'.sub (by accj_flat)).symm (Off.app (opl.sub (by accj_flat)).symm (oci.sub (by accj_flat)))
      clear N3 olm3 opl olm' hP hGf hGe hlm olm2 oci
      (try dsimp only)
      k_steps
      refine ⟨?_⟩
      (rename News _ _ _ _ => N5); (rename Fr _ _ _ _ => F5)
      have N6 : News _ _ _ (ci ++ (lm' ++ (pl ++ G))) := kst_newsOf N5 (by accj_flat)
      obtain ⟨m3, hM3, F6⟩ := has_frame (l := (("points", .ref S) :: ("spent", .int 0 _) :: [("first", .str x tx), ("second", .str y ty), ("cost", .int cost tc), ("whole", .int (Gf x.length y.length) tw)])) F5 (by k_flat)
      clear N5 F5 hM
      ((rename Fr _ _ _ _ => lF'); (with_unfolding_all refine' For_invVF lF' ?k1 ?k2 ?_ ?k3 ?k4; (case k1 => exact rfl); (case k2 => exact rfl); (case k3 => intro _; rfl); (case k4 => passes_own); k_whole))
      k_steps
      refine ⟨?_⟩
      (k_dflt (refine' call_len_tl ?y2N ?y2C ?y2sub ?y2a ?_; (case y2N => k_asm); (case y2C => with_reducible assumption); (case y2sub => accj_flat); (case y2a => lia); k_whole; intro t9; (try dsimp only)))
      k_steps
      refine ⟨?_⟩
      (rename News _ _ _ _ => N7); (rename Fr _ _ _ _ => F7)
      refine range_loop (n := ps.length) (fun k m nx => ∃ ci v sp tsp, Has m (("points", .ref S) :: ("spent", .int sp tsp) :: [("first", .str x tx), ("second", .str y ty), ("cost", .int cost tc), ("whole", .int (Gf x.length y.length) tw)]) ∧ nx = ci ++ (lm' ++ (pl ++ G)) ∧ CellAt ci _ v ∧ Off ci (lm' ++ (pl ++ G)) ∧ SpentIs Gf ps k sp)
        rfl (by assumption) (by lia) (by lia) (by lia) F7 N7 ⟨ci, _, _, _, hM3, rfl, Ci, oci3, spent_zero⟩ ?_ ?_
      · clear N7 F7 hM3 Ci oci3
        (try clear N6 F6)
        rintro k tk0 m₂ nx h2 tk2 own hk hoff ⟨ci, v, sp, tsp, hM, rfl, Ci, oci, hsp⟩ F1 N1 TP hTP
        have hq : ∃ p, ps[k]? = some p := ⟨_, List.getElem?_eq_getElem hk⟩
        obtain ⟨⟨a, b⟩, hab⟩ := hq
        obtain ⟨hax, hby, ha0, hb0, hend⟩ := hW.pt k a b hab
        have hidx : ps[(0 + (k : Int)).toNat]? = some (a, b) := by rw [show (0 + (k : Int)).toNat = k by lia]; exact hab
        have oci1 : Off ci (lm' ++ (pl ++ (G ++ own))) := Off.app (oci.sub (by accj_flat)) (Off.app (oci.sub (by accj_flat)) (Off.app (oci.sub (by accj_flat)) (hoff.sub (by accj_flat)).symm))
        by_cases hk0 : k = 0
        · have hs0 := hsp.1 hk0
          have hf : Gf a b = 0 := by
            subst hk0
            have e : ps[0]? = some ((0 : Int), (0 : Int)) := hw0
            rw [hab] at e
            cases e
            exact hz
          clear hsp hw0 hwl hz
          k_steps
          refine ⟨?_⟩
          k_dflt (refine' cell_put ?F ?N Ci ?ho ?sub ?hc ?_ ?hk ?hx; (case hk => exact rfl); (case hx => exact rfl); (case hc => exact rfl); (case F => k_asm); (case N => k_asm); (case ho => exact oci1); (case sub => accj_flat))
          clear Ci
          intro h' ci' F1 N1 Ci oci2
          (try dsimp only)
          k_steps
          (rename News _ _ _ _ => N9); (rename Fr _ _ _ _ => F9)
          refine hTP _ ?_
          (try dsimp only)
          exact TurnEnd.intro F9 N9 (nx := ci' ++ (lm' ++ (pl ++ G))) (by accj_flat) (by accj_flat) (Off.app (oci2.sub (by accj_flat)).symm (hoff.sub (by accj_flat))) ⟨ci', _, _, _, by k_flat, rfl, Ci, oci2.sub (by accj_flat), spent_next hab (by lia)⟩
        · have hpq : ∃ r, ps[k - 1]? = some r := ⟨_, List.getElem?_eq_getElem (by lia)⟩
          obtain ⟨⟨p, q⟩, hpq⟩ := hpq
          have hidx2 : ps[(0 + (k : Int) - 1).toNat]? = some (p, q) := by rw [show (0 + (k : Int) - 1).toNat = k - 1 by lia]; exact hpq
          have hs1 := hsp.2 (k - 1) p q (by lia) hpq
          have hst := hW.step (k - 1) p q a b hpq (by rw [show k - 1 + 1 = k by lia]; exact hab)
          obtain ⟨_, _, hp0, hq0, _⟩ := hW.pt (k - 1) p q hpq
          clear hsp hw0 hwl hz hpq
          k_steps
          refine ⟨?_⟩
          k_dflt (refine' cell_put ?F ?N Ci ?ho ?sub ?hc ?_ ?hk ?hx; (case hk => exact rfl); (case hx => exact rfl); (case hc => exact rfl); (case F => k_asm); (case N => k_asm); (case ho => exact oci1); (case sub => accj_flat))
          clear Ci
          intro h' ci' F1 N1 Ci oci2
          (try dsimp only)
          k_steps
          refine ⟨?_⟩
          (rename News _ _ _ _ => N8)
          k_dflt (refine step_notin N8 (by k_memK) (by k_memK) (by k_memK) (by k_memK) (by k_memK) (by ktr_units) (by lia) ?_)
          rcases hst with ⟨rfl, rfl, hq, hg⟩ | ⟨rfl, rfl, hq, hg⟩ | ⟨hpq9, hg⟩
          all_goals k_steps
          all_goals (
            (rename News _ _ _ _ => N9); (rename Fr _ _ _ _ => F9)
            refine hTP _ ?_
            (try dsimp only)
            exact TurnEnd.intro F9 N9 (nx := ci' ++ (lm' ++ (pl ++ G))) (by accj_flat) (by accj_flat) (Off.app (oci2.sub (by accj_flat)).symm (hoff.sub (by accj_flat))) ⟨ci', _, _, _, by k_flat, rfl, Ci, oci2.sub (by accj_flat), spent_next hab (by lia)⟩)
      · clear N7 F7 hM3 Ci oci3
        (try clear N6 F6)
        rintro m₂ nx h2 tk2 ⟨ci, v, sp, tsp, hM, rfl, Ci, oci, hsp⟩ F1 N1
        (try dsimp only)
        clear hsp hW hwl hw0 hlen0 hlen1 hT
        subst hGP
        k_steps)
end

end
end
end Mine

theorem PySem.Challenge.cw_be0026_01_holds : PySem.Challenge.rw_be0026_01.Holds :=
  Mine.law_holds

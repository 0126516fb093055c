import PyProof.Rows.All
import Wide.All
import OpenK.AllK
import Wide.FinOn
import PySem.Challenge.RW_mq0328_01
open PySem PySem.W PyProof.Rows PySem.Calls
set_option Elab.async false
namespace Mine
set_option maxRecDepth 100000 in
set_option maxHeartbeats 8000000 in
open_top hd for PySem.Challenge.rw_mq0328_01
set_option autoImplicit false
set_option maxRecDepth 100000
set_option maxHeartbeats 8000000
section
-- plain
def isF (_ : Params → Frag) (_ : OpenLaw) : Prop := True

noncomputable abbrev sortD (w : World) (t1 t2 t3 t4 : Tok) (d : Addr) (rd : Value) (np nf : Value) : Obj :=
  dictOf [⟨PyData.keyHash w.params (Str.ofString "_node2info"), .str (Str.ofString "_node2info") t1, .ref d⟩,
    ⟨PyData.keyHash w.params (Str.ofString "_ready_nodes"), .str (Str.ofString "_ready_nodes") t2, rd⟩,
    ⟨PyData.keyHash w.params (Str.ofString "_npassedout"), .str (Str.ofString "_npassedout") t3, np⟩,
    ⟨PyData.keyHash w.params (Str.ofString "_nfinished"), .str (Str.ofString "_nfinished") t4, nf⟩] 4
noncomputable abbrev infoO (dn si : Addr) (np : Int) (nt : Tok) (key : Str) (kt : Tok) : Obj := ⟨.ref 40, some dn, .plain, #[some (.str key kt), some (.int np nt), some (.ref si)]⟩

theorem News.sub {h₀ h : Heap} {L : Addr} {l l' : List (Addr × Obj)} (N : News h₀ L h l) (hs : ∀ p ∈ l', p ∈ l) : News h₀ L h l' := fun p hp => N p (hs p hp)

theorem newsCons {h₀ h : Heap} {L : Addr} {all l : List (Addr × Obj)} {p : Addr × Obj} (N : News h₀ L h all) (hm : p ∈ all) (N' : News h₀ L h l) : News h₀ L h (p :: l) := fun q hq => by
  rcases List.mem_cons.mp hq with rfl | hq
  · exact N _ hm
  · exact N' q hq
theorem newsRest {h₀ h : Heap} {L : Addr} {all l : List (Addr × Obj)} (N : News h₀ L h all) (hs : l <:+ all) : News h₀ L h l := fun q hq => N q (hs.subset hq)
theorem sufR {α : Type} {a : α} {t l : List α} (h : t <:+ l) : t <:+ a :: l := h.trans (List.suffix_cons a l)
theorem sufLt {l t : List (Addr × Obj)} {d : Nat} (h : ∀ p ∈ l, p.1 < d) (hs : t <:+ l) : ∀ p ∈ t, p.1 < d := fun p hp => h p (hs.subset hp)
theorem probe {l t : List (Addr × Obj)} {d e : Nat} (_ : ∀ p ∈ l, p.1 < d) (_ : t <:+ l) (_ : ∀ p ∈ t, p.1 < e) : True := trivial
theorem restNe {t : List (Addr × Obj)} {d x : Nat} (h : ∀ p ∈ t, p.1 < d) (hx : d ≤ x) : ∀ p ∈ t, p.1 ≠ x := fun p hp e => by
  have q := h p hp
  exact absurd (e ▸ q : x < d) (Nat.not_lt.mpr hx)

theorem stored_new {K : Type} [DecidableEq K] (kvs : List (K × Value)) (k : K) (v : Value) (h : valueAt kvs k = none) : stored kvs k v = kvs ++ [(k, v)] := by
  unfold stored
  unfold valueAt at h
  rw [Option.map_eq_none_iff, List.find?_eq_none] at h
  rw [if_neg]
  intro q
  obtain ⟨x, hx, e⟩ := List.any_eq_true.mp q
  exact h x hx e

/-- what stands around a call -/
structure Cx (w : World) (mean : ExcName → Option Value) (mg mb : Str → Option Value) (dp un : Nat) (cs : Scope) (outer : List Env) (A₀ : Around) (base h₀ : Heap) : Prop where
  B : Below A₀ base outer h₀
  X : (hd.heap_39 w.params).In h₀
  T : Top hd.view_39 (looseW hd.view_39 [Str.ofString "_NodeInfo"]) mean mg mb h₀
  hk : cs.kind = .function
  hdp : dp + 40 < recursionLimit
  hu : un + 400 < cLine

theorem leN {a b : Nat} (h : a ≤ b) : a ≤ b := h
theorem frM {h₀ h : Heap} {L : Addr} {m : Str → Option Value} (F : Fr h₀ L h m) : ∃ m', m' = m ∧ Fr h₀ L h m' := ⟨m, rfl, F⟩
/-- a node of the graph: its key, the addresses of its record, the record's dict and its list, what the record holds -/
structure Nd where
  key : Str
  kt : Tok
  a : Addr
  d : Addr
  s : Addr
  np : Int
  nt : Tok
  su : List Value
  ep : Nat
noncomputable abbrev Nd.info (nd : Nd) : Obj := infoO nd.d nd.s nd.np nd.nt nd.key nd.kt
noncomputable abbrev Nd.lst (nd : Nd) : Obj := W.listOf nd.su.toArray nd.ep
noncomputable def Nd.led (nd : Nd) : List (Addr × Obj) := [(nd.a, nd.info), (nd.d, dictOf [] 0), (nd.s, nd.lst)]
noncomputable def ledN (ns : List Nd) : List (Addr × Obj) := ns.flatMap Nd.led
noncomputable def kvsN (ns : List Nd) : List (Str × Value) := ns.map fun nd => (nd.key, Value.ref nd.a)
noncomputable def Nd.held (nd : Nd) : Bool := nd.su.any (·.isStr nd.key)

theorem vOne_self {k : Str} {v : Value} : (valueAt [(k, v)] k).isSome = true := by simp [valueAt]
theorem vOne_ne {k s : Str} {v : Value} (h : k ≠ s) : (valueAt [(k, v)] s).isSome = false := by simp [valueAt, h]
theorem vOne_none {k s : Str} {v : Value} (h : k ≠ s) : valueAt [(k, v)] s = none := by simp [valueAt, h]
theorem ledN_mem {ns : List Nd} {nd : Nd} (h : nd ∈ ns) {p : Addr × Obj} (hp : p ∈ nd.led) : p ∈ ledN ns := List.mem_flatMap.mpr ⟨nd, h, hp⟩
theorem kvsN_at {ns : List Nd} (hnd : (ns.map (·.key)).Nodup) {nd : Nd} (h : nd ∈ ns) : valueAt (kvsN ns) nd.key = some (.ref nd.a) := by
  obtain ⟨i, hi, e⟩ := List.mem_iff_getElem.mp h
  refine valueAt_of_get (i := i) ?_ ?_
  · have : (kvsN ns).map (·.1) = ns.map (·.key) := by simp [kvsN, List.map_map, Function.comp_def]
    rw [this]; exact hnd
  · simp [kvsN, hi, e]
theorem kvsN_get {ns : List Nd} {i : Nat} {k : Str} {u : Value} (h : (kvsN ns)[i]? = some (k, u)) : ∃ nd, ns[i]? = some nd ∧ nd ∈ ns ∧ k = nd.key ∧ u = .ref nd.a := by
  simp only [kvsN, List.getElem?_map, Option.map_eq_some_iff] at h
  obtain ⟨nd, h1, h2⟩ := h
  exact ⟨nd, h1, List.mem_of_getElem? h1, (Prod.mk.inj h2).1.symm, (Prod.mk.inj h2).2.symm⟩
/-- the pair at a place of the nodes' dict -/
inductive KvAt (ns : List Nd) (i : Nat) : Str → Value → Prop
  | mk (nd : Nd) (hi : ns[i]? = some nd) (hm : nd ∈ ns) : KvAt ns i nd.key (.ref nd.a)
theorem kvAt {ns : List Nd} {i : Nat} {k : Str} {u : Value} (h : (kvsN ns)[i]? = some (k, u)) : KvAt ns i k u := by
  obtain ⟨nd, h1, h2, rfl, rfl⟩ := kvsN_get h
  exact ⟨nd, h1, h2⟩
inductive SuAt (ns : List Nd) (nd : Nd) : Value → Prop
  | mk (nd' : Nd) (hm : nd' ∈ ns) (t : Tok) (hl : nd'.key = nd.key ∨ nd'.su = []) : SuAt ns nd (.str nd'.key t)
theorem suAt {ns : List Nd} {nd : Nd} {v : Value} (h : ∃ nd' ∈ ns, ∃ t, v = .str nd'.key t ∧ (nd'.key = nd.key ∨ nd'.su = [])) : SuAt ns nd v := by
  obtain ⟨nd', h1, t, rfl, h2⟩ := h
  exact ⟨nd', h1, t, h2⟩
theorem frMK {h₀ h : Heap} {L : Addr} {m : Str → Option Value} {G : Prop} (F : Fr h₀ L h m) (k : ∀ m', m' = m → Fr h₀ L h m' → G) : G := k m rfl F
theorem frTo {h₀ h : Heap} {L : Addr} {m m' : Str → Option Value} (F : Fr h₀ L h m) (e : m = m') : Fr h₀ L h m' := e ▸ F
theorem newsTo {h₀ h : Heap} {L : Addr} {l l' : List (Addr × Obj)} (N : News h₀ L h l) (e : l = l') : News h₀ L h l' := e ▸ N
theorem newsTo1 {h₀ h : Heap} {L : Addr} {p : Addr × Obj} {l l' : List (Addr × Obj)} (N : News h₀ L h (p :: l)) (e : l = l') : News h₀ L h (p :: l') := e ▸ N
theorem byHid (G : Prop) (h : ∀ G' : Prop, (G → G') → G') : G := h G id
theorem restUp {frs frs' : List (Addr × Obj)} {r0 : List (Addr × Obj)} {b : Nat} (ea : frs'.map (·.1) = frs.map (·.1)) (hR : ∀ p ∈ r0 ++ frs, p.1 < b) : ∀ p ∈ r0 ++ frs', p.1 < b := fun p hp => by
  rcases List.mem_append.mp hp with hp | hp
  · exact hR p (List.mem_append_left _ hp)
  · have : p.1 ∈ frs.map (·.1) := by rw [← ea]; exact List.mem_map_of_mem hp
    obtain ⟨q, hq, e⟩ := List.mem_map.mp this
    exact e ▸ hR q (List.mem_append_right _ hq)
section
variable {prog : Program} {w : World} {A : Around} {E : Value → Shared → Prop} {s : Shared} {h₀ : Heap} {L sa : Addr} {news : List (Addr × Obj)} {g : Obj → List (Addr × Obj)} {so : Obj} {S : Str → Bool} {n : Nat} {k : Str} {t : Tok}
theorem set_in_b {Q : Value → Shared → Prop} (N : News h₀ L s.heap news) (U : UpdF sa so news g) (hso : so.SetObjOf (strKind prog w) S n) (hb : n < scanBound) (b : Bool) (hS : S k = b) (h : Q (.bool b) { s with toks := s.toks + 1 }) :
    wpAny (model prog w) A (compareOp .In (.str k t) (.ref sa)) Q E s := kse_in N U hso hb (strKind_is _ _ _ _) rfl (by rw [hS]; exact h)
end

theorem vTwo_self {k s : Str} {v u : Value} : (valueAt [(k, v), (s, u)] s).isSome = true := by
  by_cases h : k = s <;> simp [valueAt, h]
theorem wOne {k : Str} {v : Value} : without [(k, v)] k = [] := by simp [without]
theorem wTwo {k s : Str} {v u : Value} (h : k ≠ s) : without [(k, v), (s, u)] s = [(k, v)] := by simp [without, h]
theorem updU {k : Str} {a b : Option Value} {f : Str → Option Value} : (fun y => if y = k then a else if y = k then b else f y) = fun y => if y = k then a else f y := by
  funext y
  by_cases h : y = k <;> simp [h]
def Parked (p : Prop) : Prop := p
theorem parked {p : Prop} (h : Parked p) : p := h
theorem unrEnd' {h₀ : Heap} {L I : Addr} {it : Obj} {rest : (Str → Option Value) → List (Addr × Obj) → Prop} {s₁ : Shared} {h' : Heap} {tk : Nat} {m' : Str → Option Value} {news' : List (Addr × Obj)} (F : Fr h₀ L h' m') (N : News h₀ L h' ((I, it) :: news'))
    (off : ∀ p ∈ news', p.1 ≠ I) (r : rest m' news') : UnrEnd h₀ L s₁ I it rest { s₁ with heap := h', toks := tk } := ⟨h', tk, m', news', rfl, F, N, off, r⟩
theorem byInd {ι : Type} {P : Shared → Prop} (St : ι → Shared → Prop) (μ : ι → Nat) (step : ∀ i s, St i s → (∀ i' s', μ i' < μ i → St i' s' → P s') → P s) (i : ι) (s : Shared) (h : St i s) : P s := by
  have all : ∀ n, ∀ i s, μ i < n → St i s → P s := by
    intro n
    induction n with
    | zero => intro i s h; exact absurd h (Nat.not_lt_zero _)
    | succ n ih => exact fun i s h hs => step i s hs fun i' s' h' hs' => ih i' s' (Nat.lt_of_lt_of_le h' (Nat.le_of_lt_succ h)) hs'
  exact all _ i s (Nat.lt_succ_self _) h
theorem toArr_none {vs : List Value} {i : Nat} : vs.toArray[i]? = none ↔ vs.length ≤ i := by simp
theorem toArr_some {vs : List Value} {i : Nat} {v : Value} (h : vs.toArray[i]? = some v) : v ∈ vs ∧ i < vs.length := by
  have h' : vs[i]? = some v := by simpa using h
  exact ⟨List.mem_of_getElem? h', (List.getElem?_eq_some_iff.mp h').1⟩

theorem stored_nil {k : Str} {v : Value} : stored [] k v = [(k, v)] := rfl
theorem stored_one {k s : Str} {v u : Value} (h : k ≠ s) : stored [(k, v)] s u = [(k, v), (s, u)] := by
  rw [stored_new _ _ _ (vOne_none h)]; rfl

noncomputable def firstHeld (ns : List Nd) : Option Str := (ns.find? (·.held)).map (·.key)
theorem firstHeld_none {ns : List Nd} (h : ∀ nd ∈ ns, nd.held = false) : firstHeld ns = none := by
  unfold firstHeld
  rw [List.find?_eq_none.mpr (fun nd hnd => by rw [h nd hnd]; exact Bool.false_ne_true)]; rfl
theorem firstHeld_at {ns : List Nd} {i : Nat} {nd : Nd} (hi : ns[i]? = some nd) (hb : ∀ j < i, ∀ nd', ns[j]? = some nd' → nd'.held = false) (hh : nd.held = true) : firstHeld ns = some nd.key := by
  unfold firstHeld
  obtain ⟨hlt, e⟩ := List.getElem?_eq_some_iff.mp hi
  rw [List.find?_eq_some_iff_getElem.mpr ⟨hh, i, hlt, e, fun j hj => by
    have := hb j hj _ (List.getElem?_eq_getElem (Nat.lt_trans hj hlt))
    simp [this]⟩]; rfl
theorem held_of_all {nd : Nd} (h : ∀ (j : Nat) (v : Value), nd.su.toArray[j]? = some v → v.isStr nd.key = false) : nd.held = false := by
  unfold Nd.held
  rw [List.any_eq_false]
  intro v hv
  obtain ⟨j, hj, e⟩ := List.mem_iff_getElem.mp hv
  have := h j v (by simp [hj, e])
  simp [this]
theorem held_of_one {nd : Nd} {j : Nat} {t : Tok} (h : nd.su.toArray[j]? = some (.str nd.key t)) : nd.held = true := by
  unfold Nd.held
  rw [List.any_eq_true]
  exact ⟨_, (toArr_some h).1, by simp [Value.isStr]⟩
theorem nodup_key {ns : List Nd} (hnd : (ns.map (·.key)).Nodup) {i j : Nat} {a b : Nd} (hi : ns[i]? = some a) (hj : ns[j]? = some b) (hne : j ≠ i) : b.key ≠ a.key := by
  intro e
  have h1 : (ns.map (·.key))[i]? = some a.key := by simp [hi]
  have h2 : (ns.map (·.key))[j]? = some a.key := by simp [hj, e]
  obtain ⟨x1, y1⟩ := List.getElem?_eq_some_iff.mp h1
  obtain ⟨x2, y2⟩ := List.getElem?_eq_some_iff.mp h2
  have P := List.pairwise_iff_getElem.mp hnd
  rcases Nat.lt_trichotomy j i with z | z | z
  · exact P j i x2 x1 z (y2.trans y1.symm)
  · exact hne z
  · exact P i j x1 x2 z (y1.trans y2.symm)
theorem isStr_ne {k v : Str} {t : Tok} (h : k ≠ v) : (Value.str v t).isStr k = false := by
  simp [Value.isStr]; exact fun e => h e.symm

theorem key_inj {ns : List Nd} (hnd : (ns.map (·.key)).Nodup) {a b : Nd} (ha : a ∈ ns) (hb : b ∈ ns) (e : b.key = a.key) : b = a := by
  obtain ⟨i, hi, ei⟩ := List.mem_iff_getElem.mp ha
  obtain ⟨j, hj, ej⟩ := List.mem_iff_getElem.mp hb
  have hi' : ns[i]? = some a := by rw [List.getElem?_eq_getElem hi, ei]
  have hj' : ns[j]? = some b := by rw [List.getElem?_eq_getElem hj, ej]
  by_cases h : j = i
  · subst h; rw [hi'] at hj'; exact (Option.some.inj hj').symm
  · exact absurd e (nodup_key hnd hi' hj' h)
theorem selfSucc {su : List Value} {k v : Str} {t : Tok} {j : Nat} (hs : ∀ j' < j, ∀ u, su.toArray[j']? = some u → u.isStr k = false) (hv : su.toArray[j]? = some (.str v t)) (h : ¬ k = v) :
    ∀ j' < j + 1, ∀ u, su.toArray[j']? = some u → u.isStr k = false := fun j' hj' u hu => by
  rcases Nat.lt_succ_iff_lt_or_eq.mp hj' with z | z
  · exact hs j' z u hu
  · subst z; rw [hv] at hu; cases hu; exact isStr_ne h
theorem held_end {nd : Nd} {j : Nat} (hs : ∀ j' < j, ∀ u, nd.su.toArray[j']? = some u → u.isStr nd.key = false) (hn : nd.su.toArray[j]? = none) : nd.held = false :=
  held_of_all fun j' v hv => hs j' (by rw [toArr_none] at hn; have := (toArr_some hv).2; omega) v hv
theorem held_leaf {nd : Nd} (hn : nd.su.toArray[0]? = none) : nd.held = false := held_end (j := 0) (fun j' h => absurd h (Nat.not_lt_zero _)) hn
theorem seenSucc {ns : List Nd} {i : Nat} {nd : Nd} {S : Str → Bool} (hi : ns[i]? = some nd) (h : ∀ j < i, ∀ nd, ns[j]? = some nd → S nd.key = true) (hk : S nd.key = true) : ∀ j < i + 1, ∀ nd, ns[j]? = some nd → S nd.key = true := fun j hj nd' hnd' => by
  rcases Nat.lt_succ_iff_lt_or_eq.mp hj with z | z
  · exact h j z nd' hnd'
  · subst z; rw [hi] at hnd'; cases hnd'; exact hk
theorem heldJoin {ns : List Nd} (hnd : (ns.map (·.key)).Nodup) {nd : Nd} (hm : nd ∈ ns) {S : Str → Bool} (h : ∀ nd' ∈ ns, S nd'.key = true → nd'.key ≠ nd.key → nd'.held = false) (hh : nd.held = false) : ∀ nd' ∈ ns, S nd'.key = true → nd'.held = false := fun nd' hn hs => by
  by_cases e : nd'.key = nd.key
  · rw [key_inj hnd hm hn e]; exact hh
  · exact h nd' hn hs e
theorem heldMore {ns : List Nd} (hnd : (ns.map (·.key)).Nodup) {k : Str} {nd1 : Nd} (hm : nd1 ∈ ns) {S : Str → Bool} (h : ∀ nd' ∈ ns, S nd'.key = true → nd'.key ≠ k → nd'.held = false) (hh : nd1.held = false) :
    ∀ nd' ∈ ns, (S nd'.key || decide (nd'.key = nd1.key)) = true → nd'.key ≠ k → nd'.held = false := fun nd' hn hs hk => by
  by_cases e : nd'.key = nd1.key
  · rw [key_inj hnd hm hn e]; exact hh
  · exact h nd' hn (by simpa [e] using hs) hk
theorem seenMore {ns : List Nd} {i : Nat} {S T : Str → Bool} (h : ∀ j < i, ∀ nd, ns[j]? = some nd → S nd.key = true) : ∀ j < i, ∀ nd, ns[j]? = some nd → (S nd.key || T nd.key) = true := fun j hj nd hn => by rw [h j hj nd hn]; rfl
theorem vOne_get {k : Str} {v : Value} : valueAt [(k, v)] k = some v := by simp [valueAt]
theorem noneHeld {ns : List Nd} {S : Str → Bool} (h : ∀ j < (kvsN ns).length, ∀ nd, ns[j]? = some nd → S nd.key = true) (hh : ∀ nd ∈ ns, S nd.key = true → nd.held = false) : firstHeld ns = none := firstHeld_none fun nd hn => by
  obtain ⟨i, hi, e⟩ := List.mem_iff_getElem.mp hn
  exact hh nd hn (h i (by simpa [kvsN] using hi) nd (by rw [List.getElem?_eq_getElem hi, e]))
theorem heldBefore {ns : List Nd} (hnd : (ns.map (·.key)).Nodup) {i : Nat} {nd : Nd} (hi : ns[i]? = some nd) {S : Str → Bool} (h : ∀ j < i, ∀ nd, ns[j]? = some nd → S nd.key = true) (hh : ∀ nd' ∈ ns, S nd'.key = true → nd'.key ≠ nd.key → nd'.held = false) :
    ∀ j < i, ∀ nd', ns[j]? = some nd' → nd'.held = false := fun j hj nd' hn => hh nd' (List.mem_of_getElem? hn) (h j hj nd' hn) (nodup_key hnd hi hn (Nat.ne_of_lt hj))
theorem subC {a : Addr × Obj} {l l' : List (Addr × Obj)} (h : a ∈ l') (t : ∀ p ∈ l, p ∈ l') : ∀ p ∈ a :: l, p ∈ l' := fun p hp => (List.mem_cons.mp hp).elim (fun e => e ▸ h) (t p)
theorem subA {l1 l2 l' : List (Addr × Obj)} (h : ∀ p ∈ l1, p ∈ l') (t : ∀ p ∈ l2, p ∈ l') : ∀ p ∈ l1 ++ l2, p ∈ l' := fun p hp => (List.mem_append.mp hp).elim (h p) (t p)
end
section
-- plain
section
variable {prog : Program} {w : World} {A : Around} {E : Value → Shared → Prop} {s : Shared} {env : Env} {h₀ : Heap} {target : PySem.Expr} {body : List Stmt} {Q : Flow → Shared → Prop}

theorem turns_inv {I ax : Addr} {lo : Obj} {n : Nat} {T : String} {P : Nat → Value → Prop} {St : Nat → Heap → Prop} {m₀ : Str → Option Value} {news : List (Addr × Obj)} {hp : Heap} {tk0 : Nat}
    (W : KTurns prog w A target I [I, ax] [I] n (fun i v _ => P i v) (fun i v h => P i v ∧ St (i + 1) h) St)
    (hobj : ∀ i h, St i h → ∃ o, h.get? I = some o ∧ o.cls = .type T)
    (hI : h₀.get? I = none) (hLI : env.locals ≠ I) (hLax : env.locals ≠ ax) (hnw : ∀ p ∈ news, p.1 ≠ I) (hst : St 0 hp)
    (F : Fr h₀ env.locals hp m₀) (N : News h₀ env.locals hp news)
    (J : Nat → (Str → Option Value) → List (Addr × Obj) → Prop) (hJ : ∀ i m l, J i m l → (ax, lo) ∈ l) (h0 : J 0 m₀ news)
    (step : ∀ oI i v m₁ news₁ h₁ tk₁, i < n → P i v → J i m₁ news₁ → (∀ p ∈ news₁, p.1 ≠ I) → oI.cls = .type T → Fr h₀ env.locals h₁ m₁ → News h₀ env.locals h₁ ((I, oI) :: news₁) →
      wpAny (model prog w) A (assign target env v) (fun _ s₃ => wpAny (model prog w) A (execs body env) (UnrPost h₀ env.locals { s with heap := h₁, toks := tk₁ } I oI (J (i + 1)) Q) E s₃) E { s with heap := h₁, toks := tk₁ })
    (fin : ∀ h' tk m' news', Fr h₀ env.locals h' m' → News h₀ env.locals h' news' → J n m' news' → Q .next { s with heap := h', toks := tk }) :
    TurnsAt prog w A h₀ env target body Q E (.ref I) { s with heap := hp, toks := tk0 } := by
  refine ⟨I, [I, ax], [I], n, _, _, St, m₀, news, J, rfl, W, ?_, ?_, ?_, hst, F, N, h0, ?_, ?_⟩
  · intro h
    rcases List.mem_cons.mp h with e | h
    · exact hLI e
    · exact hLax (List.mem_singleton.mp h)
  · intro b hb
    rw [List.mem_singleton.mp hb]; exact hI
  · intro p hp hb
    exact hnw p hp (List.mem_singleton.mp hb)
  · intro i v m₁ news₁ h₁ tk₁ own hin hPi hJ₁ hoff hown hget hall hst₁ F₁ N₁
    obtain ⟨oI, hoI, hcI⟩ := hobj (i + 1) h₁ hst₁
    have hmI : (I, oI) ∈ own := hall I (List.mem_cons_self ..) hI oI hoI
    have N₂ : News h₀ env.locals h₁ ((I, oI) :: news₁) := fun p hp => by
      rcases List.mem_cons.mp hp with rfl | hp
      · exact N₁ _ (List.mem_append_left _ hmI)
      · exact N₁ _ (List.mem_append_right _ hp)
    have fin' : ∀ s₃, UnrEnd h₀ env.locals { s with heap := h₁, toks := tk₁ } I oI (J (i + 1)) s₃ →
        LoopStepU h₀ env.locals [I] own (J (i + 1)) { s with heap := h₁, toks := tk₁ } .next s₃ := by
      rintro s₃ ⟨h', tk, m', news', e, F', N', ho, hj⟩
      refine ⟨rfl, h', tk, m', news', e, F', ?_, ?_, hj⟩
      · rintro ⟨pa, po⟩ hp
        rcases List.mem_append.mp hp with hp | hp
        · have h2 : h₁.get? pa = some po := hget _ hp
          rcases List.mem_cons.mp (hown _ hp) with h3 | h3
          · have h3' : pa = I := h3
            subst h3'
            have h6 : oI = po := Option.some.inj (hoI.symm.trans h2)
            subst h6
            exact N' _ (.head _)
          · have h3' : pa = ax := List.mem_singleton.mp h3
            subst h3'
            have h4 : h₁.get? pa = some lo := (N₁ _ (List.mem_append_right _ (hJ _ _ _ hJ₁))).1
            have h6 : lo = po := Option.some.inj (h4.symm.trans h2)
            subst h6
            exact N' _ (.tail _ (hJ _ _ _ hj))
        · exact N' _ (.tail _ hp)
      · intro p hp hb
        exact ho p hp (List.mem_singleton.mp hb)
    refine wpAny_mono (step oI i v m₁ news₁ h₁ tk₁ hin hPi hJ₁ (fun p hp e => hoff p hp (List.mem_singleton.mpr e)) hcI F₁ N₂) (fun _ s₂ h₂ => wpAny_mono h₂ (fun f s₃ p => ?_) fun _ _ e => e) fun _ _ e => e
    cases f with
    | ret v => exact .ret p
    | brk => exact .brk p
    | next => exact .next (fin' _ p)
    | cont => exact .cont (fin' _ p)
  · intro h' tk m' news' F' N' _ hj
    exact fin h' tk m' news' F' N' hj

theorem iter_tupInv {ax : Addr} {lo : Obj} {vs : List Value} {n : Nat} {m₀ : Str → Option Value} {news : List (Addr × Obj)}
    (hh : A.handled = none) (F : Fr h₀ env.locals s.heap m₀) (N : News h₀ env.locals s.heap news) (hm : (ax, lo) ∈ news) (hc : lo.cls = .type "tuple") (hd : lo.data = .seq vs.toArray n)
    (J : Addr → Nat → (Str → Option Value) → List (Addr × Obj) → Prop) (hJ : ∀ I i m l, J I i m l → (ax, lo) ∈ l) (h0 : ∀ I, (∀ p ∈ news, p.1 < I) → J I 0 m₀ news)
    (step : ∀ I, (∀ p ∈ news, p.1 < I) → ∀ oI i v m₁ news₁ h₁ tk₁, vs[i]? = some v → J I i m₁ news₁ → (∀ p ∈ news₁, p.1 ≠ I) → oI.cls = .type "tuple_iterator" → Fr h₀ env.locals h₁ m₁ → News h₀ env.locals h₁ ((I, oI) :: news₁) →
      wpAny (model prog w) A (assign target env v) (fun _ s₃ => wpAny (model prog w) A (execs body env) (UnrPost h₀ env.locals { s with heap := h₁, toks := tk₁ } I oI (J I (i + 1)) Q) E s₃) E { s with heap := h₁, toks := tk₁ })
    (fin : ∀ I h' tk m' news', Fr h₀ env.locals h' m' → News h₀ env.locals h' news' → J I vs.length m' news' → Q .next { s with heap := h', toks := tk }) :
    wpAny (model prog w) A (pyIter (.ref ax)) (fun it s₂ => TurnsAt prog w A h₀ env target body Q E it s₂) E s := by
  have hax := N _ hm
  have hl : s.heap.IsTuple ax vs.toArray := ⟨lo, hax.1, hc, n, hd⟩
  have hlt : ax < s.heap.objs.size := Heap.lt_size hax.1
  have hne : ax ≠ s.heap.objs.size := Nat.ne_of_lt hlt
  have hlts : ∀ p ∈ news, p.1 < s.heap.objs.size := fun p hp => Heap.lt_size (N p hp).1
  refine wpAny_pyIter_tuple hl ?_
  refine turns_inv (T := "tuple_iterator") (ax := ax) (n := vs.toArray.size) (tk0 := s.toks) (lo := lo) (KTurns.ofWalks (target := target) (Walks.tuple (prog := prog) (w := w) hh s.heap.objs.size ax hne vs.toArray) fun i v s Q E st q => letGo_tupleiter st.1 q) ?_ (next_is_new F) (fun e => absurd F.ns.lt (e ▸ Nat.lt_irrefl _)) hax.2.1.symm (fun p hp => Nat.ne_of_lt (hlts p hp)) ?_ (F.push _) (fun p hp => ⟨Heap.get?_push_of_some _ (N p hp).1, (N p hp).2⟩) (J s.heap.objs.size) (hJ _) (h0 _ hlts) ?_ (fin _)
  · intro i h st
    obtain ⟨it, hit, hic, _⟩ := st.1
    exact ⟨it, hit, hic⟩
  · exact ⟨⟨_, Heap.get?_push_size _ rfl, rfl, rfl⟩, hl.at fun o e => Heap.get?_push_of_some _ e⟩
  · intro oI i v m₁ news₁ h₁ tk₁ hin hPi
    exact step _ hlts oI i v m₁ news₁ h₁ tk₁ (by simpa using hPi)

theorem iter_listInv {ax : Addr} {lo : Obj} {vs : List Value} {n : Nat} {m₀ : Str → Option Value} {news : List (Addr × Obj)}
    (hh : A.handled = none) (F : Fr h₀ env.locals s.heap m₀) (N : News h₀ env.locals s.heap news) (hm : (ax, lo) ∈ news) (hc : lo.cls = .type "list") (hd : lo.data = .seq vs.toArray n)
    (J : Addr → Nat → (Str → Option Value) → List (Addr × Obj) → Prop) (hJ : ∀ I i m l, J I i m l → (ax, lo) ∈ l) (h0 : ∀ I, (∀ p ∈ news, p.1 < I) → J I 0 m₀ news)
    (step : ∀ I, (∀ p ∈ news, p.1 < I) → ∀ oI i v m₁ news₁ h₁ tk₁, vs[i]? = some v → J I i m₁ news₁ → (∀ p ∈ news₁, p.1 ≠ I) → oI.cls = .type "list_iterator" → Fr h₀ env.locals h₁ m₁ → News h₀ env.locals h₁ ((I, oI) :: news₁) →
      wpAny (model prog w) A (assign target env v) (fun _ s₃ => wpAny (model prog w) A (execs body env) (UnrPost h₀ env.locals { s with heap := h₁, toks := tk₁ } I oI (J I (i + 1)) Q) E s₃) E { s with heap := h₁, toks := tk₁ })
    (fin : ∀ I h' tk m' news', Fr h₀ env.locals h' m' → News h₀ env.locals h' news' → J I vs.length m' news' → Q .next { s with heap := h', toks := tk }) :
    wpAny (model prog w) A (pyIter (.ref ax)) (fun it s₂ => TurnsAt prog w A h₀ env target body Q E it s₂) E s := by
  have hax := N _ hm
  have hl : s.heap.IsList ax vs.toArray := ⟨lo, hax.1, hc, n, hd⟩
  have hlt : ax < s.heap.objs.size := Heap.lt_size hax.1
  have hne : ax ≠ s.heap.objs.size := Nat.ne_of_lt hlt
  have hlts : ∀ p ∈ news, p.1 < s.heap.objs.size := fun p hp => Heap.lt_size (N p hp).1
  refine wpAny_pyIter_list hl ?_
  refine turns_inv (T := "list_iterator") (ax := ax) (n := vs.toArray.size) (tk0 := s.toks) (lo := lo) (KTurns.ofWalks (target := target) (Walks.list (prog := prog) (w := w) hh s.heap.objs.size ax hne vs.toArray) fun i v s Q E st q => letGo_listiter st.1 q) ?_ (next_is_new F) (fun e => absurd F.ns.lt (e ▸ Nat.lt_irrefl _)) hax.2.1.symm (fun p hp => Nat.ne_of_lt (hlts p hp)) ?_ (F.push _) (fun p hp => ⟨Heap.get?_push_of_some _ (N p hp).1, (N p hp).2⟩) (J s.heap.objs.size) (hJ _) (h0 _ hlts) ?_ (fin _)
  · intro i h st
    obtain ⟨it, hit, hic, _⟩ := st.1
    exact ⟨it, hit, hic⟩
  · exact ⟨⟨_, Heap.get?_push_size _ rfl, rfl, rfl⟩, hl.at fun o e => Heap.get?_push_of_some _ e⟩
  · intro oI i v m₁ news₁ h₁ tk₁ hin hPi
    exact step _ hlts oI i v m₁ news₁ h₁ tk₁ (by simpa using hPi)

theorem iter_keysInv {d : Addr} {od : Obj} {kvs : List (Str × Value)} {m₀ : Str → Option Value} {news : List (Addr × Obj)}
    (hh : A.handled = none) (F : Fr h₀ env.locals s.heap m₀) (N : News h₀ env.locals s.heap news) (hm : (d, od) ∈ news) (hod : od.IsDictOf (strKind prog w) kvs) (lo : (d == sysModules) = false)
    (J : Addr → Nat → (Str → Option Value) → List (Addr × Obj) → Prop) (hJ : ∀ I i m l, J I i m l → (d, od) ∈ l) (h0 : ∀ I, (∀ p ∈ news, p.1 < I) → J I 0 m₀ news)
    (step : ∀ I, (∀ p ∈ news, p.1 < I) → ∀ oI i k u t m₁ news₁ h₁ tk₁, kvs[i]? = some (k, u) → J I i m₁ news₁ → (∀ p ∈ news₁, p.1 ≠ I) → oI.cls = .type "dict_keyiterator" → Fr h₀ env.locals h₁ m₁ → News h₀ env.locals h₁ ((I, oI) :: news₁) →
      wpAny (model prog w) A (assign target env (.str k t)) (fun _ s₃ => wpAny (model prog w) A (execs body env) (UnrPost h₀ env.locals { s with heap := h₁, toks := tk₁ } I oI (J I (i + 1)) Q) E s₃) E { s with heap := h₁, toks := tk₁ })
    (fin : ∀ I h' tk m' news', Fr h₀ env.locals h' m' → News h₀ env.locals h' news' → J I kvs.length m' news' → Q .next { s with heap := h', toks := tk }) :
    wpAny (model prog w) A (pyIter (.ref d)) (fun it s₂ => TurnsAt prog w A h₀ env target body Q E it s₂) E s := by
  have hax := N _ hm
  obtain ⟨ep, hat⟩ := KdkAt.of hod
  have hl : s.heap.DictAt (strKind prog w) d kvs ep := hat.dictAt hax.1
  have hlt : d < s.heap.objs.size := Heap.lt_size hax.1
  have hne : d ≠ s.heap.objs.size := Nat.ne_of_lt hlt
  have hlts : ∀ p ∈ news, p.1 < s.heap.objs.size := fun p hp => Heap.lt_size (N p hp).1
  refine wpAny_pyIter_dict lo hl ?_
  refine turns_inv (T := "dict_keyiterator") (ax := d) (n := kvs.length) (tk0 := s.toks) (lo := od) (KTurns.ofWalks (target := target) (Walks.dictKeys (prog := prog) (w := w) (knd := strKind prog w) hh s.heap.objs.size d hne kvs ep) fun i v s Q E st q => letGo_keyiter st.1 q) ?_ (next_is_new F) (fun e => absurd F.ns.lt (e ▸ Nat.lt_irrefl _)) hax.2.1.symm (fun p hp => Nat.ne_of_lt (hlts p hp)) ?_ (F.push _) (fun p hp => ⟨Heap.get?_push_of_some _ (N p hp).1, (N p hp).2⟩) (J s.heap.objs.size) (hJ _) (h0 _ hlts) ?_ (fin _)
  · intro i h st
    obtain ⟨it, hit, hic, _⟩ := st.1
    exact ⟨it, hit, hic⟩
  · exact ⟨⟨_, Heap.get?_push_size _ rfl, rfl, rfl⟩, hl.push _⟩
  · intro oI i v m₁ news₁ h₁ tk₁ hin hPi
    obtain ⟨k, u, hk, hkey⟩ := hPi
    obtain ⟨t, rfl⟩ := Value.isStrOf_shape hkey
    exact step _ hlts oI i k u t m₁ news₁ h₁ tk₁ hk

/-- the ledger without one object -/
inductive Out (I : Addr) (oI : Obj) : List (Addr × Obj) → List (Addr × Obj) → Prop
  | here {r} : (∀ p ∈ r, p.1 ≠ I) → Out I oI ((I, oI) :: r) r
  | next {p r r'} : p.1 ≠ I → Out I oI r r' → Out I oI (p :: r) (p :: r')
theorem Out.spec {I : Addr} {oI : Obj} : ∀ {l l' : List (Addr × Obj)}, Out I oI l l' → (∀ p ∈ (I, oI) :: l', p ∈ l) ∧ ∀ p ∈ l', p.1 ≠ I
  | _, _, .here h => ⟨fun _ hp => hp, h⟩
  | _, _, .next (p := p) h r => by
    obtain ⟨a, b⟩ := r.spec
    refine ⟨fun q hq => ?_, fun q hq => ?_⟩
    · rcases List.mem_cons.mp hq with rfl | hq
      · exact .tail _ (a _ (.head _))
      · rcases List.mem_cons.mp hq with rfl | hq
        · exact .head _
        · exact .tail _ (a _ (.tail _ hq))
    · rcases List.mem_cons.mp hq with rfl | hq
      · exact h
      · exact b q hq

/-- one turn over a tuple of one item -/
def One (h₀ : Heap) (L : Addr) (s₁ : Shared) (I : Addr) (oI : Obj) (ax : Addr) (lo : Obj) (Q : Flow → Shared → Prop) (s₂ : Shared) : Prop :=
  ∃ h' tk m' all out, s₂ = { s₁ with heap := h', toks := tk } ∧ Fr h₀ L h' m' ∧ News h₀ L h' all ∧ Out I oI all out ∧ (ax, lo) ∈ out ∧
    ∀ h'' tk'', Fr h₀ L h'' m' → News h₀ L h'' out → Q .next { s₁ with heap := h'', toks := tk'' }
def OneP (h₀ : Heap) (L : Addr) (s₁ : Shared) (I : Addr) (oI : Obj) (ax : Addr) (lo : Obj) (Q : Flow → Shared → Prop) (f : Flow) (s₂ : Shared) : Prop := match f with
  | .ret v => Q (.ret v) s₂
  | .brk => Q .next s₂
  | _ => One h₀ L s₁ I oI ax lo Q s₂
theorem One.intro {L : Addr} {I : Addr} {oI : Obj} {ax : Addr} {lo : Obj} {s₁ : Shared} {h' : Heap} {tk : Nat} {m' : Str → Option Value} {all out : List (Addr × Obj)}
    (F : Fr h₀ L h' m') (N : News h₀ L h' all) (U : Out I oI all out) (hm : (ax, lo) ∈ out)
    (h : ∀ h'' tk'', Fr h₀ L h'' m' → News h₀ L h'' out → Q .next { s₁ with heap := h'', toks := tk'' }) : One h₀ L s₁ I oI ax lo Q { s₁ with heap := h', toks := tk } :=
  ⟨h', tk, m', all, out, rfl, F, N, U, hm, h⟩
theorem iter_tup1 {ax : Addr} {lo : Obj} {v : Value} {n : Nat} {m₀ : Str → Option Value} {news : List (Addr × Obj)}
    (hh : A.handled = none) (F : Fr h₀ env.locals s.heap m₀) (N : News h₀ env.locals s.heap news) (hm : (ax, lo) ∈ news) (hc : lo.cls = .type "tuple") (hd : lo.data = .seq #[v] n)
    (step : ∀ I oI h₁ tk₁, (∀ p ∈ news, p.1 < I) → Fr h₀ env.locals h₁ m₀ → News h₀ env.locals h₁ ((I, oI) :: news) →
      wpAny (model prog w) A (assign target env v) (fun _ s₃ => wpAny (model prog w) A (execs body env) (OneP h₀ env.locals { s with heap := h₁, toks := tk₁ } I oI ax lo Q) E s₃) E { s with heap := h₁, toks := tk₁ }) :
    wpAny (model prog w) A (pyIter (.ref ax)) (fun it s₂ => TurnsAt prog w A h₀ env target body Q E it s₂) E s := by
  refine iter_tupInv (vs := [v]) (n := n) hh F N hm hc hd
    (fun _ i m l => (ax, lo) ∈ l ∧ ((i = 0 ∧ m = m₀ ∧ l = news) ∨ (i = 1 ∧ ∀ h'' tk'', Fr h₀ env.locals h'' m → News h₀ env.locals h'' l → Q .next { s with heap := h'', toks := tk'' })))
    (fun _ _ _ _ h => h.1) (fun I _ => ⟨hm, .inl ⟨rfl, rfl, rfl⟩⟩) ?_ ?_
  · intro I hI oI i u m₁ news₁ h₁ tk₁ hv hj hne hcI F₁ N₁
    have hi : i = 0 := by
      cases i with
      | zero => rfl
      | succ i => simp at hv
    subst hi
    have hu : v = u := by simpa using hv
    subst hu
    obtain ⟨_, ⟨_, rfl, rfl⟩ | ⟨h, _⟩⟩ := hj
    · refine wpAny_mono (step I oI h₁ tk₁ hI F₁ N₁) (fun _ s₂ h₂ => wpAny_mono h₂ (fun f s₃ p => ?_) fun _ _ e => e) fun _ _ e => e
      have fin : One h₀ env.locals { s with heap := h₁, toks := tk₁ } I oI ax lo Q s₃ → UnrEnd h₀ env.locals { s with heap := h₁, toks := tk₁ } I oI
          (fun m l => (ax, lo) ∈ l ∧ ((0 + 1 = 0 ∧ m = m₁ ∧ l = news₁) ∨ (0 + 1 = 1 ∧ ∀ h'' tk'', Fr h₀ env.locals h'' m → News h₀ env.locals h'' l → Q .next { s with heap := h'', toks := tk'' }))) s₃ := by
        rintro ⟨h', tk, m', all, out, rfl, F', N', U, hm', k⟩
        obtain ⟨a, b⟩ := U.spec
        exact ⟨h', tk, m', out, rfl, F', fun p hp => N' p (a p hp), b, hm', .inr ⟨rfl, k⟩⟩
      cases f with
      | ret v => exact p
      | brk => exact p
      | next => exact fin p
      | cont => exact fin p
    · cases h
  · rintro I h' tk m' news' F' N' ⟨_, ⟨h, _⟩ | ⟨_, k⟩⟩
    · cases h
    · exact k h' tk F' N'
end
end
section
-- plain
open Builtin Builtin.ObjectAttr
namespace LI
theorem lk_ga : typeLookup (.type "list_iterator") "__getattribute__" = pure (some (.builtin "object.__getattribute__")) := by rw [typeLookup_type, builtinLookup_eq_fast]; kernel_rfl
theorem slot_ga : Slot "list_iterator" "__getattribute__" "object.__getattribute__" :=
  .of (owner := "object") (n := "__getattribute__") (by rw [typeLookup_type, builtinLookup_eq_fast]; kernel_rfl) (by decide +kernel) (by decide +kernel) (by decide +kernel)
    (by first | exact .inl (by decide +kernel) | exact .inr (by decide +kernel)) (by rw [isSubtype_type]; kernel_rfl)
theorem entry_ga : entryFor table "object.__getattribute__" = some Builtin.«object.__getattribute__» := entryFor_of_tree (by kernel_rfl)
theorem args_ga (a b : Value) : argsOk "object.__getattribute__" ⟨[a, b], []⟩ := by unfold argsOk; kernel_rfl
theorem lk_next : typeLookup (.type "list_iterator") "__next__" = pure (some (.builtin "list_iterator.__next__")) := by rw [typeLookup_type, builtinLookup_eq_fast]; kernel_rfl
theorem ty_next : typeOf (.builtin "list_iterator.__next__") = pure (.type "wrapper_descriptor") := by show builtinType _ = _; rw [builtinType_eq_fast]; kernel_rfl
theorem wd_get : typeLookup (.type "wrapper_descriptor") "__get__" = pure (some (.builtin "wrapper_descriptor.__get__")) := by rw [typeLookup_type, builtinLookup_eq_fast]; kernel_rfl
theorem wd_set : typeLookup (.type "wrapper_descriptor") "__set__" = pure none := by rw [typeLookup_type, builtinLookup_eq_fast]; kernel_rfl
theorem wd_del : typeLookup (.type "wrapper_descriptor") "__delete__" = pure none := by rw [typeLookup_type, builtinLookup_eq_fast]; kernel_rfl
theorem slot_wd : Slot "wrapper_descriptor" "__get__" "wrapper_descriptor.__get__" :=
  .of (owner := "wrapper_descriptor") (n := "__get__") (by rw [typeLookup_type, builtinLookup_eq_fast]; kernel_rfl) (by decide +kernel) (by decide +kernel) (by decide +kernel)
    (by first | exact .inl (by decide +kernel) | exact .inr (by decide +kernel)) (by rw [isSubtype_type]; kernel_rfl)
theorem entry_wd : entryFor table "wrapper_descriptor.__get__" = some Builtin.«wrapper_descriptor.__get__» := entryFor_of_tree (by kernel_rfl)
theorem args_wd (a b c : Value) : argsOk "wrapper_descriptor.__get__" ⟨[a, b, c], []⟩ := by unfold argsOk; kernel_rfl
theorem sub_li : isSubtype (.type "list_iterator") (.type "list_iterator") = pure true := by rw [isSubtype_type]; kernel_rfl
theorem sub_lo : isSubtype (.type "list_iterator") (.type "object") = pure true := by rw [isSubtype_type]; kernel_rfl
theorem ga_none : typeLookup (.type "list_iterator") "__getattr__" = pure none := by rw [typeLookup_type, builtinLookup_eq_fast]; kernel_rfl
end LI
noncomputable abbrev listIt (l : Addr) (i : Nat) : Obj := { cls := .type "list_iterator", data := .fields #[.ref l, .int i 0] }
noncomputable abbrev wrapIt (I : Addr) : Obj := { cls := .type "method-wrapper", data := .fields #[.builtin "list_iterator.__next__", .ref I] }
section
variable {prog : Program} {w : World} {A : Around} {E : Value → Shared → Prop}
theorem wd_call {h : Heap} {g : Array GenState} {d : Drawn} {t : Nat} {os : OsState} {I : Addr} {o : Obj} {R : Result → Shared → Prop} (ho : h.get? I = some o) (hc : o.cls = .type "list_iterator")
    (hq : R (.ok (.ret (.ref h.objs.size))) ⟨h.push (wrapIt I), g, d, t, os⟩) :
    codeAny (model prog w) A (.call (.builtin "wrapper_descriptor.__get__") ⟨[.builtin "list_iterator.__next__", .ref I, .type "list_iterator"], []⟩) R ⟨h, g, d, t, os⟩ := by
  refine codeAny_call_builtin LI.slot_wd.plain LI.entry_wd (LI.slot_wd.check _ _ _ _ _ _ _ _ LI.ty_next (LI.args_wd _ _ _) ?_)
  have t1 : Looks (model prog w) h (typeOf (.ref I)) (.type "list_iterator") := by
    have := (Looks.ld (M := model prog w) (part := none) ho).andThen (f := fun o => pure o.cls) .now
    rw [hc] at this
    exact this
  have s1 : Looks (model prog w) h (isSubtype (.type "list_iterator") (.type "list_iterator")) true := Looks.of_pure LI.sub_li
  unfold Builtin.«wrapper_descriptor.__get__»
  repeat lk
  exact hq
theorem ga_call {h : Heap} {g : Array GenState} {d : Drawn} {t : Nat} {os : OsState} {I : Addr} {o : Obj} {tk : Tok} {R : Result → Shared → Prop} (ho : h.get? I = some o) (hc : o.cls = .type "list_iterator") (hdct : o.dict = none) (hdat : ∃ vs, o.data = .fields vs)
    (hq : R (.ok (.ret (.ref h.objs.size))) ⟨h.push (wrapIt I), g, d, t, os⟩) :
    codeAny (model prog w) A (.call (.builtin "object.__getattribute__") ⟨[.ref I, .str "__next__" tk], []⟩) R ⟨h, g, d, t, os⟩ := by
  obtain ⟨vs, hdat⟩ := hdat
  have t1 : Looks (model prog w) h (typeOf (.ref I)) (.type "list_iterator") := by
    have := (Looks.ld (M := model prog w) (part := none) ho).andThen (f := fun o => pure o.cls) .now
    rw [hc] at this
    exact this
  have t2 : Looks (model prog w) h (typeLookup (.type "list_iterator") "__next__") (some (.builtin "list_iterator.__next__")) := Looks.of_pure LI.lk_next
  have t3 : Looks (model prog w) h (typeOf (.builtin "list_iterator.__next__")) (.type "wrapper_descriptor") := Looks.of_pure LI.ty_next
  have t4 : Looks (model prog w) h (typeLookup (.type "wrapper_descriptor") "__get__") (some (.builtin "wrapper_descriptor.__get__")) := Looks.of_pure LI.wd_get
  have t5 : Looks (model prog w) h (typeLookup (.type "wrapper_descriptor") "__set__") none := Looks.of_pure LI.wd_set
  have t6 : Looks (model prog w) h (typeLookup (.type "wrapper_descriptor") "__delete__") none := Looks.of_pure LI.wd_del
  refine codeAny_call_builtin LI.slot_ga.plain LI.entry_ga (LI.slot_ga.check _ _ _ _ _ _ _ _ ⟨_, ho, hc⟩ (LI.args_ga _ _) ?_)
  obtain ⟨oc, odd, oda, osl⟩ := o
  dsimp only at hc hdct hdat
  subst hc hdct hdat
  unfold Builtin.«object.__getattribute__»
  repeat (first | with_reducible refine wpAny_call ?_ | lk)
  refine wd_call ho rfl ?_
  exact wpAny_pure hq
theorem getAttr_next {s : Shared} {I : Addr} {o : Obj} {Q : Value → Shared → Prop} (ho : s.heap.get? I = some o) (hc : o.cls = .type "list_iterator") (hdct : o.dict = none) (hdat : ∃ vs, o.data = .fields vs)
    (hq : Q (.ref s.heap.objs.size) { s with heap := s.heap.push (wrapIt I), toks := s.toks + 1 }) :
    wpAny (model prog w) A (getAttr (.ref I) "__next__" true) Q E s := by
  obtain ⟨h, g, d, t, os⟩ := s
  dsimp only at ho hq
  have t1 : Looks (model prog w) h (typeOf (.ref I)) (.type "list_iterator") := by
    have := (Looks.ld (M := model prog w) (part := none) ho).andThen (f := fun o => pure o.cls) .now
    rw [hc] at this
    exact this
  have t2 : Looks (model prog w) h (typeLookup (.type "list_iterator") "__getattribute__") (some (.builtin "object.__getattribute__")) := Looks.of_pure LI.lk_ga
  have t3 : Looks (model prog w) h (bindSpecial (.builtin "object.__getattribute__") (.ref I)) (.builtin "object.__getattribute__", [.ref I]) := Looks.of_pure (LI.slot_ga.bind _)
  unfold getAttr getAttrBy
  repeat (first | with_reducible refine wpAny_call ?_ | with_reducible refine wpAny_attempt ?_ | lk)
  refine ga_call ho hc hdct hdat ?_
  show wpAny _ _ (handedOut _) _ _ _
  exact wpAny_pure hq

theorem wrap_call {s : Shared} {q I : Addr} {R : Result → Shared → Prop} (ho : s.heap.get? q = some (wrapIt I))
    (h : wpAny (model prog w) (A.under (.builtin "list_iterator.__next__" ⟨[.ref I], []⟩)) (Builtin.«list_iterator.__next__» ⟨[.ref I], []⟩) (fun fin s' => match fin with | .done f => R (.ok f) s' | .again c' => c'.quiet = true ∧ codeAny (model prog w) A c' R s') (fun e s' => R (.error e) s') s) :
    codeAny (model prog w) A (.call (.ref q) ⟨[], []⟩) R s := by
  obtain ⟨hh, g, dr, t, os⟩ := s
  refine codeAny_of_tree ?_
  show wpAny _ _ (callAny (.ref q) _) _ _ _
  dsimp only at ho
  refine nd_load ho ?_
  have hb : checkBoundCall "list_iterator.__next__" ⟨[.ref I], []⟩ = pure () := by kernel_rfl
  show wpAny _ _ (checkBoundCall "list_iterator.__next__" ⟨[.ref I], []⟩ >>= fun _ => again (.builtin "list_iterator.__next__" ⟨[.ref I], []⟩)) _ _ _
  rw [hb]
  refine wpAny_bind (wpAny_pure (wpAny_pure ⟨Code.quiet_builtin _ (by decide +kernel), ?_⟩))
  exact codeAny_builtin entry_listiter_next h
theorem wrap_item {s : Shared} {q I l : Addr} {lo : Obj} {i n : Nat} {vs : Array Value} {v : Value} {h₀ : Heap} {L : Addr} {m : Str → Option Value} {news : List (Addr × Obj)} {news' : List (Addr × Obj)} {Q : Value → Shared → Prop}
    (F : Fr h₀ L s.heap m) (N : News h₀ L s.heap news) (hq : (q, wrapIt I) ∈ news) (U : Upd I (listIt l i) (listIt l (i + 1)) news news') (hl : (l, lo) ∈ news) (hd : lo.data = .seq vs n) (hv : vs[i]? = some v)
    (h : ∀ h', Fr h₀ L h' m → News h₀ L h' news' → Q v { s with heap := h' }) : wpAny (model prog w) A (call (.ref q) []) Q E s := by
  obtain ⟨pre, post, e1, e2, a, b⟩ := U.split
  have hI : (I, listIt l i) ∈ news := by rw [e1]; exact List.mem_append_right _ (.head _)
  have ho := (N _ hI).1
  have hol := (N _ hl).1
  refine wpAny_call (wrap_call (N _ hq).1 ?_)
  show wpAny _ _ (field (.ref I) 0 >>= _) _ _ s
  refine wpAny_bind (wpAny_field ho rfl (x := .ref l) rfl ?_)
  show wpAny _ _ (if (Value.ref l == Value.none) = true then _ else _) _ _ s
  rw [if_neg (show ¬ ((Value.ref l == Value.none) = true) from Bool.false_ne_true)]
  show wpAny _ _ (field (.ref I) 1 >>= _) _ _ s
  refine wpAny_bind (wpAny_field ho rfl (x := .int i 0) rfl ?_)
  show wpAny _ _ (seqItems? (.ref l) >>= _) _ _ s
  refine wpAny_bind (wpAny_seqItems hol hd ?_)
  simp only [Int.toNat_natCast, hv]
  obtain ⟨F', N'⟩ := news_upd (f := Obj.mapFields (·.setIfInBounds 1 (rawInt ((i : Int) + 1)))) (o' := listIt l (i + 1)) F (e1 ▸ N) a b rfl rfl
  exact wpAny_bind (wpAny_setField ho rfl (by show 1 < 2; decide) (wpAny_pure (h _ F' (e2 ▸ N'))))
theorem wrap_end {s : Shared} {q I l : Addr} {lo : Obj} {i n : Nat} {vs : Array Value} {h₀ : Heap} {L : Addr} {m : Str → Option Value} {news : List (Addr × Obj)} {g : Obj → List (Addr × Obj)} {Q : Value → Shared → Prop}
    (hh : A.handled = none) (F : Fr h₀ L s.heap m) (N : News h₀ L s.heap news) (hq : (q, wrapIt I) ∈ news) (U : UpdF I (listIt l i) news g) (hl : (l, lo) ∈ news) (hd : lo.data = .seq vs n) (hv : vs[i]? = none)
    (h : ∀ h₁ h' e o', Fr h₀ L h₁ m → News h₀ L h₁ (g o') → Heap.NewExc h₁ h' e "StopIteration" → E (.ref e) { s with heap := h' }) : wpAny (model prog w) A (call (.ref q) []) Q E s := by
  obtain ⟨pre, post, e1, e2, a, b⟩ := U.split
  have hI : (I, listIt l i) ∈ news := by rw [e1]; exact List.mem_append_right _ (.head _)
  have ho := (N _ hI).1
  have hol := (N _ hl).1
  refine wpAny_call (wrap_call (N _ hq).1 ?_)
  show wpAny _ _ (field (.ref I) 0 >>= _) _ _ s
  refine wpAny_bind (wpAny_field ho rfl (x := .ref l) rfl ?_)
  show wpAny _ _ (if (Value.ref l == Value.none) = true then _ else _) _ _ s
  rw [if_neg (show ¬ ((Value.ref l == Value.none) = true) from Bool.false_ne_true)]
  show wpAny _ _ (field (.ref I) 1 >>= _) _ _ s
  refine wpAny_bind (wpAny_field ho rfl (x := .int i 0) rfl ?_)
  show wpAny _ _ (seqItems? (.ref l) >>= _) _ _ s
  refine wpAny_bind (wpAny_seqItems hol hd ?_)
  simp only [Int.toNat_natCast, hv]
  obtain ⟨F', N'⟩ := news_upd (f := Obj.mapFields (·.setIfInBounds 0 Value.none)) (o' := { cls := .type "list_iterator", data := .fields #[.none, .int i 0] }) F (e1 ▸ N) a b rfl rfl
  refine wpAny_bind (wpAny_rule (wpAny_bind (wpAny_setField ho rfl (by show 0 < 2; decide) ?_)))
  show wpAny _ _ (newExc (.type "StopIteration") [] >>= _) _ _ _
  refine wpAny_bind ?_
  simp only [newExc, newTuple]
  refine wpAny_bind (wpAny_newObj_type ?_ (by size_fits))
  refine wpAny_bind (m := firstArgMember _ _) (wpAny_of_eq (a := Value.none) (by first | rfl | (simp only [firstArgMember]; rfl)) ?_)
  refine wpAny_newObj_type ?_ (by size_fits)
  simp only [raiseNew]
  refine wpAny_bind (wpAny_handled ?_)
  rw [show (A.under (.builtin "list_iterator.__next__" ⟨[.ref I], []⟩)).handled = none from hh]
  refine wpAny_bind (wpAny_pure (wpAny_throw ?_))
  refine h _ _ _ _ F' (e2 _ ▸ N') ⟨fun b o e => Heap.get?_push_of_some _ (Heap.get?_push_of_some _ e), ?_, ⟨_, _, Heap.get?_push_size _ rfl, rfl, rfl⟩⟩
  exact Heap.get?_none_of_le (by rw [Heap.size_push]; exact Nat.le_succ _)
theorem keeper_wrap {M : Model} {h : Heap} {q I : Addr} (ho : h.get? q = some (wrapIt I)) : Looks M h (keeperOf (.ref q)) Keeper.machine := (Looks.ld (part := none) ho).andThen .now
theorem callWith_wrap {M : Model} {s : Shared} {q I : Addr} {pos : Pos} {env : Env} {Q : Value → Shared → Prop} (ho : s.heap.get? q = some (wrapIt I)) (h : wpAny M A (call (.ref q) []) Q E s) :
    wpAny M A (callWith pos (.ref q) [] (backTo pos (starEach [] env)) []) Q E s :=
  callWith_of (P := fun h => h.get? q = some (wrapIt I)) rfl (fun _ x => ⟨.machine, .inr (.inl rfl), keeper_wrap x⟩) (evalArgs_nil3 ⟨ho, h⟩)
theorem iter_list_call {s : Shared} {l : Addr} {lo : Obj} {vs : Array Value} {n : Nat} {h₀ : Heap} {L : Addr} {m : Str → Option Value} {news : List (Addr × Obj)} {Q : Value → Shared → Prop}
    (F : Fr h₀ L s.heap m) (N : News h₀ L s.heap news) (hl : (l, lo) ∈ news) (hc : lo.cls = .type "list") (hd : lo.data = .seq vs n)
    (h : ∀ I h', Fr h₀ L h' m → News h₀ L h' ((I, listIt l 0) :: news) → (∀ p ∈ news, p.1 < I) → Q (.ref I) { s with heap := h' }) : wpAny (model prog w) A (call (.builtin "iter") [.ref l]) Q E s := by
  refine call_function_entry (by decide +kernel) (by decide +kernel) kdk_entry_iter (kdk_args_iter _) ?_
  unfold Builtin.«iter»
  refine wpAny_bind (m := someArgs "iter" 1 2 _) (wpAny_of_eq (a := [Value.ref l]) (by first | rfl | kernel_rfl!) ?_)
  show wpAny _ _ (pyIter (.ref l) >>= _) _ _ _
  refine wpAny_bind (wpAny_pyIter_list ⟨lo, (N _ hl).1, hc, n, hd⟩ ?_)
  exact wpAny_pure ⟨_, rfl, h _ _ (F.push _) (News.push F N _ rfl) (fun q hq => Heap.lt_size (N q hq).1)⟩
theorem next_attr {s : Shared} {I l : Addr} {i : Nat} {h₀ : Heap} {L : Addr} {m : Str → Option Value} {news : List (Addr × Obj)} {Q : Value → Shared → Prop}
    (F : Fr h₀ L s.heap m) (N : News h₀ L s.heap news) (hI : (I, listIt l i) ∈ news)
    (h : ∀ q h', Fr h₀ L h' m → News h₀ L h' ((q, wrapIt I) :: news) → (∀ p ∈ news, p.1 < q) → Q (.ref q) { s with heap := h', toks := s.toks + 1 }) : wpAny (model prog w) A (getAttr (.ref I) "__next__" true) Q E s :=
  getAttr_next (N _ hI).1 rfl rfl ⟨_, rfl⟩ (h _ _ (F.push _) (News.push F N _ rfl) (fun q hq => Heap.lt_size (N q hq).1))
end
end
section
-- plain
section
variable {prog : Program} {w : World} {A A₀ : Around} {s : Shared} {hb : Heap} {env : Env} {outer : List Env} {L : Addr} {m : Str → Option Value} {news frs : List (Addr × Obj)} {K : Frag} {p : Program} {loose : List Str} {mean : ExcName → Option Value} {mg mb : Str → Option Value}
  {R : Result → Shared → Prop} {name qual : Str} {params : Arguments} {body : List Stmt} {scope : Scope} {dV kV doc pm cdv ct oc : Value} {an od : Option Addr} {osl : Array (Option Value)} {f : Addr} {args : Args} {binds : List (Str × Value)}

/-- a call's end where all frames stand in the ledger -/
def LeaveT (hb : Heap) (outer : List Env) (L : Addr) (m : Str → Option Value) (oL : Obj) (frs : List (Addr × Obj)) (R : Result → Shared → Prop) (v : Value) (s' : Shared) : Prop :=
  ∃ L' m' news' sl frs', Fr hb L' s'.heap m' ∧ News hb L' s'.heap (news' ++ (L, { oL with slots := sl }) :: frs') ∧ TI.SameUp frs frs' ∧ (∀ q ∈ news', q.1 ≠ L) ∧
    (TI.Frs outer frs' → Fr hb L s'.heap m → News hb L s'.heap (news' ++ frs') → R (.ok (.ret v)) s')

theorem sameUp_addr : ∀ {a b : List (Addr × Obj)}, TI.SameUp a b → b.map (·.1) = a.map (·.1)
  | [], [], _ => rfl
  | [], _ :: _, h => False.elim h
  | _ :: _, [], h => False.elim h
  | _ :: _, _ :: _, ⟨h1, _, h3⟩ => by simp only [List.map_cons, h1, sameUp_addr h3]

theorem code_defT (hA : A.frames = some (env :: outer)) (hf : env.frame = some L) (hke : env.scope.kind = .function) (Fs : TI.Frs outer frs)
    (F : Fr hb L s.heap m) (X₀ : K.In hb) (N : News hb L s.heap (news ++ frs)) (T : Top p loose mean mg mb hb)
    (ho : K.lookup f = some ⟨oc, od, .func (fnOf name qual params body scope dV kV doc pm an cdv ct), osl⟩) (hcd : codeIn K cdv qual = true) (hroom : A.depth < recursionLimit)
    (hbind : BindsTo s (fnOf name qual params body scope dV kV doc pm an cdv ct) args binds) (hloc : ∀ y ∈ binds, scope.names.lookup y.1 = some .local)
    (h : ∀ L' h₁ oL, TI.Frs (env :: outer) ((L, oL) :: frs) → (∀ q ∈ news ++ (L, oL) :: frs, q.1 < L') → Fr hb L' h₁ (fun y => binds.reverse.lookup y) → News hb L' h₁ (news ++ (L, oL) :: frs) →
      wpAny (model prog w) (A.deeper (envOf qual scope L' f cdv)) (execs body (envOf qual scope L' f cdv))
        (fun fl s' => LeaveT hb outer L m oL frs R (match fl with | .ret v => v | _ => .none) s')
        (fun e s' => wpAny (model prog w) (A.deeper (envOf qual scope L' f cdv)) (leaving (envOf qual scope L' f cdv) e) (fun _ s'' => R (.error e) s'') (fun e' s'' => R (.error e') s'') s')
        { s with heap := h₁, toks := s.toks + binds.length })
    (hco : scope.isCoroutine = false) (hgen : scope.isGenerator = false) (hk : scope.kind = .function)
    (hcell : ∀ x ∈ scope.names, x.2 ≠ .cell) : codeAny (model prog w) A (.call (.ref f) args) R s := by
  have X := X₀.keeps F.keep
  obtain ⟨oL, es, ep, hL, hLd, hLk, hLf⟩ := F.ns
  have hLt := Heap.lt_size hL
  have hkind : env.scope.kind ≠ .module := by rw [hke]; decide
  refine codeAny_call_def (fd := fnOf name qual params body scope dV kV doc pm an cdv ct) (body := body) (binds := binds) hroom (X _ _ ho) rfl (T.nolimit.keeps F.keep) (codeRec_of X hcd) rfl hbind hcell hloc (fun h₁ hns hk₁ => ?_) hco hgen hk
  have up : ∀ b o, s.heap.get? b = some o → h₁.get? b = some o := fun b o e => hk₁ b o e
  refine wpAny_mono (h s.heap.objs.size h₁ oL ⟨hkind, hf, ⟨es, ep, hLd⟩, Fs⟩ (fun q hq => ?_) ⟨hns, fun b o e => up b o (F.keep b o e), Nat.le_trans F.above (Nat.le_of_lt hLt)⟩ (fun q hq => ?_)) (fun fl s' hl => ?_) fun _ _ y => y
  · rcases List.mem_append.mp hq with hq | hq
    · exact Heap.lt_size (N q (List.mem_append_left _ hq)).1
    · rcases List.mem_cons.mp hq with rfl | hq
      · exact hLt
      · exact Heap.lt_size (N q (List.mem_append_right _ hq)).1
  · rcases List.mem_append.mp hq with hq | hq
    · obtain ⟨h1, h2, h3⟩ := N q (List.mem_append_left _ hq)
      exact ⟨up _ _ h1, Nat.ne_of_lt (Heap.lt_size h1), h3⟩
    · rcases List.mem_cons.mp hq with rfl | hq
      · exact ⟨up _ _ hL, Nat.ne_of_lt hLt, Heap.get?_none_of_le F.above⟩
      · obtain ⟨h1, h2, h3⟩ := N q (List.mem_append_right _ hq)
        exact ⟨up _ _ h1, Nat.ne_of_lt (Heap.lt_size h1), h3⟩
  · obtain ⟨L', m', news', sl, frs', F', N', SU, hne, k⟩ := hl
    have hL' : s'.heap.get? L = some { oL with slots := sl } := (N' _ (List.mem_append_right _ (.head _))).1
    refine k (Fs.up SU) ⟨⟨_, es, ep, hL', hLd, hLk, hLf⟩, F'.keep, F.above⟩ fun q hq => ?_
    rcases List.mem_append.mp hq with hq | hq
    · obtain ⟨x1, _, x3⟩ := N' q (List.mem_append_left _ hq)
      exact ⟨x1, hne q hq, x3⟩
    · obtain ⟨x1, _, x3⟩ := N' q (List.mem_append_right _ (.tail _ hq))
      refine ⟨x1, fun e => ?_, x3⟩
      have : q.1 ∈ frs.map (·.1) := by rw [← sameUp_addr SU]; exact List.mem_map_of_mem hq
      obtain ⟨q', hq', e'⟩ := List.mem_map.mp this
      exact (N q' (List.mem_append_right _ hq')).2.1 (e'.trans e)

/-- the ledger's written head over a rest -/
inductive Sp (b : Nat) (rest : List (Addr × Obj)) : List (Addr × Obj) → (List (Addr × Obj) → List (Addr × Obj)) → Prop
  | nil : Sp b rest rest (fun r => r)
  | cons {q l g} : b ≤ q.1 → Sp b rest l g → Sp b rest (q :: l) (fun r => q :: g r)
theorem Sp.spec {b : Nat} {rest : List (Addr × Obj)} : ∀ {l : List (Addr × Obj)} {g : List (Addr × Obj) → List (Addr × Obj)}, Sp b rest l g → ∃ ex, (∀ r, g r = ex ++ r) ∧ l = ex ++ rest ∧ ∀ q ∈ ex, b ≤ q.1
  | _, _, .nil => ⟨[], fun _ => rfl, rfl, fun _ h => nomatch h⟩
  | _, _, .cons (q := q) h r => by
    obtain ⟨ex, a, c, d⟩ := r.spec
    refine ⟨q :: ex, fun r => congrArg (q :: ·) (a r), by rw [c]; rfl, fun x hx => ?_⟩
    rcases List.mem_cons.mp hx with rfl | hx
    · exact h
    · exact d x hx

theorem caughtT {E : Value → Shared → Prop} {h : Heap} {l : List Env} {r0 all : List (Addr × Obj)} {g : List (Addr × Obj) → List (Addr × Obj)} {b : Nat} {a e : Addr} {cd : Value} {b₀ : Stmt} {suite : List Stmt} {pos np : Pos} {rest : List ExceptHandler} {Q : Flow → Shared → Prop}
    (hfr : A₀.frames = some l) (Fs : TI.Frs l frs) (hx : Heap.NewExc h s.heap e "StopIteration") (F : Fr hb L h m) (N : News hb L h all)
    (hR : ∀ q ∈ r0 ++ frs, q.1 < b) (S : Sp b (r0 ++ frs) all g) (hr0 : ∀ q ∈ r0, q.1 ∉ frs.map (·.1)) (T : Top p loose mean mg mb hb)
    (t1 : (Str.ofString "StopIteration") ∉ startupNames) (t2 : (Str.ofString "StopIteration") ∉ loose) (t3 : (Str.ofString "StopIteration") ∉ (recsOf p).map (·.name)) (t4 : (Str.ofString "StopIteration") ∉ (litsOf p).map (·.1)) (t5 : (Str.ofString "StopIteration") ∉ (clssOf p loose).map (·.name))
    (hk : scope.kind = .function) (hxk : (envOf name scope L a cd).kindOf (Str.ofString "StopIteration") = some .globalImplicit)
    (hE : PassesOwnAt (model prog w) ((A₀.deeper (envOf name scope L a cd)).mark (some (.ref e))) (A₀.deeper (envOf name scope L a cd)) (envOf name scope L a cd) E)
    (k : ∀ h' frs', TI.SameUp frs frs' → TI.Frs l frs' → (∀ q ∈ r0 ++ frs', q.1 < b) → (∀ q ∈ r0, q.1 ∉ frs'.map (·.1)) → Fr hb L h' m → News hb L h' (g (r0 ++ frs')) →
      wpAny (model prog w) ((A₀.deeper (envOf name scope L a cd)).mark (some (.ref e))) (execs (b₀ :: suite) (envOf name scope L a cd)) Q E { s with heap := h' }) :
    wpAny (model prog w) (A₀.deeper (envOf name scope L a cd)) (noteFrame (.ref e) (envOf name scope L a cd))
      (fun _ s₂ => wpAny (model prog w) (A₀.deeper (envOf name scope L a cd)) (setFlight (.ref e) none) (fun _ s₃ =>
        wpAny (model prog w) (A₀.deeper (envOf name scope L a cd)) (handleBy (.ref e) (envOf name scope L a cd) (.ExceptHandler (some (.Name (Str.ofString "StopIteration") np)) none (b₀ :: suite) pos :: rest)) Q E s₃) E s₂) E s := by
  obtain ⟨ex, hg, rfl, hge⟩ := S.spec
  have N₀ : News hb L h ((ex ++ r0) ++ frs) := by rw [List.append_assoc]; exact N
  refine TLg.noted_newA (new := ex ++ r0) hfr Fs hx F N₀ (fun q hq hm => ?_) (fun h' frs' SU Fs' H => ?_) hk
  · rcases List.mem_cons.mp hm with z | z
    · exact (N₀ q (List.mem_append_left _ hq)).2.1 z
    · rcases List.mem_append.mp hq with hq | hq
      · obtain ⟨q', hq', e'⟩ := List.mem_map.mp z
        have h1 := hR q' (List.mem_append_right _ hq')
        have h2 := hge q hq
        rw [e'] at h1
        exact absurd h1 (Nat.not_lt.mpr h2)
      · exact hr0 q hq z
  · refine TT.HeldNA.land H fun h'' H' => ?_
    refine TT.clause_hitTN H' T t1 t2 t3 t4 t5 (k := fun h₃ F₃ N₃ => ?_) (hv := by boot_by_name) (hk := hk) (hxk := hxk) (hE := hE)
    have ea := sameUp_addr SU
    refine k h₃ frs' SU Fs' (fun q hq => ?_) (fun q hq => by rw [ea]; exact hr0 q hq) F₃ (by rw [hg, ← List.append_assoc]; exact N₃)
    rcases List.mem_append.mp hq with hq | hq
    · exact hR q (List.mem_append_left _ hq)
    · have : q.1 ∈ frs.map (·.1) := by rw [← ea]; exact List.mem_map_of_mem hq
      obtain ⟨q', hq', e'⟩ := List.mem_map.mp this
      exact e' ▸ hR q' (List.mem_append_right _ hq')
end
section
variable {prog : Program} {w : World} {A : Around} {E : Value → Shared → Prop} {s : Shared} {h₀ : Heap} {L ax : Addr} {news : List (Addr × Obj)} {vs : Array Value} {v : Value} {n : Nat} {Q : Bool → Shared → Prop}
theorem truthyPush (N : News h₀ L s.heap news) (hm : (ax, W.listOf (vs.push v) n) ∈ news) (hz : vs.size ≤ 1000) (h : Q true { s with toks := s.toks + 1 + 1 }) : wpAny (model prog w) A (truthy (.ref ax)) Q E s := by
  refine wpAny_truthy_list (items := vs.push v) ⟨_, (N _ hm).1, rfl, n, rfl⟩ (by simp only [Array.size_push]; omega) ?_
  have e : (vs.push v).isEmpty = false := by simp
  rw [e]; exact h
theorem truthyNil (N : News h₀ L s.heap news) (hm : (ax, W.listOf #[] n) ∈ news) (h : Q false { s with toks := s.toks + 1 + 1 }) : wpAny (model prog w) A (truthy (.ref ax)) Q E s := by
  exact wpAny_truthy_list (items := #[]) ⟨_, (N _ hm).1, rfl, n, rfl⟩ (by decide) h
theorem truthyCons {us : List Value} (N : News h₀ L s.heap news) (hm : (ax, W.listOf (v :: us).toArray n) ∈ news) (hz : us.length ≤ 1000) (h : Q true { s with toks := s.toks + 1 + 1 }) : wpAny (model prog w) A (truthy (.ref ax)) Q E s := by
  refine wpAny_truthy_list (items := (v :: us).toArray) ⟨_, (N _ hm).1, rfl, n, rfl⟩ (by simp only [List.size_toArray, List.length_cons]; omega) ?_
  exact h
end
theorem LeaveT.of {hb : Heap} {outer : List Env} {L L' : Addr} {m m' : Str → Option Value} {oL : Obj} {frs frs2 new r0 all : List (Addr × Obj)} {R : Result → Shared → Prop} {v : Value} {s' : Shared}
    (F : Fr hb L' s'.heap m') (N : News hb L' s'.heap all) (hsub : ∀ p ∈ new ++ (r0 ++ frs2), p ∈ all) (SU : TI.SameUp ((L, oL) :: frs) frs2) (hne : ∀ q ∈ new ++ r0, q.1 ≠ L)
    (k : ∀ frs', TI.SameUp frs frs' → TI.Frs outer frs' → Fr hb L s'.heap m → News hb L s'.heap (new ++ (r0 ++ frs')) → R (.ok (.ret v)) s') : LeaveT hb outer L m oL frs R v s' := by
  cases frs2 with
  | nil => exact SU.elim
  | cons q qs =>
    obtain ⟨q1, q2⟩ := q
    obtain ⟨h1, ⟨sl, h2⟩, h3⟩ := SU
    obtain rfl : q1 = L := h1
    obtain rfl : q2 = { oL with slots := sl } := h2
    refine ⟨L', m', new ++ r0, sl, qs, F, fun p hp => N p (hsub p ?_), h3, hne, fun Fs F' N' => k qs h3 Fs F' (by rw [← List.append_assoc]; exact N')⟩
    rw [← List.append_assoc]; exact hp
theorem frEq {hb h : Heap} {L : Addr} {m m' : Str → Option Value} (F : Fr hb L h m) (e : ∀ y, m y = m' y) : Fr hb L h m' := by
  have : m = m' := funext e
  rw [← this]; exact F
theorem nm1 {h₀ h : Heap} {L a : Addr} {oa : Obj} {r : List (Addr × Obj)} (_ : News h₀ L h ((a, oa) :: r)) : ∃ a', a' = a := ⟨_, rfl⟩
theorem off4 {a b c d I : Addr} {oa ob oc od : Obj} {r : List (Addr × Obj)} {X : Prop} (h : Nat.lt a I ∧ Nat.lt b I ∧ Nat.lt c I ∧ Nat.lt d I ∧ X) (hR : ∀ p ∈ r, p.1 < d) : ∀ p ∈ (a, oa) :: (b, ob) :: (c, oc) :: (d, od) :: r, p.1 ≠ I := fun p hp => by
  rcases List.mem_cons.mp hp with rfl | hp
  · exact Nat.ne_of_lt h.1
  rcases List.mem_cons.mp hp with rfl | hp
  · exact Nat.ne_of_lt h.2.1
  rcases List.mem_cons.mp hp with rfl | hp
  · exact Nat.ne_of_lt h.2.2.1
  rcases List.mem_cons.mp hp with rfl | hp
  · exact Nat.ne_of_lt h.2.2.2.1
  · exact Nat.ne_of_lt (Nat.lt_trans (hR p hp) h.2.2.2.1)
theorem meets_bool_new_list (l : Addr) (items : Array Value) :
    Meets (Builtin.«bool.__new__» ⟨[.type "bool", .ref l], []⟩) (fun _ R s => (s.heap.IsList l items ∧ (items.size : Int) < 2 ^ 63) ∧ R (.ok (.ret (.bool (!items.isEmpty)))) { s with toks := s.toks + 1 + 1 }) :=
  Meets.of_wp fun prog w A R s hs => by
    obtain ⟨⟨hl, hf⟩, hs⟩ := hs
    have f1 := PySem.F.conv_sub_bool
    repeat (any_goals (first | assumption | (with_reducible refine wpAny_truthy_list hl hf ?_) | wp_step))
    all_goals first | exact ⟨_, rfl, hs⟩ | exact hs | skip
theorem boolList {prog : Program} {w : World} {A : Around} {E : Value → Shared → Prop} {s : Shared} {h₀ : Heap} {L ax : Addr} {news : List (Addr × Obj)} {vs : Array Value} {n : Nat} {Q : Value → Shared → Prop}
    (N : News h₀ L s.heap news) (hm : (ax, W.listOf vs n) ∈ news) (hz : vs.size ≤ 1000) (h : Q (.bool (!vs.isEmpty)) { s with toks := s.toks + 1 + 1 }) : wpAny (model prog w) A (call (.type "bool") [.ref ax]) Q E s :=
  call_bool_1 (meets_bool_new_list ax vs) (show (s.heap.IsList ax vs ∧ _) ∧ wants (fun obj s₁ => s₁.TypeIs obj "bool" ∧ Q obj s₁) E _ _ from ⟨⟨⟨_, (N _ hm).1, rfl, n, rfl⟩, by omega⟩, ⟨rfl, h⟩⟩)
/-- the count of marks is let go -/
theorem tok_cut {α : Type} {M : Model} {A : Around} {t : Sem α} {Q : α → Shared → Prop} {E : Value → Shared → Prop} {h : Heap} {g d o} {k : Nat} (H : ∀ tk, wpAny M A t Q E ⟨h, g, d, tk, o⟩) : wpAny M A t Q E ⟨h, g, d, k, o⟩ := H k
theorem tok_cut1 {α : Type} {M : Model} {A : Around} {t : Sem α} {Q : α → Shared → Prop} {E : Value → Shared → Prop} {h : Heap} {g d o} {k n1 : Nat} (H : ∀ tk, wpAny M A t Q E ⟨h, g, d, tk, o⟩) : wpAny M A t Q E ⟨h, g, d, k + n1, o⟩ := H _
theorem tok_cut3 {α : Type} {M : Model} {A : Around} {t : Sem α} {Q : α → Shared → Prop} {E : Value → Shared → Prop} {h : Heap} {g d o} {k n1 n2 n3 : Nat} (H : ∀ tk, wpAny M A t Q E ⟨h, g, d, tk, o⟩) : wpAny M A t Q E ⟨h, g, d, k + n1 + n2 + n3, o⟩ := H _
theorem tok_cut6 {α : Type} {M : Model} {A : Around} {t : Sem α} {Q : α → Shared → Prop} {E : Value → Shared → Prop} {h : Heap} {g d o} {k n1 n2 n3 n4 n5 n6 : Nat} (H : ∀ tk, wpAny M A t Q E ⟨h, g, d, tk, o⟩) : wpAny M A t Q E ⟨h, g, d, k + n1 + n2 + n3 + n4 + n5 + n6, o⟩ := H _
/-- a fact out of a row of facts -/
theorem c0 {a z : Prop} (h : a ∧ z) : a := h.1
theorem c1 {p1 a z : Prop} (h : p1 ∧ a ∧ z) : a := h.2.1
theorem c2 {p1 p2 a z : Prop} (h : p1 ∧ p2 ∧ a ∧ z) : a := h.2.2.1
theorem c3 {p1 p2 p3 a z : Prop} (h : p1 ∧ p2 ∧ p3 ∧ a ∧ z) : a := h.2.2.2.1
theorem c4 {p1 p2 p3 p4 a z : Prop} (h : p1 ∧ p2 ∧ p3 ∧ p4 ∧ a ∧ z) : a := h.2.2.2.2.1
theorem c5 {p1 p2 p3 p4 p5 a z : Prop} (h : p1 ∧ p2 ∧ p3 ∧ p4 ∧ p5 ∧ a ∧ z) : a := h.2.2.2.2.2.1
theorem c6 {p1 p2 p3 p4 p5 p6 a z : Prop} (h : p1 ∧ p2 ∧ p3 ∧ p4 ∧ p5 ∧ p6 ∧ a ∧ z) : a := c5 h.2
theorem c7 {p1 p2 p3 p4 p5 p6 p7 a z : Prop} (h : p1 ∧ p2 ∧ p3 ∧ p4 ∧ p5 ∧ p6 ∧ p7 ∧ a ∧ z) : a := c6 h.2
theorem c8 {p1 p2 p3 p4 p5 p6 p7 p8 a z : Prop} (h : p1 ∧ p2 ∧ p3 ∧ p4 ∧ p5 ∧ p6 ∧ p7 ∧ p8 ∧ a ∧ z) : a := c7 h.2
theorem c9 {p1 p2 p3 p4 p5 p6 p7 p8 p9 a z : Prop} (h : p1 ∧ p2 ∧ p3 ∧ p4 ∧ p5 ∧ p6 ∧ p7 ∧ p8 ∧ p9 ∧ a ∧ z) : a := c8 h.2
theorem c10 {p1 p2 p3 p4 p5 p6 p7 p8 p9 p10 a z : Prop} (h : p1 ∧ p2 ∧ p3 ∧ p4 ∧ p5 ∧ p6 ∧ p7 ∧ p8 ∧ p9 ∧ p10 ∧ a ∧ z) : a := c9 h.2
theorem c11 {p1 p2 p3 p4 p5 p6 p7 p8 p9 p10 p11 a z : Prop} (h : p1 ∧ p2 ∧ p3 ∧ p4 ∧ p5 ∧ p6 ∧ p7 ∧ p8 ∧ p9 ∧ p10 ∧ p11 ∧ a ∧ z) : a := c10 h.2
theorem rowUp {I K a b c d : Nat} {X : Prop} (h : I < K) (r : a < I ∧ b < I ∧ c < I ∧ d < I ∧ X) : I < K ∧ a < K ∧ b < K ∧ c < K ∧ d < K ∧ True := ⟨h, Nat.lt_trans r.1 h, Nat.lt_trans r.2.1 h, Nat.lt_trans r.2.2.1 h, Nat.lt_trans r.2.2.2.1 h, trivial⟩
theorem rowUp' {I K a b c d e : Nat} {X : Prop} (h : I < K) (r : a < I ∧ b < I ∧ c < I ∧ d < I ∧ e < I ∧ X) : I < K ∧ a < K ∧ b < K ∧ c < K ∧ d < K ∧ e < K ∧ True := ⟨h, Nat.lt_trans r.1 h, Nat.lt_trans r.2.1 h, Nat.lt_trans r.2.2.1 h, Nat.lt_trans r.2.2.2.1 h, Nat.lt_trans r.2.2.2.2.1 h, trivial⟩
end
theorem fill : isF hd.heap_39 Challenge.rw_mq0328_01 := by
  k_fill
  exact trivial
local macro_rules | `(tactic| walk_at $s:str) => (let k := Lean.Syntax.mkStrLit ("z " ++ s.getString); `(tactic| k_extra $k))
local macro_rules | `(tactic| size_fits) => `(tactic| first | exact Nat.zero_le _ | exact Nat.le_of_ble_eq_true rfl | (rw [sizeLine_eq]; omega) | (simp only [Array.size_push, List.size_toArray, List.length_append, List.length_cons, List.length_nil, sizeLine_eq]; omega))
local macro_rules | `(tactic| k_ne) => `(tactic| first | assumption | exact Ne.symm (by assumption) | (refine neN ?_; (try dsimp only); first | exact Nat.ne_of_lt (by k_extra "k_conj") | exact Nat.ne_of_gt (by k_extra "k_conj")) | fail "k_ne")
local macro_rules | `(tactic| k_room) => `(tactic| ktr_room)
local macro_rules | `(tactic| k_units) => `(tactic| ktr_units)
local macro_rules | `(tactic| k_all) => `(tactic| first | assumption | exact restNe (by assumption) (Nat.le_refl _) | exact restNe (by assumption) (Nat.le_of_lt (by k_extra "k_conj")) | exact restNe (by assumption) (by omega) | fail "k_all")
local macro_rules | `(tactic| k_lt $h:ident) => `(tactic| ((first | ((fail_if_success (have := probe $h (by ((repeat apply sufR); exact List.suffix_refl _)) (by assumption))); have hR := sufLt $h (by ((repeat apply sufR); exact List.suffix_refl _))) | skip); replace $h := allLt_of $h; simp only [AllLt, and_true] at $h:ident))
local macro_rules | `(tactic| ktr_enter) => `(tactic| (kp_kind "rest"; (refine' kp_rest ?k1 ?k2 ?k3 ?k4 ?k5 ?kA ?kF ?kK ?k6 ?k7 ?k8 ?kV ?kP ?kG ?kB ?_ ?c2 ?c3 ?c4 ?c5; (case kA => exact rfl); (case kF => exact rfl); (case kK => assumption); (case k1 => k_asm); (case k2 => k_asm); (case k3 => k_asm); (case k4 => k_asm); (case k5 => k_asm); (case k6 => k_is); (case k7 => k_is); (case k8 => k_room); (case kV => kl_lit); (case kP => exact rfl); (case kG => exact fun _ => rfl); (case kB => exact fun _ => locs rfl); (case c5 => decide); (case c2 => exact rfl); (case c3 => exact rfl); (case c4 => exact rfl); k_whole; intro D' g' L' h' l1 FG' F' N' B' X' T'; (try k_lt l1); (try dsimp only); (try k_fold))))

local macro_rules | `(tactic| k_upd) => `(tactic| first | (refine' Out.here ?a; (case a => k_all)) | (refine' Out.next ?a ?b; (case a => k_ne); (case b => k_upd)))
local macro_rules | `(tactic| k_upd) => `(tactic| first | (refine' newsCons ?a ?b ?c; (case a => k_asm); (case b => k_mem); (case c => k_upd)) | exact newsRest (by k_asm) (by ((repeat apply sufR); exact List.suffix_refl _)) | fail "k_upd")
local macro_rules | `(tactic| k_mem) => `(tactic| first | exact List.mem_append_left _ (by assumption) | fail "k_mem")
local macro_rules | `(tactic| k_upd) => `(tactic| first | exact Sp.nil | (refine' Sp.cons ?a ?b; (case a => (refine leN ?_; (try dsimp only); first | exact Nat.le_refl _ | exact Nat.le_of_lt (by k_extra "k_conj") | omega)); (case b => k_upd)))
section
theorem kw05 : True := by
  w_top off
  k_with_none
  k_with "z getMethod ref" =>
    ((k_here; (with_reducible show wpAny _ _ (getMethod (Value.ref _) (Str.ofString "get") _) _ _ _); k_dflt (refine kdg_method (knd := PySem.strKind _ _) (by k_asm) (by k_mem) (by k_asm) ?_)))
  k_with "z call builtin:dict.get" =>
    ((k_here; k_dflt (refine kdg_get1 (knd := PySem.strKind _ _) (by k_asm) (by k_mem) (by k_asm) (by k_asm) (strKind_is _ _ _ _) _ (by k_asm) ?_); (try dsimp only [Option.getD])))
  k_with "z setItem ref str" =>
    ((k_here; k_dflt (refine' kda_set (knd := PySem.strKind _ _) (by k_asm) (by k_asm) (by k_updF) (by k_asm) (strKind_is _ _ _ _) (by (simp only [List.length_append, List.length_cons, List.length_nil, sizeLine_eq]; omega)) ?_); intro zh' zo' zF' zN' zhd'; (try dsimp only at zN'); (try first | rw [stored_nil] at zhd' | rw [stored_one (by assumption)] at zhd' | rw [stored_new _ _ _ (by assumption)] at zhd')))
  k_with "z exec For Name Name cons nil" =>
    ((k_here; (rename Fr _ _ _ _ => zlF'); (with_unfolding_all refine' For_turns zlF' ?_; k_whole)))
  k_with "z exec For Name Attribute cons nil" =>
    ((k_here; (rename Fr _ _ _ _ => zlF'); (with_unfolding_all refine' For_turns zlF' ?_; k_whole)))
  k_with "z exec For Name Call cons nil" =>
    ((k_here; (rename Fr _ _ _ _ => zlF'); (with_unfolding_all refine' For_turns zlF' ?_; k_whole)))
  k_with "z exec For Tuple Name cons nil" =>
    ((k_here; (rename Fr _ _ _ _ => zlF'); (with_unfolding_all refine' For_turns zlF' ?_; k_whole)))
  k_with "z exec For Name BinOp cons nil" =>
    ((k_here; (rename Fr _ _ _ _ => zlF'); (with_unfolding_all refine' For_turns zlF' ?_; k_whole)))
  k_with "z pyIter ref" =>
    ((k_here; (with_reducible show wpAny _ _ (pyIter (Value.ref _)) (fun it s₂ => TurnsAt _ _ _ _ _ _ _ _ _ it s₂) _ _); (rename Fr _ _ _ _ => zlF'); (rename News _ _ _ _ => zlN'); (with_unfolding_all refine iter_tup1 (by rfl) zlF' zlN' (by k_mem) (by rfl) (by rfl) ?_); clear zlF' zlN'; intro zi' zo' zh' ztk' zl1 zF' zN'; (try k_lt zl1)))
  k_with "z OneP" =>
    ((dsimp only [OneP]))
  k_with "z One" =>
    ((k_here; (k_dflt (refine' One.intro (by k_asm) (by k_asm) (by k_upd) (by k_mem) ?_; k_whole)); intro zh' ztk' zF' zN'))
  k_with "z subscriptTail" =>
    ((k_here; (with_reducible show wpAny _ _ (subscriptTail _ _ (Value.ref _) (Value.str _ _)) _ _ _); k_dflt (refine kda_item (knd := PySem.strKind _ _) (by k_asm) (by k_mem) (by k_asm) (strKind_is _ _ _ _) (by first | k_asm | exact vOne_get) ?_)))
  k_with "z call builtin:iter" =>
    ((k_here; (with_reducible show wpAny _ _ (call (Value.builtin "iter") [Value.ref _]) _ _ _); k_dflt (refine' iter_list_call (by k_asm) (by k_asm) (by k_mem) (by exact rfl) (by exact rfl) ?_; k_whole); intro zi' zh' zF' zN' zl1; (try k_lt zl1); (try k_sweep)))
  k_with "z getAttr ref" =>
    ((k_here; (with_reducible show wpAny _ _ (getAttr (Value.ref _) (Str.ofString "__next__") true) _ _ _); k_dflt (refine' next_attr (by k_asm) (by k_asm) (by k_mem) ?_; k_whole); intro zi' zh' zF' zN' zl1; (try k_lt zl1); (try k_sweep)))
  k_with "z callWith ref" =>
    ((k_here; (with_reducible show wpAny _ _ (callWith _ (Value.ref _) [] (backTo _ (starEach [] _)) []) _ _ _); k_dflt (refine' callWith_wrap (News.get (by k_asm) (by k_mem)) ?_; k_whole)))
  k_with "z call ref" =>
    ((k_here; (with_reducible show wpAny _ _ (call (Value.ref _) []) _ _ _); k_dflt (first
  | (refine' wrap_item (by k_asm) (by k_asm) (by k_mem) (by k_upd) (by k_mem) (by exact rfl) (by assumption) ?_; k_whole; intro zh' zF' zN'; (try k_sweep))
  | (refine' wrap_end (by exact rfl) (by k_asm) (by k_asm) (by k_mem) (by k_updF) (by k_mem) (by exact rfl) (by assumption) ?_; k_whole; intro zh₁' zh' ze' zo' zF' zN' ztiX'; (try dsimp only at zN')))))
  k_with "z noteFrame ref" =>
    ((k_here; (with_reducible rename Heap.NewExc _ _ _ _ => ztiX'); k_dflt (refine' caughtT (by exact rfl) (by assumption) ztiX' (by k_asm) (by k_asm) (by assumption) (by k_upd) (by assumption) (by assumption) (by decide +kernel) (by decide +kernel) (by decide +kernel) (by decide +kernel) (by decide +kernel) (by exact rfl) (by exact rfl) (by passes_own) ?_; k_whole); clear ztiX'; intro zh' zfrs' zsu' zfr' zhR' zh0' zF' zN'; (try dsimp only at zN')))
  k_with "z compareOp In str ref" =>
    ((k_here; k_dflt (first
  | (refine' set_in_b (by k_asm) (by k_updF) (by k_asm) (by first | assumption | exact Nat.lt_of_succ_lt (by assumption) | kse_small) _ (by assumption) ?_)
  | (refine' kda_in (knd := PySem.strKind _ _) (by k_asm) (by k_mem) (by k_asm) (by k_asm) (strKind_is _ _ _ _) _ (by first | assumption | exact vOne_self | exact vOne_ne (by assumption) | rfl) ?_))))
  k_with "z delItem ref str" =>
    ((k_here; k_dflt (refine' kob_del (knd := PySem.strKind _ _) (by k_asm) (by k_asm) (by k_updF) (by k_asm) (strKind_is _ _ _ _) (by first | exact vOne_self | exact vTwo_self | assumption) (by (rw [sizeLine_eq]; exact Nat.le_of_ble_eq_true rfl)) ?_); intro zh' zo' zF' zN' zhd'; (try dsimp only at zN'); (first | rw [wOne] at zhd' | rw [wTwo (by assumption)] at zhd')))
  k_with "z WhlRest" =>
    (((with_reducible show WhlRest _ _ _ _ _ (PySem.Expr.Constant _ _ _) _ _ _ _ _); refine parked ?_))
  k_with "z truthy ref" =>
    ((k_here; (with_reducible show wpAny _ _ (truthy (Value.ref _)) _ _ _); k_dflt (first
  | (refine' truthyPush (by k_asm) (by k_mem) (by first | exact Nat.zero_le _ | size_fits) ?_)
  | (refine' truthyNil (by k_asm) (by k_mem) ?_)
  | (refine' truthyCons (by k_asm) (by k_mem) (by size_fits) ?_))))
  k_with "z call type:bool" =>
    ((k_here; (with_reducible show wpAny _ _ (call _ [Value.ref _]) _ _ _); k_dflt (refine' boolList (by k_asm) (by k_mem) (by (simp only [List.size_toArray]; assumption)) ?_)))
  k_with "z call type:tuple" =>
    ((k_here; (with_reducible show wpAny _ _ (call (Value.type _) [Value.ref _]) _ _ _); k_dflt (refine' kde_tupleOf (by k_asm) (by k_asm) (by exact News.isList (by k_asm) (by k_mem)) (by first | omega | (simp only [List.size_toArray]; omega)) rfl ?_); intro zD' zh' zF' zN' zl1; (try k_lt zl1)))
  k_with "z call builtin:len" =>
    ((k_here; (with_reducible show wpAny _ _ (call (Value.builtin "len") [Value.ref _]) _ _ _); k_dflt (refine' kun_lenT (by exact News.isTup (by k_asm) (by k_mem)) rfl (by (simp only [List.size_toArray]; omega)) ?_)))
  k_with "z execs cons" =>
    (((try (k_here; k_made)); (try (with_reducible refine tok_cut1 ?_; intro tk; (try dsimp only))); (try k_fold); (with_reducible refine wpAny_execs_cons ?_); (try dsimp only); (try k_fold)))
  k_with "k_conj" =>
    (first | exact c0 (by assumption) | exact c1 (by assumption) | exact c2 (by assumption) | exact c3 (by assumption) | exact c4 (by assumption) | exact c5 (by assumption) | exact c6 (by assumption) | exact c7 (by assumption) | exact c8 (by assumption) | exact c9 (by assumption) | exact c10 (by assumption) | exact c11 (by assumption))
  trivial
theorem gn_new {w : World} {mean : ExcName → Option Value} {mg mb : Str → Option Value} {dp un : Nat} {gd : Option (List Code)} {cn : Str} {cs : Scope} {a : Addr} {ccd : Value} {cl : List (Str × Addr)} {outer : List Env} {A₀ : Around} {base h₀ : Heap} {L : Addr} {m : Str → Option Value}
    {rest : List (Addr × Obj)} {s : Shared} {Q E : Value → Shared → Prop} (cx : Cx w mean mg mb dp un cs outer A₀ base h₀) (F : Fr h₀ L s.heap m)
    {x dx d : Addr} {t1 t2 t3 t4 tk1 : Tok} {np nf : Value} {od : Obj} {kvs : List (Str × Value)} {line : Str}
    (N : News h₀ L s.heap ((x, instObj 137 dx) :: (dx, sortD w t1 t2 t3 t4 d .none np nf) :: (d, od) :: rest))
    (hod : od.IsDictOf (strKind Challenge.rw_mq0328_01.row.prog w) kvs) (lo : (d == sysModules) = false) (hsz : kvs.length ≤ 1000)
    (hv : valueAt kvs line = none) (h1 : x ≠ d) (h2 : dx ≠ d) (h3 : ∀ p ∈ rest, p.1 ≠ d)
    (ret : ∀ d1 a1 s1 n1 od' h' tk', x < d1 → dx < d1 → d < d1 → (∀ p ∈ rest, p.1 < d1) → d1 < a1 → a1 < s1 →
      od'.IsDictOf (strKind Challenge.rw_mq0328_01.row.prog w) (kvs ++ [(line, .ref a1)]) → Fr h₀ L h' m →
      News h₀ L h' ((x, instObj 137 dx) :: (dx, sortD w t1 t2 t3 t4 d .none np nf) :: (d, od') :: (a1, infoO d1 s1 0 n1 line tk1) :: (d1, dictOf [] 0) :: (s1, W.listOf #[] 0) :: rest) → Q (.ref a1) { s with heap := h', toks := tk' }) :
    wpAny (model Challenge.rw_mq0328_01.row.prog w) (ktrTop dp un gd cn cs L a ccd cl outer) (call (.ref 80) [.ref x, .str line tk1]) Q E s := by
  obtain ⟨B, X, T, hk, hdp, hu⟩ := cx
  refine wpAny_call ?_
  k_dflt ktr_enter
  k_steps
  refine' ret _ _ _ _ _ _ _ ?g1 ?g2 ?g3 (by assumption) ?g5 ?g6 (by k_asm) (by k_asm) ?N
  case N => k_upd
  all_goals first | (refine ltN ?_; k_extra "k_conj") | (refine ltN ?_; omega)
theorem gn_old {w : World} {mean : ExcName → Option Value} {mg mb : Str → Option Value} {dp un : Nat} {gd : Option (List Code)} {cn : Str} {cs : Scope} {a : Addr} {ccd : Value} {cl : List (Str × Addr)} {outer : List Env} {A₀ : Around} {base h₀ : Heap} {L : Addr} {m : Str → Option Value}
    {rest : List (Addr × Obj)} {s : Shared} {Q E : Value → Shared → Prop} (cx : Cx w mean mg mb dp un cs outer A₀ base h₀) (F : Fr h₀ L s.heap m)
    {x dx d an : Addr} {t1 t2 t3 t4 tk1 : Tok} {np nf : Value} {od : Obj} {kvs : List (Str × Value)} {line : Str}
    (N : News h₀ L s.heap ((x, instObj 137 dx) :: (dx, sortD w t1 t2 t3 t4 d .none np nf) :: (d, od) :: rest))
    (hod : od.IsDictOf (strKind Challenge.rw_mq0328_01.row.prog w) kvs) (lo : (d == sysModules) = false) (hv : valueAt kvs line = some (.ref an))
    (ret : ∀ h' tk', Fr h₀ L h' m → News h₀ L h' ((x, instObj 137 dx) :: (dx, sortD w t1 t2 t3 t4 d .none np nf) :: (d, od) :: rest) → Q (.ref an) { s with heap := h', toks := tk' }) :
    wpAny (model Challenge.rw_mq0328_01.row.prog w) (ktrTop dp un gd cn cs L a ccd cl outer) (call (.ref 80) [.ref x, .str line tk1]) Q E s := by
  obtain ⟨B, X, T, hk, hdp, hu⟩ := cx
  refine wpAny_call ?_
  k_dflt ktr_enter
  k_steps
  exact ret _ _ (by k_asm) (by k_asm)
end
section
theorem kw06 : True := by
  w_top off
  k_with_none
  k_with "z getMethod ref" =>
    ((k_here; (with_reducible show wpAny _ _ (getMethod (Value.ref _) (Str.ofString "get") _) _ _ _); k_dflt (refine kdg_method (knd := PySem.strKind _ _) (by k_asm) (by k_mem) (by k_asm) ?_)))
  k_with "z call builtin:dict.get" =>
    ((k_here; k_dflt (refine kdg_get1 (knd := PySem.strKind _ _) (by k_asm) (by k_mem) (by k_asm) (by k_asm) (strKind_is _ _ _ _) _ (by k_asm) ?_); (try dsimp only [Option.getD])))
  k_with "z setItem ref str" =>
    ((k_here; k_dflt (refine' kda_set (knd := PySem.strKind _ _) (by k_asm) (by k_asm) (by k_updF) (by k_asm) (strKind_is _ _ _ _) (by (simp only [List.length_append, List.length_cons, List.length_nil, sizeLine_eq]; omega)) ?_); intro zh' zo' zF' zN' zhd'; (try dsimp only at zN'); (try first | rw [stored_nil] at zhd' | rw [stored_one (by assumption)] at zhd' | rw [stored_new _ _ _ (by assumption)] at zhd')))
  k_with "z exec For Name Name cons nil" =>
    ((k_here; (rename Fr _ _ _ _ => zlF'); (with_unfolding_all refine' For_turns zlF' ?_; k_whole)))
  k_with "z exec For Name Attribute cons nil" =>
    ((k_here; (rename Fr _ _ _ _ => zlF'); (with_unfolding_all refine' For_turns zlF' ?_; k_whole)))
  k_with "z exec For Name Call cons nil" =>
    ((k_here; (rename Fr _ _ _ _ => zlF'); (with_unfolding_all refine' For_turns zlF' ?_; k_whole)))
  k_with "z exec For Tuple Name cons nil" =>
    ((k_here; (rename Fr _ _ _ _ => zlF'); (with_unfolding_all refine' For_turns zlF' ?_; k_whole)))
  k_with "z exec For Name BinOp cons nil" =>
    ((k_here; (rename Fr _ _ _ _ => zlF'); (with_unfolding_all refine' For_turns zlF' ?_; k_whole)))
  k_with "z pyIter ref" =>
    ((k_here; (with_reducible show wpAny _ _ (pyIter (Value.ref _)) (fun it s₂ => TurnsAt _ _ _ _ _ _ _ _ _ it s₂) _ _); (rename Fr _ _ _ _ => zlF'); (rename News _ _ _ _ => zlN'); (with_unfolding_all refine iter_tup1 (by rfl) zlF' zlN' (by k_mem) (by rfl) (by rfl) ?_); clear zlF' zlN'; intro zi' zo' zh' ztk' zl1 zF' zN'; (try k_lt zl1)))
  k_with "z OneP" =>
    ((dsimp only [OneP]))
  k_with "z One" =>
    ((k_here; (k_dflt (refine' One.intro (by k_asm) (by k_asm) (by k_upd) (by k_mem) ?_; k_whole)); intro zh' ztk' zF' zN'))
  k_with "z subscriptTail" =>
    ((k_here; (with_reducible show wpAny _ _ (subscriptTail _ _ (Value.ref _) (Value.str _ _)) _ _ _); k_dflt (refine kda_item (knd := PySem.strKind _ _) (by k_asm) (by k_mem) (by k_asm) (strKind_is _ _ _ _) (by first | k_asm | exact vOne_get) ?_)))
  k_with "z call builtin:iter" =>
    ((k_here; (with_reducible show wpAny _ _ (call (Value.builtin "iter") [Value.ref _]) _ _ _); k_dflt (refine' iter_list_call (by k_asm) (by k_asm) (by k_mem) (by exact rfl) (by exact rfl) ?_; k_whole); intro zi' zh' zF' zN' zl1; (try k_lt zl1); (try k_sweep)))
  k_with "z getAttr ref" =>
    ((k_here; (with_reducible show wpAny _ _ (getAttr (Value.ref _) (Str.ofString "__next__") true) _ _ _); k_dflt (refine' next_attr (by k_asm) (by k_asm) (by k_mem) ?_; k_whole); intro zi' zh' zF' zN' zl1; (try k_lt zl1); (try k_sweep)))
  k_with "z callWith ref" =>
    ((k_here; (with_reducible show wpAny _ _ (callWith _ (Value.ref _) [] (backTo _ (starEach [] _)) []) _ _ _); k_dflt (refine' callWith_wrap (News.get (by k_asm) (by k_mem)) ?_; k_whole)))
  k_with "z call ref" =>
    ((k_here; (with_reducible show wpAny _ _ (call (Value.ref _) []) _ _ _); k_dflt (first
  | (refine' wrap_item (by k_asm) (by k_asm) (by k_mem) (by k_upd) (by k_mem) (by exact rfl) (by assumption) ?_; k_whole; intro zh' zF' zN'; (try k_sweep))
  | (refine' wrap_end (by exact rfl) (by k_asm) (by k_asm) (by k_mem) (by k_updF) (by k_mem) (by exact rfl) (by assumption) ?_; k_whole; intro zh₁' zh' ze' zo' zF' zN' ztiX'; (try dsimp only at zN')))))
  k_with "z noteFrame ref" =>
    ((k_here; (with_reducible rename Heap.NewExc _ _ _ _ => ztiX'); k_dflt (refine' caughtT (by exact rfl) (by assumption) ztiX' (by k_asm) (by k_asm) (by assumption) (by k_upd) (by assumption) (by assumption) (by decide +kernel) (by decide +kernel) (by decide +kernel) (by decide +kernel) (by decide +kernel) (by exact rfl) (by exact rfl) (by passes_own) ?_; k_whole); clear ztiX'; intro zh' zfrs' zsu' zfr' zhR' zh0' zF' zN'; (try dsimp only at zN')))
  k_with "z compareOp In str ref" =>
    ((k_here; k_dflt (first
  | (refine' set_in_b (by k_asm) (by k_updF) (by k_asm) (by first | assumption | exact Nat.lt_of_succ_lt (by assumption) | kse_small) _ (by assumption) ?_)
  | (refine' kda_in (knd := PySem.strKind _ _) (by k_asm) (by k_mem) (by k_asm) (by k_asm) (strKind_is _ _ _ _) _ (by first | assumption | exact vOne_self | exact vOne_ne (by assumption) | rfl) ?_))))
  k_with "z delItem ref str" =>
    ((k_here; k_dflt (refine' kob_del (knd := PySem.strKind _ _) (by k_asm) (by k_asm) (by k_updF) (by k_asm) (strKind_is _ _ _ _) (by first | exact vOne_self | exact vTwo_self | assumption) (by (rw [sizeLine_eq]; exact Nat.le_of_ble_eq_true rfl)) ?_); intro zh' zo' zF' zN' zhd'; (try dsimp only at zN'); (first | rw [wOne] at zhd' | rw [wTwo (by assumption)] at zhd')))
  k_with "z WhlRest" =>
    (((with_reducible show WhlRest _ _ _ _ _ (PySem.Expr.Constant _ _ _) _ _ _ _ _); refine parked ?_))
  k_with "z truthy ref" =>
    ((k_here; (with_reducible show wpAny _ _ (truthy (Value.ref _)) _ _ _); k_dflt (first
  | (refine' truthyPush (by k_asm) (by k_mem) (by first | exact Nat.zero_le _ | size_fits) ?_)
  | (refine' truthyNil (by k_asm) (by k_mem) ?_)
  | (refine' truthyCons (by k_asm) (by k_mem) (by size_fits) ?_))))
  k_with "z call type:bool" =>
    ((k_here; (with_reducible show wpAny _ _ (call _ [Value.ref _]) _ _ _); k_dflt (refine' boolList (by k_asm) (by k_mem) (by (simp only [List.size_toArray]; assumption)) ?_)))
  k_with "z call type:tuple" =>
    ((k_here; (with_reducible show wpAny _ _ (call (Value.type _) [Value.ref _]) _ _ _); k_dflt (refine' kde_tupleOf (by k_asm) (by k_asm) (by exact News.isList (by k_asm) (by k_mem)) (by first | omega | (simp only [List.size_toArray]; omega)) rfl ?_); intro zD' zh' zF' zN' zl1; (try k_lt zl1)))
  k_with "z call builtin:len" =>
    ((k_here; (with_reducible show wpAny _ _ (call (Value.builtin "len") [Value.ref _]) _ _ _); k_dflt (refine' kun_lenT (by exact News.isTup (by k_asm) (by k_mem)) rfl (by (simp only [List.size_toArray]; omega)) ?_)))
  k_with "z execs cons" =>
    (((try (k_here; k_made)); (try (with_reducible refine tok_cut1 ?_; intro tk; (try dsimp only))); (try k_fold); (with_reducible refine wpAny_execs_cons ?_); (try dsimp only); (try k_fold)))
  k_with "k_conj" =>
    (first | exact c0 (by assumption) | exact c1 (by assumption) | exact c2 (by assumption) | exact c3 (by assumption) | exact c4 (by assumption) | exact c5 (by assumption) | exact c6 (by assumption) | exact c7 (by assumption) | exact c8 (by assumption) | exact c9 (by assumption) | exact c10 (by assumption) | exact c11 (by assumption))
  k_with "z WhlRest" =>
    (((with_reducible show WhlRest _ _ _ _ _ (PySem.Expr.Name _ _) _ _ _ _ _); refine parked ?_))
  trivial
/-- what holds between the turns over the nodes -/
inductive FindA (w : World) (ns : List Nd) (m0 : Str → Option Value) (fr0 : List (Addr × Obj)) (out : List Env) (n2 sn its stk : Addr) (r0 : List (Addr × Obj)) (i : Nat) (m' : Str → Option Value) (l : List (Addr × Obj)) : Prop
  | mk (o : Option Value) (S : Str → Bool) (n : Nat) (os on2 : Obj) (e1 e2 : Nat) (frs' : List (Addr × Obj)) (em : m' = fun y => if y = Str.ofString "node" then o else m0 y) (SU : TI.SameUp fr0 frs') (Fs : TI.Frs out frs')
    (el : l = (n2, on2) :: (sn, os) :: (its, W.listOf #[] e1) :: (stk, W.listOf #[] e2) :: (r0 ++ frs')) (hon : on2.IsDictOf (strKind Challenge.rw_mq0328_01.row.prog w) []) (hos : os.SetObjOf (strKind Challenge.rw_mq0328_01.row.prog w) S n) (hn : n ≤ 41 * i)
    (hseen : ∀ j < i, ∀ nd, ns[j]? = some nd → S nd.key = true) (hheld : ∀ nd ∈ ns, S nd.key = true → nd.held = false) : FindA w ns m0 fr0 out n2 sn its stk r0 i m' l
/-- what holds where the inner loop stands at the one node's own iterator -/
inductive FindB (w : World) (ns : List Nd) (nd : Nd) (i : Nat) (s : Shared) (hb : Heap) (L' : Addr) (m0 : Str → Option Value) (fr0 : List (Addr × Obj)) (out : List Env) (I : Addr) (oI : Obj) (n2 sn its stk : Addr) (r0 : List (Addr × Obj)) (j : Nat) : Shared → Prop
  | mk (h : Heap) (tk : Nat) (o : Option Value) (q Ik : Addr) (S : Str → Bool) (n : Nat) (os on2 : Obj) (t0 : Tok) (e1 e2 : Nat) (tkk : Tok) (frs2 : List (Addr × Obj)) (F : Fr hb L' h (fun y => if y = Str.ofString "node" then o else m0 y))
    (N : News hb L' h ((q, wrapIt Ik) :: (Ik, listIt nd.s j) :: (I, oI) :: (n2, on2) :: (sn, os) :: (its, W.listOf (#[].push (.ref q)) e1) :: (stk, W.listOf (#[].push (.str nd.key tkk)) e2) :: (r0 ++ frs2))) (hIk : I < Ik) (hq : Ik < q)
    (hon : on2.IsDictOf (strKind Challenge.rw_mq0328_01.row.prog w) [(nd.key, .int 0 t0)]) (hos : os.SetObjOf (strKind Challenge.rw_mq0328_01.row.prog w) S n) (hn : n ≤ 41 * i + 1 + j) (hj : j ≤ nd.su.length) (SU : TI.SameUp fr0 frs2) (Fs : TI.Frs out frs2) (hk : S nd.key = true)
    (hseen : ∀ j < i, ∀ nd, ns[j]? = some nd → S nd.key = true) (hheld : ∀ nd' ∈ ns, S nd'.key = true → nd'.key ≠ nd.key → nd'.held = false) (hself : ∀ j' < j, ∀ v, nd.su.toArray[j']? = some v → v.isStr nd.key = false) :
    FindB w ns nd i s hb L' m0 fr0 out I oI n2 sn its stk r0 j { s with heap := h, toks := tk }
theorem find_cycle {w : World} {mean : ExcName → Option Value} {mg mb : Str → Option Value} {dp un : Nat} {gd : Option (List Code)} {cn : Str} {cs : Scope} {a : Addr} {ccd : Value} {cl : List (Str × Addr)} {outer : List Env} {hb : Heap} {L : Addr} {m : Str → Option Value}
    {s : Shared} {Q E : Value → Shared → Prop} {r0 frs : List (Addr × Obj)} (X : (hd.heap_39 w.params).In hb) (T : Top hd.view_39 (looseW hd.view_39 [Str.ofString "_NodeInfo"]) mean mg mb hb) (hk : cs.kind = .function) (hdp : dp + 40 < recursionLimit) (hu : un + 400 < cLine)
    (Fs : TI.Frs outer frs) (F : Fr hb L s.heap m) (N : News hb L s.heap (r0 ++ frs)) (hr0 : ∀ p ∈ r0, p.1 ∉ frs.map (·.1))
    {x dx d : Addr} {t1 t2 t3 t4 : Tok} {rd np nf : Value} {od : Obj} {ns : List Nd}
    (hx : (x, instObj 137 dx) ∈ r0) (hdx : (dx, sortD w t1 t2 t3 t4 d rd np nf) ∈ r0) (hdm : (d, od) ∈ r0) (hod : od.IsDictOf (strKind Challenge.rw_mq0328_01.row.prog w) (kvsN ns)) (lo : (d == sysModules) = false)
    (hns : ∀ p ∈ ledN ns, p ∈ r0) (hnd : (ns.map (·.key)).Nodup) (hlen : ns.length ≤ 40) (hlen2 : ∀ nd ∈ ns, nd.su.length ≤ 40)
    (hsu : ∀ nd ∈ ns, ∀ v ∈ nd.su, ∃ nd' ∈ ns, ∃ t, v = .str nd'.key t ∧ (nd'.key = nd.key ∨ nd'.su = []))
    (ret : ∀ r h' tk' frs' new, TI.SameUp frs frs' → TI.Frs outer frs' → Fr hb L h' m → News hb L h' (new ++ (r0 ++ frs')) →
      ((firstHeld ns = none ∧ r = .none ∧ new = []) ∨ ∃ k b t t' e, firstHeld ns = some k ∧ r = .ref b ∧ new = [(b, W.listOf #[.str k t, .str k t'] e)] ∧ ∀ p ∈ r0 ++ frs', p.1 < b) → Q r { s with heap := h', toks := tk' }) :
    wpAny (model Challenge.rw_mq0328_01.row.prog w) (ktrTop dp un gd cn cs L a ccd cl outer) (call (.ref 127) [.ref x]) Q E s := by
  refine wpAny_call ?_
  k_dflt (refine' code_defT (news := r0) ?kA ?kF ?kK Fs F X N T ?k6 ?k7 ?k8 ?k9 ?kB ?_ ?c2 ?c3 ?c4 ?c5; (case kA => exact rfl); (case kF => exact rfl); (case kK => assumption); (case k6 => k_is); (case k7 => k_is); (case k8 => k_room); (case k9 => exact BindsTo.of_eq rfl); (case kB => exact locs rfl); (case c5 => decide); (case c2 => exact rfl); (case c3 => exact rfl); (case c4 => exact rfl); k_whole)
  intro L' h' oL FsL hL' F' N'
  clear hL'
  have hr0L : ∀ p ∈ r0, p.1 ∉ ((L, oL) :: frs).map (·.1) := fun p hp hm => by
    rcases List.mem_cons.mp hm with z | z
    · exact (N p (List.mem_append_left _ hp)).2.1 z
    · exact hr0 p hp z
  have hL0 : ∀ p ∈ r0, p.1 ≠ L := fun p hp => (N p (List.mem_append_left _ hp)).2.1
  (try dsimp only); (try k_fold)
  k_steps
  (rename Fr _ _ _ _ => lF'); (rename News _ _ _ _ => lN')
  rename_i stk _ _ _ _ _ _ its _ _ _ _ _ _ sn _ _ _ _ _ _ _ _ _ n2 _ _ _ _ _ _ _ _ _
  refine frMK lF' fun m0 em F0 => ?_
  rename (∀ p ∈ r0 ++ (L, oL) :: frs, p.1 < stk) => hR0
  refine iter_keysInv (by rfl) F0 lN' (by k_mem) hod lo (fun _ i m' l => FindA w ns m0 ((L, oL) :: frs) (envX cn cs L a ccd cl :: outer) n2 sn its stk r0 i m' l) ?_ ?_ ?_ ?_
  · intro _ _ _ _ hj
    cases hj with | mk o S n os on2 e1 e2 frs' e1' SU Fs' e2' _ _ _ _ _ =>
    rw [e2']; k_mem
  · intro I _
    refine .mk none (fun _ => false) 0 _ _ 0 0 ((L, oL) :: frs) ?_ (TI.SameUp.refl _) FsL rfl (by assumption) (by assumption) (Nat.zero_le _) (fun j hj => absurd hj (Nat.not_lt_zero _)) (fun _ _ h => by cases h)
    funext y
    by_cases hy : y = Str.ofString "node"
    · rw [if_pos hy, hy, em]; rfl
    · rw [if_neg hy]
  · intro I hI oI i key u t m₁ news₁ h₁ tk₁ hku hj hne hcI F₁ N₁
    clear lN' F0 lF'
    have hkv := kvAt hku
    clear hku hne hcI
    cases hkv with | mk nd hi hmem =>
    cases hj with | mk o S n os on2 e1 e2 frs' e1' SU Fs' e2' hon2 hos hn hseen hheld =>
    replace F₁ := frTo F₁ e1'
    rw [em] at F₁
    replace N₁ := newsTo1 N₁ e2'
    have m1 := hns _ (ledN_mem hmem (List.mem_cons_self ..))
    have m2 := hns _ (ledN_mem hmem (.tail _ (.head _)))
    have m3 := hns _ (ledN_mem hmem (.tail _ (.tail _ (.head _))))
    have hva := kvsN_at hnd hmem
    have hR1 := restUp (sameUp_addr SU) hR0
    have h01 : ∀ p ∈ r0, p.1 ∉ frs'.map (·.1) := by rw [sameUp_addr SU]; exact hr0L
    have hi40 : i < ns.length := (List.getElem?_eq_some_iff.mp hi).1
    have hn' : n + 1 < scanBound := by unfold scanBound; omega
    clear hR0 hr0L FsL hr0 Fs N F
    k_lt hI
    cases hS : S nd.key with
    | true =>
      -- DEV{
      k_steps
      refine' unrEnd' (news' := (n2, _) :: (sn, _) :: (its, W.listOf #[] _) :: (stk, W.listOf #[] _) :: (r0 ++ _)) (frTo (m' := fun y => if y = Str.ofString "node" then some (.str nd.key t) else m0 y) (by k_asm) ?e) ?N ?off ?r
      case e => rw [em]; exact updU
      case N => k_upd
      case off => exact off4 hI (by assumption)
      case r => exact .mk _ S n _ _ _ _ _ rfl SU Fs' rfl (by assumption) (by assumption) (Nat.le_trans hn (Nat.mul_le_mul_left 41 (Nat.le_succ i))) (seenSucc hi hseen hS) hheld
      -- DEV}
    | false =>
      k_steps
      refine whl_turn (k := 0) (by passes_own) ?_
      k_steps
      unfold Parked
      refine byInd (P := WhlRest _ _ _ _ _ _ _ _ _ _) (fun (j : Nat) s' => FindB w ns nd i s hb L' m0 ((L, oL) :: frs) (envX cn cs L a ccd cl :: outer) I oI n2 sn its stk r0 j s') (fun j => nd.su.length - j) ?step 0 _ ?start
      case start =>
        refine' .mk _ _ (some (.str nd.key t)) _ _ (fun k' => S k' || decide (k' = nd.key)) _ _ _ _ _ _ _ _ (frTo (by k_asm) ?zF) ?zN ?zl ?zk (by assumption) (by assumption) ?zn (Nat.zero_le _) SU (by assumption) (by simp) (seenMore (T := fun k' => decide (k' = nd.key)) hseen) (fun nd' hnd' hs' hne' => hheld nd' hnd' (by simpa [hne'] using hs')) (fun j' hj' => absurd hj' (Nat.not_lt_zero _))
        case zF => rw [em]; exact updU
        case zN => k_upd
        case zl => (refine ltN ?_; k_extra "k_conj")
        case zk => (refine ltN ?_; k_extra "k_conj")
        case zn => rw [hS]; simp only [Bool.false_eq_true, if_false]; omega
      case step =>
        repeat ((rename News _ _ _ _ => zz); clear zz)
        repeat ((rename Fr _ _ _ _ => zz); clear zz)
        intro j s' hB IH
        cases hB with | mk h tk o' q Ik S₁ n₁ os₁ on2₁ t0₁ e1₁ e2₁ tkk frs2 F₂ N₂ hIk hq hon hos₁ hn₁ hjl SU₂ Fs₂ hSk hseen₁ hheld₁ hself =>
        have hR2 : ∀ p ∈ r0 ++ frs2, p.1 < stk := restUp ((sameUp_addr SU₂).trans (sameUp_addr SU).symm) hR1
        have h02 : ∀ p ∈ r0, p.1 ∉ frs2.map (·.1) := by rw [sameUp_addr SU₂, ← sameUp_addr SU]; exact h01
        replace hIk := rowUp (ltN hIk) hI
        replace hq := rowUp' (ltN hq) hIk
        have hsl := hlen2 nd hmem
        have hn₂ : n₁ + 1 < scanBound := by unfold scanBound; omega
        rw [em] at F₂
        cases hv : nd.su.toArray[j]? with
        | none =>
          -- DEV{
          refine whl_turn (k := 0) (by passes_own) ?_
          k_steps
          refine whl_turn (k := 0) (by passes_own) ?_
          k_steps
          refine' unrEnd' (news' := (n2, _) :: (sn, _) :: (its, W.listOf #[] _) :: (stk, W.listOf #[] _) :: (r0 ++ _)) (by k_asm) ?N ?off ?r
          case N => k_upd
          case off => exact off4 hI (by assumption)
          case r => exact .mk o' S₁ n₁ _ _ _ _ _ (by rw [em]) (TI.SameUp.trans SU₂ (by assumption)) (by assumption) rfl (by assumption) (by assumption) (by omega) (seenSucc hi hseen₁ hSk) (heldJoin hnd hmem hheld₁ (held_end hself hv))
          -- DEV}
        | some v0 =>
          have hsv := suAt (hsu nd hmem v0 (toArr_some hv).1)
          cases hsv with | mk nd' hnd' t' hleaf =>
          have m1' := hns _ (ledN_mem hnd' (List.mem_cons_self ..))
          have m2' := hns _ (ledN_mem hnd' (.tail _ (.head _)))
          have m3' := hns _ (ledN_mem hnd' (.tail _ (.tail _ (.head _))))
          have hva' := kvsN_at hnd hnd'
          have hj40 : j < nd.su.length := (toArr_some hv).2
          -- DEV{
          refine whl_turn (k := 0) (by passes_own) ?_
          k_steps
          -- DEV}
          by_cases hvk : nd.key = nd'.key
          · cases key_inj hnd hmem hnd' hvk.symm
            -- DEV{
            refine whl_turn (k := 0) (by passes_own) ?_
            k_steps
            repeat ((with_reducible show (_ : Flow → Shared → Prop) _ _); k_unfold; (try dsimp only); (try k_steps))
            (rename News _ _ _ _ => lN3); (rename Fr _ _ _ _ => lF3)
            obtain ⟨D, rfl⟩ := nm1 lN3
            have hD : stk < D := by (refine ltN ?_; k_extra "k_conj")
            have hRL := restUp (sameUp_addr SU₂).symm hR2
            refine' LeaveT.of (new := [(_, W.listOf #[.str nd.key tkk, .str nd.key t'] 0)]) (r0 := r0) lF3 lN3 ?sub SU₂ ?ne (fun frs' su fs F N => ret _ _ _ _ _ su fs F N (.inr ⟨nd.key, _, tkk, t', 0, firstHeld_at hi (heldBefore hnd hi hseen₁ hheld₁) (held_of_one hv), rfl, rfl, fun p hp => Nat.lt_trans (restUp (sameUp_addr su) (fun p hp => hRL p (by
              rcases List.mem_append.mp hp with hp | hp
              · exact List.mem_append_left _ hp
              · exact List.mem_append_right _ (.tail _ hp))) p hp) hD⟩))
            case sub =>
              intro p hp
              rcases List.mem_cons.mp hp with rfl | hp
              · exact .head _
              · ((repeat apply List.Mem.tail); exact hp)
            case ne =>
              intro p hp
              rcases List.mem_cons.mp hp with rfl | hp
              · exact fun e => absurd (Nat.lt_trans (hRL (L, oL) (List.mem_append_right _ (.head _))) hD) (by rw [← e]; exact Nat.lt_irrefl _)
              · exact hL0 p hp
            -- DEV}
          · cases hSv : S₁ nd'.key with
            | true =>
              -- DEV{
              refine whl_turn (k := 0) (by passes_own) ?_
              k_steps
              unfold Parked
              refine' IH (j + 1) _ (by omega) (.mk _ _ (some (.str nd'.key t')) q Ik S₁ n₁ _ _ _ _ _ _ _ (frTo (by k_asm) ?zF) ?zN (c0 hIk) (c0 hq) (by assumption) (by assumption) (Nat.le_succ_of_le hn₁) hj40 SU₂ Fs₂ hSk hseen₁ hheld₁ (selfSucc hself hv hvk))
              case zF => rw [em]; exact updU
              case zN => k_upd
              -- DEV}
            | false =>
              have hsu' : nd'.su.toArray[0]? = none := by
                rcases hleaf with h | h
                · exact absurd h.symm hvk
                · rw [h]; rfl
              -- DEV{
              refine whl_turn (k := 0) (by passes_own) ?_
              k_steps
              refine whl_turn (k := 0) (by passes_own) ?_
              k_steps
              unfold Parked
              refine' IH (j + 1) _ (by omega) (.mk _ _ (some (.str nd'.key t')) q Ik (fun k' => S₁ k' || decide (k' = nd'.key)) _ _ _ _ _ _ _ _ (frTo (by k_asm) ?zF) ?zN (c0 hIk) (c0 hq) (by assumption) (by assumption) ?zn hj40 (TI.SameUp.trans SU₂ (by assumption)) (by assumption) (by simp [hSk]) (seenMore (T := fun k' => decide (k' = nd'.key)) hseen₁) (heldMore hnd hnd' hheld₁ (held_leaf hsu')) (selfSucc hself hv hvk))
              case zF => rw [em]; exact updU
              case zN => k_upd
              case zn => rw [hSv]; simp only [Bool.false_eq_true, if_false]; omega
              -- DEV}
  · intro I h' tk m' news' F' N' hj
    cases hj with | mk o S n os on2 e1 e2 frs' e1' SU Fs' e2' hon2 hos hn hseen hheld =>
    replace F' := frTo F' e1'
    rw [em] at F'
    replace N' := newsTo N' e2'
    k_steps
    show LeaveT hb outer L m oL frs _ .none _
    exact LeaveT.of (new := []) (r0 := r0) F' N' (fun p hp => .tail _ (.tail _ (.tail _ (.tail _ hp)))) SU hL0 (fun frs' su fs F N => ret _ _ _ _ [] su fs F N (.inl ⟨noneHeld hseen hheld, rfl, rfl⟩))
end
section
theorem kw07 : True := by
  w_top off
  k_with_none
  k_with "z getMethod ref" =>
    ((k_here; (with_reducible show wpAny _ _ (getMethod (Value.ref _) (Str.ofString "get") _) _ _ _); k_dflt (refine kdg_method (knd := PySem.strKind _ _) (by k_asm) (by k_mem) (by k_asm) ?_)))
  k_with "z call builtin:dict.get" =>
    ((k_here; k_dflt (refine kdg_get1 (knd := PySem.strKind _ _) (by k_asm) (by k_mem) (by k_asm) (by k_asm) (strKind_is _ _ _ _) _ (by k_asm) ?_); (try dsimp only [Option.getD])))
  k_with "z setItem ref str" =>
    ((k_here; k_dflt (refine' kda_set (knd := PySem.strKind _ _) (by k_asm) (by k_asm) (by k_updF) (by k_asm) (strKind_is _ _ _ _) (by (simp only [List.length_append, List.length_cons, List.length_nil, sizeLine_eq]; omega)) ?_); intro zh' zo' zF' zN' zhd'; (try dsimp only at zN'); (try first | rw [stored_nil] at zhd' | rw [stored_one (by assumption)] at zhd' | rw [stored_new _ _ _ (by assumption)] at zhd')))
  k_with "z exec For Name Name cons nil" =>
    ((k_here; (rename Fr _ _ _ _ => zlF'); (with_unfolding_all refine' For_turns zlF' ?_; k_whole)))
  k_with "z exec For Name Attribute cons nil" =>
    ((k_here; (rename Fr _ _ _ _ => zlF'); (with_unfolding_all refine' For_turns zlF' ?_; k_whole)))
  k_with "z exec For Name Call cons nil" =>
    ((k_here; (rename Fr _ _ _ _ => zlF'); (with_unfolding_all refine' For_turns zlF' ?_; k_whole)))
  k_with "z exec For Tuple Name cons nil" =>
    ((k_here; (rename Fr _ _ _ _ => zlF'); (with_unfolding_all refine' For_turns zlF' ?_; k_whole)))
  k_with "z exec For Name BinOp cons nil" =>
    ((k_here; (rename Fr _ _ _ _ => zlF'); (with_unfolding_all refine' For_turns zlF' ?_; k_whole)))
  k_with "z pyIter ref" =>
    ((k_here; (with_reducible show wpAny _ _ (pyIter (Value.ref _)) (fun it s₂ => TurnsAt _ _ _ _ _ _ _ _ _ it s₂) _ _); (rename Fr _ _ _ _ => zlF'); (rename News _ _ _ _ => zlN'); (with_unfolding_all refine iter_tup1 (by rfl) zlF' zlN' (by k_mem) (by rfl) (by rfl) ?_); clear zlF' zlN'; intro zi' zo' zh' ztk' zl1 zF' zN'; (try k_lt zl1)))
  k_with "z OneP" =>
    ((dsimp only [OneP]))
  k_with "z One" =>
    ((k_here; (k_dflt (refine' One.intro (by k_asm) (by k_asm) (by k_upd) (by k_mem) ?_; k_whole)); intro zh' ztk' zF' zN'))
  k_with "z subscriptTail" =>
    ((k_here; (with_reducible show wpAny _ _ (subscriptTail _ _ (Value.ref _) (Value.str _ _)) _ _ _); k_dflt (refine kda_item (knd := PySem.strKind _ _) (by k_asm) (by k_mem) (by k_asm) (strKind_is _ _ _ _) (by first | k_asm | exact vOne_get) ?_)))
  k_with "z call builtin:iter" =>
    ((k_here; (with_reducible show wpAny _ _ (call (Value.builtin "iter") [Value.ref _]) _ _ _); k_dflt (refine' iter_list_call (by k_asm) (by k_asm) (by k_mem) (by exact rfl) (by exact rfl) ?_; k_whole); intro zi' zh' zF' zN' zl1; (try k_lt zl1); (try k_sweep)))
  k_with "z getAttr ref" =>
    ((k_here; (with_reducible show wpAny _ _ (getAttr (Value.ref _) (Str.ofString "__next__") true) _ _ _); k_dflt (refine' next_attr (by k_asm) (by k_asm) (by k_mem) ?_; k_whole); intro zi' zh' zF' zN' zl1; (try k_lt zl1); (try k_sweep)))
  k_with "z callWith ref" =>
    ((k_here; (with_reducible show wpAny _ _ (callWith _ (Value.ref _) [] (backTo _ (starEach [] _)) []) _ _ _); k_dflt (refine' callWith_wrap (News.get (by k_asm) (by k_mem)) ?_; k_whole)))
  k_with "z call ref" =>
    ((k_here; (with_reducible show wpAny _ _ (call (Value.ref _) []) _ _ _); k_dflt (first
  | (refine' wrap_item (by k_asm) (by k_asm) (by k_mem) (by k_upd) (by k_mem) (by exact rfl) (by assumption) ?_; k_whole; intro zh' zF' zN'; (try k_sweep))
  | (refine' wrap_end (by exact rfl) (by k_asm) (by k_asm) (by k_mem) (by k_updF) (by k_mem) (by exact rfl) (by assumption) ?_; k_whole; intro zh₁' zh' ze' zo' zF' zN' ztiX'; (try dsimp only at zN')))))
  k_with "z noteFrame ref" =>
    ((k_here; (with_reducible rename Heap.NewExc _ _ _ _ => ztiX'); k_dflt (refine' caughtT (by exact rfl) (by assumption) ztiX' (by k_asm) (by k_asm) (by assumption) (by k_upd) (by assumption) (by assumption) (by decide +kernel) (by decide +kernel) (by decide +kernel) (by decide +kernel) (by decide +kernel) (by exact rfl) (by exact rfl) (by passes_own) ?_; k_whole); clear ztiX'; intro zh' zfrs' zsu' zfr' zhR' zh0' zF' zN'; (try dsimp only at zN')))
  k_with "z compareOp In str ref" =>
    ((k_here; k_dflt (first
  | (refine' set_in_b (by k_asm) (by k_updF) (by k_asm) (by first | assumption | exact Nat.lt_of_succ_lt (by assumption) | kse_small) _ (by assumption) ?_)
  | (refine' kda_in (knd := PySem.strKind _ _) (by k_asm) (by k_mem) (by k_asm) (by k_asm) (strKind_is _ _ _ _) _ (by first | assumption | exact vOne_self | exact vOne_ne (by assumption) | rfl) ?_))))
  k_with "z delItem ref str" =>
    ((k_here; k_dflt (refine' kob_del (knd := PySem.strKind _ _) (by k_asm) (by k_asm) (by k_updF) (by k_asm) (strKind_is _ _ _ _) (by first | exact vOne_self | exact vTwo_self | assumption) (by (rw [sizeLine_eq]; exact Nat.le_of_ble_eq_true rfl)) ?_); intro zh' zo' zF' zN' zhd'; (try dsimp only at zN'); (first | rw [wOne] at zhd' | rw [wTwo (by assumption)] at zhd')))
  k_with "z WhlRest" =>
    (((with_reducible show WhlRest _ _ _ _ _ (PySem.Expr.Constant _ _ _) _ _ _ _ _); refine parked ?_))
  k_with "z truthy ref" =>
    ((k_here; (with_reducible show wpAny _ _ (truthy (Value.ref _)) _ _ _); k_dflt (first
  | (refine' truthyPush (by k_asm) (by k_mem) (by first | exact Nat.zero_le _ | size_fits) ?_)
  | (refine' truthyNil (by k_asm) (by k_mem) ?_)
  | (refine' truthyCons (by k_asm) (by k_mem) (by size_fits) ?_))))
  k_with "z call type:bool" =>
    ((k_here; (with_reducible show wpAny _ _ (call _ [Value.ref _]) _ _ _); k_dflt (refine' boolList (by k_asm) (by k_mem) (by (simp only [List.size_toArray]; assumption)) ?_)))
  k_with "z call type:tuple" =>
    ((k_here; (with_reducible show wpAny _ _ (call (Value.type _) [Value.ref _]) _ _ _); k_dflt (refine' kde_tupleOf (by k_asm) (by k_asm) (by exact News.isList (by k_asm) (by k_mem)) (by first | omega | (simp only [List.size_toArray]; omega)) rfl ?_); intro zD' zh' zF' zN' zl1; (try k_lt zl1)))
  k_with "z call builtin:len" =>
    ((k_here; (with_reducible show wpAny _ _ (call (Value.builtin "len") [Value.ref _]) _ _ _); k_dflt (refine' kun_lenT (by exact News.isTup (by k_asm) (by k_mem)) rfl (by (simp only [List.size_toArray]; omega)) ?_)))
  k_with "z execs cons" =>
    (((try (k_here; k_made)); (try (with_reducible refine tok_cut1 ?_; intro tk; (try dsimp only))); (try k_fold); (with_reducible refine wpAny_execs_cons ?_); (try dsimp only); (try k_fold)))
  k_with "k_conj" =>
    (first | exact c0 (by assumption) | exact c1 (by assumption) | exact c2 (by assumption) | exact c3 (by assumption) | exact c4 (by assumption) | exact c5 (by assumption) | exact c6 (by assumption) | exact c7 (by assumption) | exact c8 (by assumption) | exact c9 (by assumption) | exact c10 (by assumption) | exact c11 (by assumption))
  trivial
theorem is_active {w : World} {mean : ExcName → Option Value} {mg mb : Str → Option Value} {dp un : Nat} {gd : Option (List Code)} {cn : Str} {cs : Scope} {a : Addr} {ccd : Value} {cl : List (Str × Addr)} {outer : List Env} {A₀ : Around} {base h₀ : Heap} {L : Addr} {m : Str → Option Value}
    {rest : List (Addr × Obj)} {s : Shared} {Q E : Value → Shared → Prop} (cx : Cx w mean mg mb dp un cs outer A₀ base h₀) (F : Fr h₀ L s.heap m)
    {x dx d rl : Addr} {t1 t2 t3 t4 tp tf : Tok} {n : Int} {vs : List Value} {e : Nat}
    (N : News h₀ L s.heap ((x, instObj 137 dx) :: (dx, sortD w t1 t2 t3 t4 d (.ref rl) (.int n tp) (.int n tf)) :: (rl, W.listOf vs.toArray e) :: rest)) (hn : 0 ≤ n) (hn' : n ≤ 1000) (hv : vs.length ≤ 1000)
    (ret : ∀ h' tk', Fr h₀ L h' m → News h₀ L h' ((x, instObj 137 dx) :: (dx, sortD w t1 t2 t3 t4 d (.ref rl) (.int n tp) (.int n tf)) :: (rl, W.listOf vs.toArray e) :: rest) → Q (.bool (!vs.isEmpty)) { s with heap := h', toks := tk' }) :
    wpAny (model Challenge.rw_mq0328_01.row.prog w) (ktrTop dp un gd cn cs L a ccd cl outer) (call (.ref 106) [.ref x]) Q E s := by
  obtain ⟨B, X, T, hk, hdp, hu⟩ := cx
  refine wpAny_call ?_
  k_dflt ktr_enter
  k_steps
  rw [List.isEmpty_toArray]
  exact ret _ _ (by k_asm) (by k_asm)
end
section
-- plain
def Sep (l : List (Addr × Obj)) : Prop := (l.map (·.1)).Nodup
theorem Sep.of_eq {l l' : List (Addr × Obj)} (h : Sep l) (e : l'.map (·.1) = l.map (·.1)) : Sep l' := by unfold Sep at *; rw [e]; exact h
theorem Sep.cons_iff {a : Addr} {o : Obj} {l : List (Addr × Obj)} : Sep ((a, o) :: l) ↔ (∀ p ∈ l, p.1 ≠ a) ∧ Sep l := by
  unfold Sep
  rw [List.map_cons, List.nodup_cons]
  refine and_congr_left fun _ => ⟨fun h p hp e => h (e ▸ List.mem_map_of_mem (f := (·.1)) hp), fun h hm => ?_⟩
  obtain ⟨p, hp, e⟩ := List.mem_map.mp hm
  exact h p hp e
theorem sep4 {x dx d r : Addr} {o1 o2 o3 o4 : Obj} {l : List (Addr × Obj)} (h : Sep ((x, o1) :: (dx, o2) :: (d, o3) :: (r, o4) :: l)) :
    x ≠ dx ∧ x ≠ d ∧ x ≠ r ∧ dx ≠ d ∧ dx ≠ r ∧ d ≠ r ∧ (∀ p ∈ l, p.1 ≠ x) ∧ (∀ p ∈ l, p.1 ≠ dx) ∧ (∀ p ∈ l, p.1 ≠ d) ∧ (∀ p ∈ l, p.1 ≠ r) ∧ Sep l := by
  obtain ⟨a1, h⟩ := Sep.cons_iff.mp h
  obtain ⟨a2, h⟩ := Sep.cons_iff.mp h
  obtain ⟨a3, h⟩ := Sep.cons_iff.mp h
  obtain ⟨a4, h⟩ := Sep.cons_iff.mp h
  exact ⟨Ne.symm (a1 _ (.head _)), Ne.symm (a1 _ (.tail _ (.head _))), Ne.symm (a1 _ (.tail _ (.tail _ (.head _)))), Ne.symm (a2 _ (.head _)), Ne.symm (a2 _ (.tail _ (.head _))), Ne.symm (a3 _ (.head _)),
    fun p hp => a1 p (.tail _ (.tail _ (.tail _ hp))), fun p hp => a2 p (.tail _ (.tail _ hp)), fun p hp => a3 p (.tail _ hp), a4, h⟩
theorem Sep.new {a : Addr} {o : Obj} {l : List (Addr × Obj)} (h : Sep l) (hl : ∀ p ∈ l, p.1 < a) : Sep ((a, o) :: l) := Sep.cons_iff.mpr ⟨fun p hp => Nat.ne_of_lt (hl p hp), h⟩
theorem Sep.sub {l l' : List (Addr × Obj)} (h : Sep l) (hs : l'.Sublist l) : Sep l' := List.Nodup.sublist (hs.map _) h
/-- the addresses stand, so the bound stands -/
theorem below_of {l l' : List (Addr × Obj)} {I : Addr} (h : ∀ p ∈ l, p.1 < I) (e : l'.map (·.1) = l.map (·.1)) : ∀ p ∈ l', p.1 < I := fun p hp => by
  have : p.1 ∈ l.map (·.1) := by rw [← e]; exact List.mem_map_of_mem hp
  obtain ⟨q, hq, e'⟩ := List.mem_map.mp this
  exact e' ▸ h q hq
theorem off_of {l l' : List (Addr × Obj)} {I : Addr} (h : ∀ p ∈ l, p.1 < I) (e : l'.map (·.1) = l.map (·.1)) : ∀ p ∈ l', p.1 ≠ I := fun p hp => Nat.ne_of_lt (below_of h e p hp)
theorem ne_of' {l l' : List (Addr × Obj)} {I : Addr} (h : ∀ p ∈ l, p.1 ≠ I) (e : l'.map (·.1) = l.map (·.1)) : ∀ p ∈ l', p.1 ≠ I := fun p hp => by
  have : p.1 ∈ l.map (·.1) := by rw [← e]; exact List.mem_map_of_mem hp
  obtain ⟨q, hq, e'⟩ := List.mem_map.mp this
  exact e' ▸ h q hq
theorem consSub {a : Addr × Obj} {l l' : List (Addr × Obj)} (h : ∀ p ∈ l', p ∈ l) : ∀ p ∈ a :: l', p ∈ a :: l := fun p hp => by
  rcases List.mem_cons.mp hp with rfl | hp
  · exact .head _
  · exact .tail _ (h p hp)
theorem in3 {p a b c : Addr × Obj} {l : List (Addr × Obj)} (h : p ∈ a :: l) : p ∈ a :: b :: c :: l := by
  rcases List.mem_cons.mp h with rfl | h
  · exact .head _
  · exact .tail _ (.tail _ (.tail _ h))
/-- a node without what a walk changes -/
noncomputable def Nd.fix (nd : Nd) : Nd := { nd with np := 0, nt := 0 }
noncomputable def Nd.set (nd : Nd) (z : Int) (t : Tok) : Nd := { nd with np := z, nt := t }
def Same (a b : List Nd) : Prop := a.map Nd.fix = b.map Nd.fix
theorem Same.refl (a : List Nd) : Same a a := rfl
theorem Same.symm {a b : List Nd} (h : Same a b) : Same b a := Eq.symm h
theorem Same.trans {a b c : List Nd} (h : Same a b) (g : Same b c) : Same a c := Eq.trans h g
theorem Same.put {pre post : List Nd} {nd : Nd} {b : List Nd} (h : Same (pre ++ nd :: post) b) (z : Int) (t : Tok) : Same (pre ++ nd.set z t :: post) b := by
  unfold Same at *
  rw [← h]
  simp [Nd.fix, Nd.set]
theorem Same.kvs {a b : List Nd} (h : Same a b) : kvsN a = kvsN b := by
  have e : ∀ l : List Nd, kvsN l = (l.map Nd.fix).map fun p => (p.key, Value.ref p.a) := fun l => by simp [kvsN, Nd.fix, List.map_map, Function.comp_def]
  rw [e a, e b, h]
theorem Same.keys {a b : List Nd} (h : Same a b) : a.map (·.key) = b.map (·.key) := by
  have e : ∀ l : List Nd, l.map (·.key) = (l.map Nd.fix).map (·.key) := fun l => by simp [Nd.fix, List.map_map, Function.comp_def]
  rw [e a, e b, h]
theorem Same.adr {a b : List Nd} (h : Same a b) : (ledN a).map (·.1) = (ledN b).map (·.1) := by
  have e : ∀ l : List Nd, (ledN l).map (·.1) = (l.map Nd.fix).flatMap fun p => [p.a, p.d, p.s] := fun l => by
    induction l with
    | nil => rfl
    | cons nd l ih =>
      have : ledN (nd :: l) = nd.led ++ ledN l := rfl
      rw [this, List.map_append, ih]; rfl
  rw [e a, e b, h]
theorem Same.adrR {a b : List Nd} (h : Same a b) (r : List (Addr × Obj)) : (ledN a ++ r).map (·.1) = (ledN b ++ r).map (·.1) := by rw [List.map_append, List.map_append, h.adr]
theorem Same.mem {a b : List Nd} (h : Same a b) {nd : Nd} (hm : nd ∈ b) : ∃ nd' ∈ a, nd'.fix = nd.fix := by
  have : nd.fix ∈ a.map Nd.fix := by rw [show a.map Nd.fix = _ from h]; exact List.mem_map_of_mem hm
  obtain ⟨x, hx, e⟩ := List.mem_map.mp this
  exact ⟨x, hx, e⟩
theorem fix_key {a b : Nd} (h : a.fix = b.fix) : a.key = b.key := by have := congrArg (·.key) h; exact this
theorem fix_s {a b : Nd} (h : a.fix = b.fix) : a.s = b.s := by have := congrArg (·.s) h; exact this
theorem fix_su {a b : Nd} (h : a.fix = b.fix) : a.su = b.su := by have := congrArg (·.su) h; exact this
theorem fix_ep {a b : Nd} (h : a.fix = b.fix) : a.ep = b.ep := by have := congrArg (·.ep) h; exact this
theorem ledN_app (a b : List Nd) : ledN (a ++ b) = ledN a ++ ledN b := List.flatMap_append ..
theorem ledN_cons (nd : Nd) (l : List Nd) : ledN (nd :: l) = (nd.a, nd.info) :: (nd.d, dictOf [] 0) :: (nd.s, nd.lst) :: ledN l := rfl
/-- what each node counts -/
def At (f : Str → Int) (ns : List Nd) : Prop := ∀ nd ∈ ns, nd.np = f nd.key
noncomputable def upd (f : Str → Int) (k : Str) (z : Int) : Str → Int := fun y => if y = k then z else f y
theorem At.put {f : Str → Int} {pre post : List Nd} {nd : Nd} (h : At f (pre ++ nd :: post)) (hnd : ((pre ++ nd :: post).map (·.key)).Nodup) (z : Int) (t : Tok) : At (upd f nd.key z) (pre ++ nd.set z t :: post) := by
  rw [List.map_append, List.map_cons, List.nodup_append] at hnd
  obtain ⟨_, h2, h3⟩ := hnd
  rw [List.nodup_cons] at h2
  intro x hx
  unfold upd
  rcases List.mem_append.mp hx with hx | hx
  · rw [if_neg (h3 _ (List.mem_map_of_mem hx) _ (List.mem_cons_self ..))]
    exact h x (List.mem_append_left _ hx)
  · rcases List.mem_cons.mp hx with rfl | hx
    · exact (if_pos rfl).symm
    · rw [if_neg (show ¬ x.key = nd.key from fun e => h2.1 (by rw [← e]; exact List.mem_map_of_mem (f := (·.key)) hx))]
      exact h x (List.mem_append_right _ (.tail _ hx))
theorem focus {pre post : List Nd} {nd : Nd} {rest : List (Addr × Obj)} (hs : Sep (ledN (pre ++ nd :: post) ++ rest)) :
    ∃ R : List (Addr × Obj), (∀ p ∈ R, p.1 ≠ nd.a) ∧ nd.d ≠ nd.a ∧ nd.s ≠ nd.a ∧ (nd.d, dictOf [] 0) ∈ R ∧ (nd.s, nd.lst) ∈ R ∧ (∀ p ∈ (nd.a, nd.info) :: R, p ∈ ledN (pre ++ nd :: post) ++ rest) ∧ ∀ z t, ∀ p ∈ ledN (pre ++ nd.set z t :: post) ++ rest, p ∈ (nd.a, infoO nd.d nd.s z t nd.key nd.kt) :: R := by
  refine ⟨ledN pre ++ ((nd.d, dictOf [] 0) :: (nd.s, nd.lst) :: (ledN post ++ rest)), ?_⟩
  have a0 : ∀ p ∈ ledN pre ++ ((nd.d, dictOf [] 0) :: (nd.s, nd.lst) :: (ledN post ++ rest)), p.1 ≠ nd.a := fun p hp e => by
    unfold Sep at hs
    rw [ledN_app, ledN_cons, List.append_assoc, List.map_append, List.nodup_append] at hs
    obtain ⟨_, h2, h3⟩ := hs
    rcases List.mem_append.mp hp with hp | hp
    · exact h3 _ (List.mem_map_of_mem hp) nd.a (.head _) e
    · simp only [List.cons_append, List.map_cons, List.nodup_cons] at h2
      exact h2.1 (e ▸ List.mem_map_of_mem (f := (·.1)) hp)
  have m1 : (nd.d, dictOf [] 0) ∈ ledN pre ++ ((nd.d, dictOf [] 0) :: (nd.s, nd.lst) :: (ledN post ++ rest)) := List.mem_append_right _ (.head _)
  have m2 : (nd.s, nd.lst) ∈ ledN pre ++ ((nd.d, dictOf [] 0) :: (nd.s, nd.lst) :: (ledN post ++ rest)) := List.mem_append_right _ (.tail _ (.head _))
  refine ⟨a0, a0 _ m1, a0 _ m2, m1, m2, fun p hp => ?_, fun z t p hp => ?_⟩
  · rw [ledN_app, ledN_cons, List.append_assoc]
    rcases List.mem_cons.mp hp with rfl | hp
    · exact List.mem_append_right _ (.head _)
    rcases List.mem_append.mp hp with hp | hp
    · exact List.mem_append_left _ hp
    · exact List.mem_append_right _ (.tail _ hp)
  · rw [ledN_app, ledN_cons, List.append_assoc] at hp
    rcases List.mem_append.mp hp with hp | hp
    · exact .tail _ (List.mem_append_left _ hp)
    · rcases List.mem_cons.mp hp with rfl | hp
      · exact .head _
      · exact .tail _ (List.mem_append_right _ hp)
/-- one node of the ledger taken out of it, and how it goes back -/
inductive FocusAt (ns ns1 : List Nd) (rest : List (Addr × Obj)) (f : Str → Int) (nd : Nd) : Prop
  | mk (na : Addr) (nt : Tok) (R : List (Addr × Obj)) (put : Int → Tok → List Nd) (hv : valueAt (kvsN ns) nd.key = some (.ref na)) (hne : ∀ I : Addr, (∀ p ∈ ledN ns ++ rest, p.1 ≠ I) → I ≠ na)
    (hR1 : ∀ p ∈ R, p.1 ≠ na) (hd : nd.d ≠ na) (hs : nd.s ≠ na) (md : (nd.d, dictOf [] 0) ∈ R) (ms : (nd.s, nd.lst) ∈ R)
    (hin : ∀ p ∈ (na, infoO nd.d nd.s (f nd.key) nt nd.key nd.kt) :: (nd.d, dictOf [] 0) :: (nd.s, nd.lst) :: R, p ∈ ledN ns1 ++ rest)
    (hout : ∀ z t, ∀ p ∈ ledN (put z t) ++ rest, p ∈ (na, infoO nd.d nd.s z t nd.key nd.kt) :: (nd.d, dictOf [] 0) :: (nd.s, nd.lst) :: R)
    (hsame : ∀ z t, Same (put z t) ns) (hat : ∀ z t, At (upd f nd.key z) (put z t)) : FocusAt ns ns1 rest f nd
theorem focusAt {ns ns1 : List Nd} {rest : List (Addr × Obj)} {f : Str → Int} {nd : Nd} (hs : Sep (ledN ns ++ rest)) (hnd : (ns.map (·.key)).Nodup) (sm : Same ns1 ns) (hf : At f ns1) (hm : nd ∈ ns) : FocusAt ns ns1 rest f nd := by
  obtain ⟨n1, h1, e⟩ := sm.mem hm
  have hn1 : (ns1.map (·.key)).Nodup := by rw [sm.keys]; exact hnd
  have hv := kvsN_at hnd hm
  have hnp := hf n1 h1
  obtain ⟨pre, post, rfl⟩ := List.append_of_mem h1
  obtain ⟨R, r1, r2, r3, r4, r5, r6, r7⟩ := focus (hs.of_eq (sm.adrR rest))
  have hin : (nd.a, nd.info) ∈ ledN ns ++ rest := List.mem_append_left _ (ledN_mem hm (.head _))
  obtain ⟨k, kt, a, dd, ss, np, nt, su, ep⟩ := n1
  obtain ⟨k', kt', a', dd', ss', np', nt', su', ep'⟩ := nd
  simp only [Nd.fix, Nd.mk.injEq, true_and, and_true] at e
  obtain ⟨rfl, rfl, rfl, rfl, rfl, rfl, rfl⟩ := e
  obtain rfl : np = f k := hnp
  refine .mk a nt R (fun z t => pre ++ Nd.set _ z t :: post) hv (fun I h e => h _ hin e.symm) r1 r2 r3 r4 r5 (fun p hp => ?_) (fun z t p hp => in3 (r7 z t p hp)) (fun z t => sm.put z t) (fun z t => hf.put hn1 z t)
  rcases List.mem_cons.mp hp with rfl | hp
  · exact r6 _ (.head _)
  rcases List.mem_cons.mp hp with rfl | hp
  · exact r6 _ (.tail _ r4)
  rcases List.mem_cons.mp hp with rfl | hp
  · exact r6 _ (.tail _ r5)
  · exact r6 _ (.tail _ hp)
inductive VAt (ns : List Nd) : Value → Prop
  | mk (nd : Nd) (hm : nd ∈ ns) (t : Tok) : VAt ns (.str nd.key t)
theorem vAt {ns : List Nd} {v : Value} (h : ∃ nd ∈ ns, ∃ t, v = .str nd.key t) : VAt ns v := by
  obtain ⟨nd, h1, t, rfl⟩ := h
  exact ⟨nd, h1, t⟩
theorem lstIn {ns ns2 : List Nd} {nd : Nd} {rest : List (Addr × Obj)} (hm : nd ∈ ns) (sm : Same ns2 ns) : (nd.s, nd.lst) ∈ ledN ns2 ++ rest := by
  obtain ⟨nd2, hm2, ef⟩ := sm.mem hm
  have : (nd2.s, nd2.lst) ∈ ledN ns2 := ledN_mem hm2 (.tail _ (.tail _ (.head _)))
  rw [show nd2.lst = nd.lst by simp only [Nd.lst, fix_su ef, fix_ep ef], fix_s ef] at this
  exact List.mem_append_left _ this
theorem consNe {p : Addr × Obj} {l : List (Addr × Obj)} {I : Addr} (h : p.1 ≠ I) (H : ∀ q ∈ l, q.1 ≠ I) : ∀ q ∈ p :: l, q.1 ≠ I := List.forall_mem_cons.mpr ⟨h, H⟩
theorem ifN {α : Type} {p : Prop} [Decidable p] {a b c : α} (h : ¬ p) (e : b = c) : (if p then a else b) = c := (if_neg h).trans e
theorem off1 {m m0 : Str → Option Value} {a : Str} (h : ∀ y, y ≠ a → m y = m0 y) : m = fun y => if y = a then m a else m0 y := by
  funext y
  by_cases h1 : y = a
  · rw [if_pos h1, h1]
  rw [if_neg h1, h y h1]
theorem genK {α : Type} {G : Prop} (t : α) (k : ∀ x, x = t → G) : G := k t rfl
theorem andK {a b G : Prop} (h : a ∧ b) (k : a → b → G) : G := k h.1 h.2
theorem off2 {m m0 : Str → Option Value} {a b : Str} (h : ∀ y, y ≠ a → y ≠ b → m y = m0 y) : m = fun y => if y = a then m a else if y = b then m b else m0 y := by
  funext y
  by_cases h1 : y = a
  · rw [if_pos h1, h1]
  by_cases h2 : y = b
  · rw [if_neg h1, if_pos h2, h2]
  rw [if_neg h1, if_neg h2, h y h1 h2]
theorem off5 {m m0 : Str → Option Value} {a b c d e : Str} (h : ∀ y, y ≠ a → y ≠ b → y ≠ c → y ≠ d → y ≠ e → m y = m0 y) : m = fun y => if y = a then m a else if y = b then m b else if y = c then m c else if y = d then m d else if y = e then m e else m0 y := by
  funext y
  by_cases h1 : y = a
  · rw [if_pos h1, h1]
  by_cases h2 : y = b
  · rw [if_neg h1, if_pos h2, h2]
  by_cases h3 : y = c
  · rw [if_neg h1, if_neg h2, if_pos h3, h3]
  by_cases h4 : y = d
  · rw [if_neg h1, if_neg h2, if_neg h3, if_pos h4, h4]
  by_cases h5 : y = e
  · rw [if_neg h1, if_neg h2, if_neg h3, if_neg h4, if_pos h5, h5]
  rw [if_neg h1, if_neg h2, if_neg h3, if_neg h4, if_neg h5, h y h1 h2 h3 h4 h5]
/-- the string of a value -/
noncomputable def strOf : Value → Str
  | .str k _ => k
  | _ => Str.ofString ""
noncomputable def outF (ks : List Str) (f : Str → Int) : Str → Int := ks.foldl (fun g k => upd g k (-1)) f
theorem outF_snoc (ks : List Str) (k : Str) (f : Str → Int) : outF (ks ++ [k]) f = upd (outF ks f) k (-1) := by unfold outF; rw [List.foldl_append]; rfl
theorem take_snoc {vs : List Value} {i : Nat} {v : Value} (h : vs[i]? = some v) : vs.take (i + 1) = vs.take i ++ [v] := by
  obtain ⟨hi, e⟩ := List.getElem?_eq_some_iff.mp h
  rw [List.take_add_one, List.getElem?_eq_getElem hi, e]; rfl
theorem clearAny {prog : Program} {w : World} {A : Around} {E : Value → Shared → Prop} {s : Shared} {h₀ : Heap} {L D : Addr} {m : Str → Option Value} {news news' : List (Addr × Obj)} {its : Array Value} {n n' : Nat} {Q : Value → Shared → Prop}
    (F : Fr h₀ L s.heap m) (N : News h₀ L s.heap news) (hn : n' = if its.size = 0 then n else n + 1) (U : Upd D (W.listOf its n) (W.listOf #[] n') news news') (hz : its.size ≤ 1000)
    (h : ∀ h', Fr h₀ L h' m → News h₀ L h' news' → Q .none { s with heap := h' }) : wpAny (model prog w) A (call (.builtin "list.clear") [.ref D]) Q E s := by
  by_cases e : its.size = 0
  · obtain ⟨pre, post, rfl, rfl, a, c⟩ := U.split
    have z := N (D, W.listOf its n) (List.mem_append.mpr (.inr (.head _)))
    refine call_meets PySem.F.slot_list_clear ⟨_, z.1, rfl⟩ PySem.F.entry_list_clear (PySem.F.args_list_clear_1 _) (PySem.AutoSeq1.list_clear_list_0 D its n (by rw [sizeLine_eq]; omega)) ⟨z.1, h _ (F.change (Heap.SameBut.update ..) z.2.1 z.2.2) ?_⟩
    have e' : its = #[] := Array.eq_empty_of_size_eq_zero e
    rw [if_pos e] at hn
    subst hn
    subst e'
    exact kl_turn0 (fun x => #[]) N a c rfl rfl
  · rw [if_neg e] at hn
    subst hn
    exact kl_clear F N U (by rw [Array.length_toList]; exact e) (by rw [sizeLine_eq, Array.length_toList]; omega) h
end
section
theorem kw09 : True := by
  w_top off
  k_with_none
  k_with "z getMethod ref" =>
    ((k_here; (with_reducible show wpAny _ _ (getMethod (Value.ref _) (Str.ofString "get") _) _ _ _); k_dflt (refine kdg_method (knd := PySem.strKind _ _) (by k_asm) (by k_mem) (by k_asm) ?_)))
  k_with "z call builtin:dict.get" =>
    ((k_here; k_dflt (refine kdg_get1 (knd := PySem.strKind _ _) (by k_asm) (by k_mem) (by k_asm) (by k_asm) (strKind_is _ _ _ _) _ (by k_asm) ?_); (try dsimp only [Option.getD])))
  k_with "z setItem ref str" =>
    ((k_here; k_dflt (refine' kda_set (knd := PySem.strKind _ _) (by k_asm) (by k_asm) (by k_updF) (by k_asm) (strKind_is _ _ _ _) (by (simp only [List.length_append, List.length_cons, List.length_nil, sizeLine_eq]; omega)) ?_); intro zh' zo' zF' zN' zhd'; (try dsimp only at zN'); (try first | rw [stored_nil] at zhd' | rw [stored_one (by assumption)] at zhd' | rw [stored_new _ _ _ (by assumption)] at zhd')))
  k_with "z exec For Name Name cons nil" =>
    ((k_here; (rename Fr _ _ _ _ => zlF'); (with_unfolding_all refine' For_turns zlF' ?_; k_whole)))
  k_with "z exec For Name Attribute cons nil" =>
    ((k_here; (rename Fr _ _ _ _ => zlF'); (with_unfolding_all refine' For_turns zlF' ?_; k_whole)))
  k_with "z exec For Name Call cons nil" =>
    ((k_here; (rename Fr _ _ _ _ => zlF'); (with_unfolding_all refine' For_turns zlF' ?_; k_whole)))
  k_with "z exec For Tuple Name cons nil" =>
    ((k_here; (rename Fr _ _ _ _ => zlF'); (with_unfolding_all refine' For_turns zlF' ?_; k_whole)))
  k_with "z exec For Name BinOp cons nil" =>
    ((k_here; (rename Fr _ _ _ _ => zlF'); (with_unfolding_all refine' For_turns zlF' ?_; k_whole)))
  k_with "z pyIter ref" =>
    ((k_here; (with_reducible show wpAny _ _ (pyIter (Value.ref _)) (fun it s₂ => TurnsAt _ _ _ _ _ _ _ _ _ it s₂) _ _); (rename Fr _ _ _ _ => zlF'); (rename News _ _ _ _ => zlN'); (with_unfolding_all refine iter_tup1 (by rfl) zlF' zlN' (by k_mem) (by rfl) (by rfl) ?_); clear zlF' zlN'; intro zi' zo' zh' ztk' zl1 zF' zN'; (try k_lt zl1)))
  k_with "z OneP" =>
    ((dsimp only [OneP]))
  k_with "z One" =>
    ((k_here; (k_dflt (refine' One.intro (by k_asm) (by k_asm) (by k_upd) (by k_mem) ?_; k_whole)); intro zh' ztk' zF' zN'))
  k_with "z subscriptTail" =>
    ((k_here; (with_reducible show wpAny _ _ (subscriptTail _ _ (Value.ref _) (Value.str _ _)) _ _ _); k_dflt (refine kda_item (knd := PySem.strKind _ _) (by k_asm) (by k_mem) (by k_asm) (strKind_is _ _ _ _) (by first | k_asm | exact vOne_get) ?_)))
  k_with "z call builtin:iter" =>
    ((k_here; (with_reducible show wpAny _ _ (call (Value.builtin "iter") [Value.ref _]) _ _ _); k_dflt (refine' iter_list_call (by k_asm) (by k_asm) (by k_mem) (by exact rfl) (by exact rfl) ?_; k_whole); intro zi' zh' zF' zN' zl1; (try k_lt zl1); (try k_sweep)))
  k_with "z getAttr ref" =>
    ((k_here; (with_reducible show wpAny _ _ (getAttr (Value.ref _) (Str.ofString "__next__") true) _ _ _); k_dflt (refine' next_attr (by k_asm) (by k_asm) (by k_mem) ?_; k_whole); intro zi' zh' zF' zN' zl1; (try k_lt zl1); (try k_sweep)))
  k_with "z callWith ref" =>
    ((k_here; (with_reducible show wpAny _ _ (callWith _ (Value.ref _) [] (backTo _ (starEach [] _)) []) _ _ _); k_dflt (refine' callWith_wrap (News.get (by k_asm) (by k_mem)) ?_; k_whole)))
  k_with "z call ref" =>
    ((k_here; (with_reducible show wpAny _ _ (call (Value.ref _) []) _ _ _); k_dflt (first
  | (refine' wrap_item (by k_asm) (by k_asm) (by k_mem) (by k_upd) (by k_mem) (by exact rfl) (by assumption) ?_; k_whole; intro zh' zF' zN'; (try k_sweep))
  | (refine' wrap_end (by exact rfl) (by k_asm) (by k_asm) (by k_mem) (by k_updF) (by k_mem) (by exact rfl) (by assumption) ?_; k_whole; intro zh₁' zh' ze' zo' zF' zN' ztiX'; (try dsimp only at zN')))))
  k_with "z noteFrame ref" =>
    ((k_here; (with_reducible rename Heap.NewExc _ _ _ _ => ztiX'); k_dflt (refine' caughtT (by exact rfl) (by assumption) ztiX' (by k_asm) (by k_asm) (by assumption) (by k_upd) (by assumption) (by assumption) (by decide +kernel) (by decide +kernel) (by decide +kernel) (by decide +kernel) (by decide +kernel) (by exact rfl) (by exact rfl) (by passes_own) ?_; k_whole); clear ztiX'; intro zh' zfrs' zsu' zfr' zhR' zh0' zF' zN'; (try dsimp only at zN')))
  k_with "z compareOp In str ref" =>
    ((k_here; k_dflt (first
  | (refine' set_in_b (by k_asm) (by k_updF) (by k_asm) (by first | assumption | exact Nat.lt_of_succ_lt (by assumption) | kse_small) _ (by assumption) ?_)
  | (refine' kda_in (knd := PySem.strKind _ _) (by k_asm) (by k_mem) (by k_asm) (by k_asm) (strKind_is _ _ _ _) _ (by first | assumption | exact vOne_self | exact vOne_ne (by assumption) | rfl) ?_))))
  k_with "z delItem ref str" =>
    ((k_here; k_dflt (refine' kob_del (knd := PySem.strKind _ _) (by k_asm) (by k_asm) (by k_updF) (by k_asm) (strKind_is _ _ _ _) (by first | exact vOne_self | exact vTwo_self | assumption) (by (rw [sizeLine_eq]; exact Nat.le_of_ble_eq_true rfl)) ?_); intro zh' zo' zF' zN' zhd'; (try dsimp only at zN'); (first | rw [wOne] at zhd' | rw [wTwo (by assumption)] at zhd')))
  k_with "z WhlRest" =>
    (((with_reducible show WhlRest _ _ _ _ _ (PySem.Expr.Constant _ _ _) _ _ _ _ _); refine parked ?_))
  k_with "z truthy ref" =>
    ((k_here; (with_reducible show wpAny _ _ (truthy (Value.ref _)) _ _ _); k_dflt (first
  | (refine' truthyPush (by k_asm) (by k_mem) (by first | exact Nat.zero_le _ | size_fits) ?_)
  | (refine' truthyNil (by k_asm) (by k_mem) ?_)
  | (refine' truthyCons (by k_asm) (by k_mem) (by size_fits) ?_))))
  k_with "z call type:bool" =>
    ((k_here; (with_reducible show wpAny _ _ (call _ [Value.ref _]) _ _ _); k_dflt (refine' boolList (by k_asm) (by k_mem) (by (simp only [List.size_toArray]; assumption)) ?_)))
  k_with "z call type:tuple" =>
    ((k_here; (with_reducible show wpAny _ _ (call (Value.type _) [Value.ref _]) _ _ _); k_dflt (refine' kde_tupleOf (by k_asm) (by k_asm) (by exact News.isList (by k_asm) (by k_mem)) (by first | omega | (simp only [List.size_toArray]; omega)) rfl ?_); intro zD' zh' zF' zN' zl1; (try k_lt zl1)))
  k_with "z call builtin:len" =>
    ((k_here; (with_reducible show wpAny _ _ (call (Value.builtin "len") [Value.ref _]) _ _ _); k_dflt (refine' kun_lenT (by exact News.isTup (by k_asm) (by k_mem)) rfl (by (simp only [List.size_toArray]; omega)) ?_)))
  k_with "z execs cons" =>
    (((try (k_here; k_made)); (try (with_reducible refine tok_cut1 ?_; intro tk; (try dsimp only))); (try k_fold); (with_reducible refine wpAny_execs_cons ?_); (try dsimp only); (try k_fold)))
  k_with "k_conj" =>
    (first | exact c0 (by assumption) | exact c1 (by assumption) | exact c2 (by assumption) | exact c3 (by assumption) | exact c4 (by assumption) | exact c5 (by assumption) | exact c6 (by assumption) | exact c7 (by assumption) | exact c8 (by assumption) | exact c9 (by assumption) | exact c10 (by assumption) | exact c11 (by assumption))
  k_with "z call builtin:list.clear" =>
    ((k_here; (try dsimp only); k_dflt (refine' clearAny (by k_asm) (by k_asm) rfl (by k_upd) (by (simp only [List.size_toArray]; assumption)) ?_); intro zh' zF' zN'))
  trivial
theorem get_ready {w : World} {mean : ExcName → Option Value} {mg mb : Str → Option Value} {dp un : Nat} {gd : Option (List Code)} {cn : Str} {cs : Scope} {a : Addr} {ccd : Value} {cl : List (Str × Addr)} {outer : List Env} {A₀ : Around} {base h₀ : Heap} {L : Addr} {m : Str → Option Value}
    {rest : List (Addr × Obj)} {s : Shared} {Q E : Value → Shared → Prop} (cx : Cx w mean mg mb dp un cs outer A₀ base h₀) (F : Fr h₀ L s.heap m)
    {x dx d rl : Addr} {t1 t2 t3 t4 tp : Tok} {n : Int} {nf : Value} {vs : List Value} {e : Nat} {od : Obj} {ns : List Nd} {f : Str → Int}
    (N : News h₀ L s.heap ((x, instObj 137 dx) :: (dx, sortD w t1 t2 t3 t4 d (.ref rl) (.int n tp) nf) :: (d, od) :: (rl, W.listOf vs.toArray e) :: (ledN ns ++ rest))) (hv : vs.length ≤ 1000)
    (hod : od.IsDictOf (strKind Challenge.rw_mq0328_01.row.prog w) (kvsN ns)) (lo : (d == sysModules) = false) (hvs : ∀ v ∈ vs, ∃ nd ∈ ns, ∃ t, v = .str nd.key t) (hnd : (ns.map (·.key)).Nodup) (hf : At f ns)
    (hs : Sep ((x, instObj 137 dx) :: (dx, sortD w t1 t2 t3 t4 d (.ref rl) (.int n tp) nf) :: (d, od) :: (rl, W.listOf vs.toArray e) :: (ledN ns ++ rest)))
    (ret : ∀ D ns' e' tp' h' tk', Same ns' ns → At (outF (vs.map strOf) f) ns' → (∀ p ∈ (x, instObj 137 dx) :: (dx, sortD w t1 t2 t3 t4 d (.ref rl) (.int n tp) nf) :: (d, od) :: (rl, W.listOf vs.toArray e) :: (ledN ns ++ rest), p.1 < D) → Fr h₀ L h' m →
      News h₀ L h' ((D, ⟨.type "tuple", none, .seq vs.toArray 0, #[]⟩) :: (x, instObj 137 dx) :: (dx, sortD w t1 t2 t3 t4 d (.ref rl) (.int (n + vs.length) tp') nf) :: (d, od) :: (rl, W.listOf #[] e') :: (ledN ns' ++ rest)) → Q (.ref D) { s with heap := h', toks := tk' }) :
    wpAny (model Challenge.rw_mq0328_01.row.prog w) (ktrTop dp un gd cn cs L a ccd cl outer) (call (.ref 99) [.ref x]) Q E s := by
  obtain ⟨B, X, T, hk, hdp, hu⟩ := cx
  obtain ⟨g1, g2, g3, g4, g5, g6, gx, gdx, gd', grl, hs'⟩ := sep4 hs
  refine wpAny_call ?_
  k_dflt ktr_enter
  k_steps
  (rename Fr _ _ _ _ => lF'); (rename News _ _ _ _ => lN')
  obtain ⟨D, rfl⟩ := nm1 lN'
  obtain ⟨m0, em, F0⟩ := frM lF'
  rename (∀ p ∈ ledN ns ++ rest, p.1 < D) => hD
  have hDa : ∀ p ∈ (x, instObj 137 dx) :: (dx, sortD w t1 t2 t3 t4 d (.ref rl) (.int n tp) nf) :: (d, od) :: (rl, W.listOf vs.toArray e) :: (ledN ns ++ rest), p.1 < D := by
    rename (Nat.lt x D ∧ _) => hq
    obtain ⟨q1, q2, q3, q4, _⟩ := hq
    intro p hp
    rcases List.mem_cons.mp hp with rfl | hp
    · exact q1
    rcases List.mem_cons.mp hp with rfl | hp
    · exact q2
    rcases List.mem_cons.mp hp with rfl | hp
    · exact q3
    rcases List.mem_cons.mp hp with rfl | hp
    · exact q4
    exact hD p hp
  let J1 : Addr → Nat → (Str → Option Value) → List (Addr × Obj) → Prop := fun _ i m' l => ∃ o ns', m' = (fun y => if y = Str.ofString "node" then o else m0 y) ∧ Same ns' ns ∧ At (outF ((vs.take i).map strOf) f) ns' ∧
    l = (D, ⟨.type "tuple", none, .seq vs.toArray 0, #[]⟩) :: (x, instObj 137 dx) :: (dx, sortD w t1 t2 t3 t4 d (.ref rl) (.int n tp) nf) :: (d, od) :: (rl, W.listOf vs.toArray e) :: (ledN ns' ++ rest)
  refine iter_tupInv (vs := vs) (by rfl) F0 lN' (.head _) rfl rfl J1 ?_ ?_ ?_ ?_
  · rintro _ _ _ _ ⟨o, ns', _, _, _, rfl⟩
    exact .head _
  · intro I _
    refine ⟨none, ns, ?_, Same.refl _, hf, rfl⟩
    funext y
    by_cases hy : y = Str.ofString "node"
    · rw [if_pos hy, hy, em]; rfl
    · rw [if_neg hy]
  · intro I hI oI i v m₁ news₁ h₁ tk₁ hvi hj hne hcI F₁ N₁
    obtain ⟨o, ns1, rfl, sm, hat, rfl⟩ := hj
    subst em
    clear lN' F0 lF' hne
    obtain ⟨nd0, hnd0, tv, rfl⟩ := hvs v (List.mem_of_getElem? hvi)
    obtain ⟨nd, hnd1, efx⟩ := sm.mem hnd0
    rw [← fix_key efx] at hvi ⊢
    have hnd' : (ns1.map (·.key)).Nodup := by rw [sm.keys]; exact hnd
    obtain ⟨pre, post, rfl⟩ := List.append_of_mem hnd1
    have hva : valueAt (kvsN ns) nd.key = some (.ref nd.a) := by rw [← sm.kvs]; exact kvsN_at hnd' hnd1
    obtain ⟨R, hR1, c7, c8, m1, m2, hR2, hRm⟩ := focus (hs'.of_eq (sm.adrR rest))
    have ain : (nd.a, nd.info) ∈ ledN (pre ++ nd :: post) ++ rest := hR2 _ (.head _)
    have N₂ := News.sub (l' := (I, oI) :: (nd.a, infoO nd.d nd.s nd.np nd.nt nd.key nd.kt) :: (nd.d, dictOf [] 0) :: (D, ⟨.type "tuple", none, .seq vs.toArray 0, #[]⟩) :: (x, instObj 137 dx) :: (dx, sortD w t1 t2 t3 t4 d (.ref rl) (.int n tp) nf) :: (d, od) :: (rl, W.listOf vs.toArray e) :: R) N₁ (by
      intro p hp
      have up : ∀ q ∈ (nd.a, nd.info) :: R, q ∈ (I, oI) :: (D, ⟨.type "tuple", none, .seq vs.toArray 0, #[]⟩) :: (x, instObj 137 dx) :: (dx, sortD w t1 t2 t3 t4 d (.ref rl) (.int n tp) nf) :: (d, od) :: (rl, W.listOf vs.toArray e) :: (ledN (pre ++ nd :: post) ++ rest) := fun q hq => .tail _ (.tail _ (.tail _ (.tail _ (.tail _ (.tail _ (hR2 q hq))))))
      rcases List.mem_cons.mp hp with rfl | hp
      · exact .head _
      rcases List.mem_cons.mp hp with rfl | hp
      · exact up _ (.head _)
      rcases List.mem_cons.mp hp with rfl | hp
      · exact up _ (.tail _ m1)
      rcases List.mem_cons.mp hp with rfl | hp
      · exact .tail _ (.head _)
      rcases List.mem_cons.mp hp with rfl | hp
      · exact .tail _ (.tail _ (.head _))
      rcases List.mem_cons.mp hp with rfl | hp
      · exact .tail _ (.tail _ (.tail _ (.head _)))
      rcases List.mem_cons.mp hp with rfl | hp
      · exact .tail _ (.tail _ (.tail _ (.tail _ (.head _))))
      rcases List.mem_cons.mp hp with rfl | hp
      · exact .tail _ (.tail _ (.tail _ (.tail _ (.tail _ (.head _)))))
      · exact up _ (.tail _ hp))
    have gn := fun {I : Addr} (h : ∀ p ∈ ledN ns ++ rest, p.1 ≠ I) => ne_of' h (sm.adrR rest) _ ain
    have c1 : x ≠ nd.a := (gn gx).symm
    have c2 : dx ≠ nd.a := (gn gdx).symm
    have c3 : d ≠ nd.a := (gn gd').symm
    have c4 : rl ≠ nd.a := (gn grl).symm
    have c5 : D ≠ nd.a := Ne.symm (off_of hD (sm.adrR rest) _ ain)
    have hIl : ∀ p ∈ ledN ns ++ rest, p.1 < I := fun p hp => hI p (.tail _ (.tail _ (.tail _ (.tail _ (.tail _ hp)))))
    have c6 : I ≠ nd.a := Ne.symm (off_of hIl (sm.adrR rest) _ ain)
    have offI : ∀ l' : List (Addr × Obj), l'.map (·.1) = ((D, (⟨.type "tuple", none, .seq vs.toArray 0, #[]⟩ : Obj)) :: (x, instObj 137 dx) :: (dx, sortD w t1 t2 t3 t4 d (.ref rl) (.int n tp) nf) :: (d, od) :: (rl, W.listOf vs.toArray e) :: (ledN ns ++ rest)).map (·.1) → ∀ p ∈ l', p.1 ≠ I := fun l' e => off_of hI e
    clear N₁ hI hIl hDa hD
    have hat2 := hat.put hnd' (-1) 197
    have sm2 := sm.put (-1) 197
    obtain ⟨na, ena⟩ : ∃ b, b = nd.a := ⟨_, rfl⟩
    rw [← ena] at N₂ hva hR1 c1 c2 c3 c4 c5 c6 c7 hRm
    k_steps
    refine' unrEnd' (news' := (D, _) :: (x, _) :: (dx, _) :: (d, _) :: (rl, _) :: (ledN (pre ++ nd.set (-1) 197 :: post) ++ rest)) (by k_asm) ?N ?off ?r
    case N =>
      refine News.sub (l := (I, _) :: (D, _) :: (x, _) :: (dx, _) :: (d, _) :: (rl, _) :: (na, _) :: R) ?_ (consSub (consSub (consSub (consSub (consSub (consSub (hRm (-1) 197)))))))
      k_upd
    case off => exact offI _ (by simp only [List.map_cons, sm2.adrR rest])
    case r =>
      refine ⟨_, _, updU, sm2, ?_, rfl⟩
      rw [take_snoc hvi, List.map_append]
      show At (outF (_ ++ [nd.key]) f) _
      rw [outF_snoc]; exact hat2
  · intro I h' tk m' news' F' N' hj
    obtain ⟨o, ns1, rfl, sm, hat, rfl⟩ := hj
    subst em
    have hq1 : ∀ p ∈ ledN ns1 ++ rest, p.1 ≠ rl := ne_of' grl (sm.adrR rest)
    have hq2 : ∀ p ∈ ledN ns1 ++ rest, p.1 ≠ dx := ne_of' gdx (sm.adrR rest)
    rw [List.take_length] at hat
    have hD1 : x ≠ D := Nat.ne_of_lt (hDa _ (.head _))
    have hD2 : dx ≠ D := Nat.ne_of_lt (hDa _ (.tail _ (.head _)))
    have hD3 : d ≠ D := Nat.ne_of_lt (hDa _ (.tail _ (.tail _ (.head _))))
    have hD4 : rl ≠ D := Nat.ne_of_lt (hDa _ (.tail _ (.tail _ (.tail _ (.head _)))))
    clear lN' F0 lF' hD
    k_steps
    exact ret D ns1 _ _ _ _ sm hat hDa (by k_asm) (by k_asm)
end
section
-- plain
theorem lt4 {a b c d I : Addr} {oa ob oc od : Obj} {r : List (Addr × Obj)} {X : Prop} (h : Nat.lt a I ∧ Nat.lt b I ∧ Nat.lt c I ∧ Nat.lt d I ∧ X) (hR : ∀ p ∈ r, p.1 < I) : ∀ p ∈ (a, oa) :: (b, ob) :: (c, oc) :: (d, od) :: r, p.1 < I := fun p hp => by
  rcases List.mem_cons.mp hp with rfl | hp
  · exact h.1
  rcases List.mem_cons.mp hp with rfl | hp
  · exact h.2.1
  rcases List.mem_cons.mp hp with rfl | hp
  · exact h.2.2.1
  rcases List.mem_cons.mp hp with rfl | hp
  · exact h.2.2.2.1
  · exact hR p hp
theorem Sep.insert {a : Addr} {o : Obj} {l1 l2 : List (Addr × Obj)} (h : Sep (l1 ++ l2)) (hn : ∀ p ∈ l1 ++ l2, p.1 ≠ a) : Sep (l1 ++ (a, o) :: l2) := by
  have h2 : ((a :: (l1 ++ l2).map (·.1))).Nodup := by
    rw [List.nodup_cons]
    refine ⟨fun hm => ?_, h⟩
    obtain ⟨p, hp, e⟩ := List.mem_map.mp hm
    exact hn p hp e
  unfold Sep
  rw [List.map_append, List.map_cons]
  rw [List.map_append] at h2
  exact (List.perm_middle.symm.nodup_iff).mp h2
/-- what one successor does to the counts and to the ready list -/
noncomputable def stepDec (p : (Str → Int) × List Value) (v : Value) : (Str → Int) × List Value :=
  (upd p.1 (strOf v) (p.1 (strOf v) - 1), if p.1 (strOf v) - 1 = 0 then p.2 ++ [v] else p.2)
noncomputable def doneOne (su : Str → List Value) (p : (Str → Int) × List Value) (v : Value) : (Str → Int) × List Value :=
  (su (strOf v)).foldl stepDec (upd p.1 (strOf v) (-2), p.2)
noncomputable def doneAll (su : Str → List Value) (p : (Str → Int) × List Value) (vs : List Value) : (Str → Int) × List Value := vs.foldl (doneOne su) p
theorem doneAll_snoc (su : Str → List Value) (p : (Str → Int) × List Value) (vs : List Value) (v : Value) : doneAll su p (vs ++ [v]) = doneOne su (doneAll su p vs) v := by
  unfold doneAll; rw [List.foldl_append]; rfl
theorem foldDec_snoc (p : (Str → Int) × List Value) (vs : List Value) (v : Value) : (vs ++ [v]).foldl stepDec p = stepDec (vs.foldl stepDec p) v := by
  rw [List.foldl_append]; rfl
theorem stepDec_len (p : (Str → Int) × List Value) (v : Value) : (stepDec p v).2.length ≤ p.2.length + 1 := by
  unfold stepDec
  by_cases h : p.1 (strOf v) - 1 = 0
  · rw [if_pos h]; simp
  · rw [if_neg h]; simp
theorem foldDec_len : ∀ (vs : List Value) (p : (Str → Int) × List Value), (vs.foldl stepDec p).2.length ≤ p.2.length + vs.length
  | [], p => Nat.le_refl _
  | v :: vs, p => by
    rw [List.foldl_cons, List.length_cons]
    have h1 := foldDec_len vs (stepDec p v)
    have h2 := stepDec_len p v
    omega
theorem doneAll_len (su : Str → List Value) (hsu : ∀ k, (su k).length ≤ 40) : ∀ (vs : List Value) (p : (Str → Int) × List Value), (doneAll su p vs).2.length ≤ p.2.length + 40 * vs.length
  | [], p => Nat.le_refl _
  | v :: vs, p => by
    have h1 := doneAll_len su hsu vs (doneOne su p v)
    have h2 := foldDec_len (su (strOf v)) (upd p.1 (strOf v) (-2), p.2)
    have h3 := hsu (strOf v)
    show (doneAll su (doneOne su p v) vs).2.length ≤ _
    have h4 : (doneOne su p v).2.length ≤ p.2.length + (su (strOf v)).length := h2
    rw [List.length_cons]
    omega
section
variable {prog : Program} {w : World} {A A₀ : Around} {s : Shared} {K : Frag} {L : Addr} {h₀ base : Heap} {m mg mb : Str → Option Value} {news : List (Addr × Obj)} {p : Program} {loose : List Str} {mean : ExcName → Option Value}
theorem kp_star {env : Env} {outer : List Env} {R : Result → Shared → Prop} {name qual : Str} {params : Arguments} {body : List Stmt} {scope : Scope} {dV kV doc pm cdv ct oc : Value} {an od : Option Addr} {osl : Array (Option Value)} {f : Addr} {args : Args} {vs : List Value} {bnd : Value → List (Str × Value)}
    (B : Below A₀ base outer h₀) (F : Fr h₀ L s.heap m) (X₀ : K.In h₀) (N : News h₀ L s.heap news) (T : Top p loose mean mg mb h₀) (hA : A.frames = some (env :: outer)) (hf : env.frame = some L) (hke : env.scope.kind = .function)
    (ho : K.lookup f = some ⟨oc, od, .func (fnOf name qual params body scope dV kV doc pm an cdv ct), osl⟩) (hcd : codeIn K cdv qual = true) (hroom : A.depth < recursionLimit)
    (hb : bindArgs (fnOf name qual params body scope dV kV doc pm an cdv ct) args = newTuple vs >>= fun t => pure (bnd t)) (hz : vs.length ≤ 1000)
    (hloc : ∀ D, ∀ y ∈ bnd (.ref D), scope.names.lookup y.1 = some .local)
    (h : ∀ D g L' h₁, (∀ p ∈ news, p.1 < D) → Fr h₀ L g m → Fr g L' h₁ (fun y => (bnd (.ref D)).reverse.lookup y) → News g L' h₁ ((D, (⟨.type "tuple", none, .seq vs.toArray 0, #[]⟩ : Obj)) :: news) → Below A base (env :: outer) g → K.In g → Top p loose mean mg mb g →
      wpAny (model prog w) (A.deeper (envOf qual scope L' f cdv)) (execs body (envOf qual scope L' f cdv))
        (fun fl s' => LeaveK h₀ L m g R (match fl with | .ret v => v | _ => .none) s')
        (fun e s' => wpAny (model prog w) (A.deeper (envOf qual scope L' f cdv)) (leaving (envOf qual scope L' f cdv) e) (fun _ s'' => R (.error e) s'') (fun e' s'' => R (.error e') s'') s')
        { s with heap := h₁, toks := s.toks + (bnd (.ref D)).length })
    (hco : scope.isCoroutine = false) (hgen : scope.isGenerator = false) (hk : scope.kind = .function)
    (hcell : ∀ x ∈ scope.names, x.2 ≠ .cell) : codeAny (model prog w) A (.call (.ref f) args) R s := by
  refine codeAny_call_function (fd := fnOf name qual params body scope dV kV doc pm an cdv ct) (body := body) hroom ((X₀.keeps F.keep) _ _ ho) rfl hco hgen rfl (codeRec_of (X₀.keeps F.keep) hcd) ?_
  rw [hb]
  refine wpAny_bind ?_
  unfold newTuple
  refine wpAny_newObj_type (wpAny_pure ?_) (by show vs.toArray.size ≤ _; simp only [List.size_toArray, sizeLine_eq]; omega)
  exact kp_frame (cl := []) (s := { s with heap := s.heap.push _ }) B (F.push _) (News.push F N _ rfl) T.nolimit hA hf hke (hloc _) (fun g L' h₁ FG FL NG BG st => h _ g L' h₁ (fun q hq => Heap.lt_size (N q hq).1) FG FL NG BG (X₀.keeps st) (T.keeps st)) hcell hk
end
end
section
theorem kw11 : True := by
  w_top off
  k_with_none
  k_with "z getMethod ref" =>
    ((k_here; (with_reducible show wpAny _ _ (getMethod (Value.ref _) (Str.ofString "get") _) _ _ _); k_dflt (refine kdg_method (knd := PySem.strKind _ _) (by k_asm) (by k_mem) (by k_asm) ?_)))
  k_with "z call builtin:dict.get" =>
    ((k_here; k_dflt (refine kdg_get1 (knd := PySem.strKind _ _) (by k_asm) (by k_mem) (by k_asm) (by k_asm) (strKind_is _ _ _ _) _ (by k_asm) ?_); (try dsimp only [Option.getD])))
  k_with "z setItem ref str" =>
    ((k_here; k_dflt (refine' kda_set (knd := PySem.strKind _ _) (by k_asm) (by k_asm) (by k_updF) (by k_asm) (strKind_is _ _ _ _) (by (simp only [List.length_append, List.length_cons, List.length_nil, sizeLine_eq]; omega)) ?_); intro zh' zo' zF' zN' zhd'; (try dsimp only at zN'); (try first | rw [stored_nil] at zhd' | rw [stored_one (by assumption)] at zhd' | rw [stored_new _ _ _ (by assumption)] at zhd')))
  k_with "z exec For Name Name cons nil" =>
    ((k_here; (rename Fr _ _ _ _ => zlF'); (with_unfolding_all refine' For_turns zlF' ?_; k_whole)))
  k_with "z exec For Name Attribute cons nil" =>
    ((k_here; (rename Fr _ _ _ _ => zlF'); (with_unfolding_all refine' For_turns zlF' ?_; k_whole)))
  k_with "z exec For Name Call cons nil" =>
    ((k_here; (rename Fr _ _ _ _ => zlF'); (with_unfolding_all refine' For_turns zlF' ?_; k_whole)))
  k_with "z exec For Tuple Name cons nil" =>
    ((k_here; (rename Fr _ _ _ _ => zlF'); (with_unfolding_all refine' For_turns zlF' ?_; k_whole)))
  k_with "z exec For Name BinOp cons nil" =>
    ((k_here; (rename Fr _ _ _ _ => zlF'); (with_unfolding_all refine' For_turns zlF' ?_; k_whole)))
  k_with "z pyIter ref" =>
    ((k_here; (with_reducible show wpAny _ _ (pyIter (Value.ref _)) (fun it s₂ => TurnsAt _ _ _ _ _ _ _ _ _ it s₂) _ _); (rename Fr _ _ _ _ => zlF'); (rename News _ _ _ _ => zlN'); (with_unfolding_all refine iter_tup1 (by rfl) zlF' zlN' (by k_mem) (by rfl) (by rfl) ?_); clear zlF' zlN'; intro zi' zo' zh' ztk' zl1 zF' zN'; (try k_lt zl1)))
  k_with "z OneP" =>
    ((dsimp only [OneP]))
  k_with "z One" =>
    ((k_here; (k_dflt (refine' One.intro (by k_asm) (by k_asm) (by k_upd) (by k_mem) ?_; k_whole)); intro zh' ztk' zF' zN'))
  k_with "z subscriptTail" =>
    ((k_here; (with_reducible show wpAny _ _ (subscriptTail _ _ (Value.ref _) (Value.str _ _)) _ _ _); k_dflt (refine kda_item (knd := PySem.strKind _ _) (by k_asm) (by k_mem) (by k_asm) (strKind_is _ _ _ _) (by first | k_asm | exact vOne_get) ?_)))
  k_with "z call builtin:iter" =>
    ((k_here; (with_reducible show wpAny _ _ (call (Value.builtin "iter") [Value.ref _]) _ _ _); k_dflt (refine' iter_list_call (by k_asm) (by k_asm) (by k_mem) (by exact rfl) (by exact rfl) ?_; k_whole); intro zi' zh' zF' zN' zl1; (try k_lt zl1); (try k_sweep)))
  k_with "z getAttr ref" =>
    ((k_here; (with_reducible show wpAny _ _ (getAttr (Value.ref _) (Str.ofString "__next__") true) _ _ _); k_dflt (refine' next_attr (by k_asm) (by k_asm) (by k_mem) ?_; k_whole); intro zi' zh' zF' zN' zl1; (try k_lt zl1); (try k_sweep)))
  k_with "z callWith ref" =>
    ((k_here; (with_reducible show wpAny _ _ (callWith _ (Value.ref _) [] (backTo _ (starEach [] _)) []) _ _ _); k_dflt (refine' callWith_wrap (News.get (by k_asm) (by k_mem)) ?_; k_whole)))
  k_with "z call ref" =>
    ((k_here; (with_reducible show wpAny _ _ (call (Value.ref _) []) _ _ _); k_dflt (first
  | (refine' wrap_item (by k_asm) (by k_asm) (by k_mem) (by k_upd) (by k_mem) (by exact rfl) (by assumption) ?_; k_whole; intro zh' zF' zN'; (try k_sweep))
  | (refine' wrap_end (by exact rfl) (by k_asm) (by k_asm) (by k_mem) (by k_updF) (by k_mem) (by exact rfl) (by assumption) ?_; k_whole; intro zh₁' zh' ze' zo' zF' zN' ztiX'; (try dsimp only at zN')))))
  k_with "z noteFrame ref" =>
    ((k_here; (with_reducible rename Heap.NewExc _ _ _ _ => ztiX'); k_dflt (refine' caughtT (by exact rfl) (by assumption) ztiX' (by k_asm) (by k_asm) (by assumption) (by k_upd) (by assumption) (by assumption) (by decide +kernel) (by decide +kernel) (by decide +kernel) (by decide +kernel) (by decide +kernel) (by exact rfl) (by exact rfl) (by passes_own) ?_; k_whole); clear ztiX'; intro zh' zfrs' zsu' zfr' zhR' zh0' zF' zN'; (try dsimp only at zN')))
  k_with "z compareOp In str ref" =>
    ((k_here; k_dflt (first
  | (refine' set_in_b (by k_asm) (by k_updF) (by k_asm) (by first | assumption | exact Nat.lt_of_succ_lt (by assumption) | kse_small) _ (by assumption) ?_)
  | (refine' kda_in (knd := PySem.strKind _ _) (by k_asm) (by k_mem) (by k_asm) (by k_asm) (strKind_is _ _ _ _) _ (by first | assumption | exact vOne_self | exact vOne_ne (by assumption) | rfl) ?_))))
  k_with "z delItem ref str" =>
    ((k_here; k_dflt (refine' kob_del (knd := PySem.strKind _ _) (by k_asm) (by k_asm) (by k_updF) (by k_asm) (strKind_is _ _ _ _) (by first | exact vOne_self | exact vTwo_self | assumption) (by (rw [sizeLine_eq]; exact Nat.le_of_ble_eq_true rfl)) ?_); intro zh' zo' zF' zN' zhd'; (try dsimp only at zN'); (first | rw [wOne] at zhd' | rw [wTwo (by assumption)] at zhd')))
  k_with "z WhlRest" =>
    (((with_reducible show WhlRest _ _ _ _ _ (PySem.Expr.Constant _ _ _) _ _ _ _ _); refine parked ?_))
  k_with "z truthy ref" =>
    ((k_here; (with_reducible show wpAny _ _ (truthy (Value.ref _)) _ _ _); k_dflt (first
  | (refine' truthyPush (by k_asm) (by k_mem) (by first | exact Nat.zero_le _ | size_fits) ?_)
  | (refine' truthyNil (by k_asm) (by k_mem) ?_)
  | (refine' truthyCons (by k_asm) (by k_mem) (by size_fits) ?_))))
  k_with "z call type:bool" =>
    ((k_here; (with_reducible show wpAny _ _ (call _ [Value.ref _]) _ _ _); k_dflt (refine' boolList (by k_asm) (by k_mem) (by (simp only [List.size_toArray]; assumption)) ?_)))
  k_with "z call type:tuple" =>
    ((k_here; (with_reducible show wpAny _ _ (call (Value.type _) [Value.ref _]) _ _ _); k_dflt (refine' kde_tupleOf (by k_asm) (by k_asm) (by exact News.isList (by k_asm) (by k_mem)) (by first | omega | (simp only [List.size_toArray]; omega)) rfl ?_); intro zD' zh' zF' zN' zl1; (try k_lt zl1)))
  k_with "z call builtin:len" =>
    ((k_here; (with_reducible show wpAny _ _ (call (Value.builtin "len") [Value.ref _]) _ _ _); k_dflt (refine' kun_lenT (by exact News.isTup (by k_asm) (by k_mem)) rfl (by (simp only [List.size_toArray]; omega)) ?_)))
  k_with "z execs cons" =>
    (((try (k_here; k_made)); (try (with_reducible refine tok_cut1 ?_; intro tk; (try dsimp only))); (try k_fold); (with_reducible refine wpAny_execs_cons ?_); (try dsimp only); (try k_fold)))
  k_with "k_conj" =>
    (first | exact c0 (by assumption) | exact c1 (by assumption) | exact c2 (by assumption) | exact c3 (by assumption) | exact c4 (by assumption) | exact c5 (by assumption) | exact c6 (by assumption) | exact c7 (by assumption) | exact c8 (by assumption) | exact c9 (by assumption) | exact c10 (by assumption) | exact c11 (by assumption))
  trivial
/-- what holds between the turns over the nodes that are done -/
inductive DoneA (w : World) (x dx d D rl : Addr) (t1 t2 t3 t4 : Tok) (np : Value) (nf : Int) (vs rd : List Value) (od : Obj) (ns : List Nd) (f : Str → Int) (su : Str → List Value) (rest : List (Addr × Obj)) (m0 : Str → Option Value) (i : Nat) (m' : Str → Option Value) (l : List (Addr × Obj)) : Prop
  | mk (p : (Str → Int) × List Value) (ns' : List Nd) (e' : Nat) (tf' : Tok)
    (em : ∀ y, y ≠ Str.ofString "node" → y ≠ Str.ofString "nodeinfo" → y ≠ Str.ofString "stat" → y ≠ Str.ofString "successor" → y ≠ Str.ofString "successor_info" → m' y = m0 y)
    (ep : doneAll su (f, rd) (vs.take i) = p) (sm : Same ns' ns) (hat : At p.1 ns')
    (el : l = (D, ⟨.type "tuple", none, .seq vs.toArray 0, #[]⟩) :: (x, instObj 137 dx) :: (dx, sortD w t1 t2 t3 t4 d (.ref rl) np (.int (nf + i) tf')) :: (d, od) :: (rl, W.listOf p.2.toArray e') :: (ledN ns' ++ rest)) :
    DoneA w x dx d D rl t1 t2 t3 t4 np nf vs rd od ns f su rest m0 i m' l
/-- what holds between the turns over one node's successors -/
inductive DoneB (w : World) (x dx d D rl I : Addr) (oI : Obj) (t1 t2 t3 t4 : Tok) (np nf : Value) (vs us : List Value) (od : Obj) (ns : List Nd) (p0 : (Str → Int) × List Value) (rest : List (Addr × Obj)) (m1 : Str → Option Value) (j : Nat) (m' : Str → Option Value) (l : List (Addr × Obj)) : Prop
  | mk (q : (Str → Int) × List Value) (ns2 : List Nd) (e2 : Nat) (em : ∀ y, y ≠ Str.ofString "successor" → y ≠ Str.ofString "successor_info" → m' y = m1 y) (eq : (us.take j).foldl stepDec p0 = q) (sm : Same ns2 ns) (hat : At q.1 ns2)
    (el : l = (I, oI) :: (D, ⟨.type "tuple", none, .seq vs.toArray 0, #[]⟩) :: (x, instObj 137 dx) :: (dx, sortD w t1 t2 t3 t4 d (.ref rl) np nf) :: (d, od) :: (rl, W.listOf q.2.toArray e2) :: (ledN ns2 ++ rest)) :
    DoneB w x dx d D rl I oI t1 t2 t3 t4 np nf vs us od ns p0 rest m1 j m' l
theorem done_ {w : World} {mean : ExcName → Option Value} {mg mb : Str → Option Value} {dp un : Nat} {gd : Option (List Code)} {cn : Str} {cs : Scope} {a : Addr} {ccd : Value} {cl : List (Str × Addr)} {outer : List Env} {A₀ : Around} {base h₀ : Heap} {L : Addr} {m : Str → Option Value}
    {rest : List (Addr × Obj)} {s : Shared} {RR : Result → Shared → Prop} (cx : Cx w mean mg mb dp un cs outer A₀ base h₀) (F : Fr h₀ L s.heap m)
    {x dx d rl : Addr} {t1 t2 t3 t4 tf : Tok} {np : Value} {nf : Int} {vs rd : List Value} {e : Nat} {od : Obj} {ns : List Nd} {f : Str → Int} {su : Str → List Value}
    (N : News h₀ L s.heap ((x, instObj 137 dx) :: (dx, sortD w t1 t2 t3 t4 d (.ref rl) np (.int nf tf)) :: (d, od) :: (rl, W.listOf rd.toArray e) :: (ledN ns ++ rest))) (hv : vs.length ≤ 20) (hrd : rd.length ≤ 100)
    (hod : od.IsDictOf (strKind Challenge.rw_mq0328_01.row.prog w) (kvsN ns)) (lo : (d == sysModules) = false) (hvs : ∀ v ∈ vs, ∃ nd ∈ ns, ∃ t, v = .str nd.key t) (hnd : (ns.map (·.key)).Nodup) (hf : At f ns)
    (hsu : ∀ nd ∈ ns, su nd.key = nd.su) (hsu2 : ∀ nd ∈ ns, ∀ v ∈ nd.su, ∃ nd' ∈ ns, ∃ t, v = .str nd'.key t) (hsu3 : ∀ k, (su k).length ≤ 40)
    (hout : ∀ i v, vs[i]? = some v → (doneAll su (f, rd) (vs.take i)).1 (strOf v) = -1)
    (hs : Sep ((x, instObj 137 dx) :: (dx, sortD w t1 t2 t3 t4 d (.ref rl) np (.int nf tf)) :: (d, od) :: (rl, W.listOf rd.toArray e) :: (ledN ns ++ rest)))
    (ret : ∀ ns' e' tf' h' tk', Same ns' ns → At (doneAll su (f, rd) vs).1 ns' → Fr h₀ L h' m →
      News h₀ L h' ((x, instObj 137 dx) :: (dx, sortD w t1 t2 t3 t4 d (.ref rl) np (.int (nf + vs.length) tf')) :: (d, od) :: (rl, W.listOf (doneAll su (f, rd) vs).2.toArray e') :: (ledN ns' ++ rest)) → RR (.ok (.ret .none)) { s with heap := h', toks := tk' }) :
    codeAny (model Challenge.rw_mq0328_01.row.prog w) (ktrTop dp un gd cn cs L a ccd cl outer) (.call (.ref 120) ⟨.ref x :: vs, []⟩) RR s := by
  obtain ⟨B, X, T, hk, hdp, hu⟩ := cx
  obtain ⟨g1, g2, g3, g4, g5, g6, gx, gdx, gd', grl, hs'⟩ := sep4 hs
  k_dflt (refine' kp_star (vs := vs) (bnd := fun t => [(Str.ofString "self", .ref x), (Str.ofString "nodes", t)]) ?k1 ?k2 ?k3 ?k4 ?k5 ?kA ?kF ?kK ?k6 ?k7 ?k8 ?kb ?kz ?kB ?_ ?c2 ?c3 ?c4 ?c5; (case kA => exact rfl); (case kF => exact rfl); (case kK => assumption); (case k1 => k_asm); (case k2 => k_asm); (case k3 => k_asm); (case k4 => k_asm); (case k5 => k_asm); (case k6 => k_is); (case k7 => k_is); (case k8 => k_room); (case kb => (cases vs <;> exact rfl)); (case kz => omega); (case kB => exact fun _ => locs rfl); (case c5 => decide); (case c2 => exact rfl); (case c3 => exact rfl); (case c4 => exact rfl); k_whole)
  intro D g' L' h' l1 FG' F' N' B' X' T'
  have hDa := l1
  (try k_lt l1); (try dsimp only); (try k_fold)
  k_steps
  (rename Fr _ _ _ _ => lF'); (rename News _ _ _ _ => lN')
  refine frMK lF' fun m0 em F0 => ?_
  refine iter_tupInv (vs := vs) (by rfl) F0 lN' (.head _) rfl rfl (fun _ i m' l => DoneA w x dx d D rl t1 t2 t3 t4 np nf vs rd od ns f su rest m0 i m' l) ?_ ?_ ?_ ?_
  · intro _ _ _ _ hj
    cases hj with | mk _ _ _ _ _ _ _ _ el =>
    rw [el]; exact .head _
  · intro I _
    exact .mk (f, rd) ns e tf (fun _ _ _ _ _ _ => rfl) rfl (Same.refl _) hf (by rw [Int.natCast_zero, Int.add_zero])
  · intro I hI oI i v m₁ news₁ h₁ tk₁ hvi hj hne hcI F₁ N₁
    clear lN' F0 lF' hne hcI
    have hstat := hout i v hvi
    have hv1 := vAt (hvs v (List.mem_of_getElem? hvi))
    cases hv1 with | mk nd hnd0 tv =>
    cases hj with | mk p ns1 e1 tf1 e1' ep sm hat e2' =>
    replace F₁ := frTo F₁ (off5 e1')
    rw [em] at F₁
    replace N₁ := newsTo1 N₁ e2'
    rw [ep] at hstat
    have hi20 : i < vs.length := (List.getElem?_eq_some_iff.mp hvi).1
    have hp2 : p.2.length ≤ 900 := by
      have := doneAll_len su hsu3 (vs.take i) (f, rd)
      rw [ep] at this
      have h2 : (vs.take i).length = i := List.length_take_of_le (Nat.le_of_lt hi20)
      simp only at this
      omega
    have hnx : doneAll su (f, rd) (vs.take (i + 1)) = nd.su.foldl stepDec (upd p.1 nd.key (-2), p.2) := by
      rw [take_snoc hvi, doneAll_snoc, ep, ← hsu nd hnd0]; rfl
    have hsul : nd.su.length ≤ 40 := by rw [← hsu nd hnd0]; exact hsu3 _
    have hDl : ∀ p ∈ ledN ns ++ rest, p.1 < D := fun p hp => hDa p (.tail _ (.tail _ (.tail _ (.tail _ hp))))
    have hIl : ∀ p ∈ ledN ns ++ rest, p.1 < I := fun p hp => hI p (.tail _ (.tail _ (.tail _ (.tail _ (.tail _ hp)))))
    have k1 : D ≠ I := Nat.ne_of_lt (hI _ (.head _))
    have k2 : x ≠ I := Nat.ne_of_lt (hI _ (.tail _ (.head _)))
    have k3 : dx ≠ I := Nat.ne_of_lt (hI _ (.tail _ (.tail _ (.head _))))
    have k4 : d ≠ I := Nat.ne_of_lt (hI _ (.tail _ (.tail _ (.tail _ (.head _)))))
    have k5 : rl ≠ I := Nat.ne_of_lt (hI _ (.tail _ (.tail _ (.tail _ (.tail _ (.head _))))))
    have j2 : x ≠ D := Nat.ne_of_lt (hDa _ (.head _))
    have j3 : dx ≠ D := Nat.ne_of_lt (hDa _ (.tail _ (.head _)))
    have j4 : d ≠ D := Nat.ne_of_lt (hDa _ (.tail _ (.tail _ (.head _))))
    have j5 : rl ≠ D := Nat.ne_of_lt (hDa _ (.tail _ (.tail _ (.tail _ (.head _)))))
    have hfa := focusAt hs' hnd sm hat hnd0
    cases hfa with | mk na nt R put hva hne hR1 c7 c8 mm1 mm2 hin hRm hsame hat' =>
    rw [show p.1 nd.key = -1 from hstat] at hin
    have N₂ : News g' L' h₁ ((I, oI) :: (D, ⟨.type "tuple", none, .seq vs.toArray 0, #[]⟩) :: (x, instObj 137 dx) :: (dx, sortD w t1 t2 t3 t4 d (.ref rl) np (.int (nf + i) tf1)) :: (d, od) :: (rl, W.listOf p.2.toArray e1) :: (na, infoO nd.d nd.s (-1) nt nd.key nd.kt) :: (nd.d, dictOf [] 0) :: (nd.s, nd.lst) :: R) :=
      News.sub N₁ (consSub (consSub (consSub (consSub (consSub (consSub hin))))))
    have c1 := hne x gx
    have c2 := hne dx gdx
    have c3 := hne d gd'
    have c4 := hne rl grl
    have c5 := hne D (fun p hp => Nat.ne_of_lt (hDl p hp))
    have c6 := hne I (fun p hp => Nat.ne_of_lt (hIl p hp))
    clear N₁ hI
    k_steps
    (rename Fr _ _ _ _ => lF1); (rename News _ _ _ _ => lN1)
    refine frMK lF1 fun m1 em1 F1 => ?_
    have N3 := News.sub (l' := (I, oI) :: (D, ⟨.type "tuple", none, .seq vs.toArray 0, #[]⟩) :: (x, instObj 137 dx) :: (dx, sortD w t1 t2 t3 t4 d (.ref rl) np (.int (nf + i) tf1)) :: (d, od) :: (rl, W.listOf p.2.toArray e1) :: (ledN (put (-2) 200) ++ rest)) lN1 (consSub (consSub (consSub (consSub (consSub (consSub (hRm (-2) 200)))))))
    refine iter_listInv (vs := nd.su) (by rfl) F1 N3 (.tail _ (.tail _ (.tail _ (.tail _ (.tail _ (.tail _ (lstIn hnd0 (hsame _ _)))))))) rfl rfl (fun _ j m' l => DoneB w x dx d D rl I oI t1 t2 t3 t4 np (.int (nf + i) tf1) vs nd.su od ns (upd p.1 nd.key (-2), p.2) rest m1 j m' l) ?_ ?_ ?_ ?_
    · intro _ _ _ _ hj2
      cases hj2 with | mk _ _ _ _ _ sm3 _ el =>
      rw [el]; exact .tail _ (.tail _ (.tail _ (.tail _ (.tail _ (.tail _ (lstIn hnd0 sm3))))))
    · intro I2 _
      exact .mk _ _ e1 (fun _ _ _ => rfl) rfl (hsame _ _) (hat' (-2) 200) rfl
    · intro I2 hI2 oI2 j u m₂ news₂ h₂ tk₂ huj hj2 hne2 hcI2 F₂ N₂
      clear lF1 lN1 F1 N3 F₁ hne2 hcI2
      have hub := vAt (hsu2 nd hnd0 u (List.mem_of_getElem? huj))
      cases hub with | mk nb hnb tu =>
      cases hj2 with | mk q ns2 e2 e1'' eq sm3 hat3 e2'' =>
      replace F₂ := frTo F₂ (off2 e1'')
      rw [em1] at F₂
      replace N₂ := newsTo1 N₂ e2''
      have hj40 : j < nd.su.length := (List.getElem?_eq_some_iff.mp huj).1
      have hq2 : q.2.length ≤ 940 := by
        have := foldDec_len (nd.su.take j) (upd p.1 nd.key (-2), p.2)
        rw [eq] at this
        have h2 : (nd.su.take j).length = j := List.length_take_of_le (Nat.le_of_lt hj40)
        simp only at this
        omega
      have hqn : (nd.su.take (j + 1)).foldl stepDec (upd p.1 nd.key (-2), p.2) = stepDec q (.str nb.key tu) := by
        rw [take_snoc huj, foldDec_snoc, eq]
      have hfb := focusAt hs' hnd sm3 hat3 hnb
      cases hfb with | mk nab nt2 R2 put2 hvb hne' hS1 d7 d8 nn1 nn2 hS2 hSm hsame2 hat4 =>
      have N₃ : News g' L' h₂ ((I2, oI2) :: (I, oI) :: (D, ⟨.type "tuple", none, .seq vs.toArray 0, #[]⟩) :: (x, instObj 137 dx) :: (dx, sortD w t1 t2 t3 t4 d (.ref rl) np (.int (nf + i) tf1)) :: (d, od) :: (rl, W.listOf q.2.toArray e2) :: (nab, infoO nb.d nb.s (q.1 nb.key) nt2 nb.key nb.kt) :: (nb.d, dictOf [] 0) :: (nb.s, nb.lst) :: R2) :=
        News.sub N₂ (consSub (consSub (consSub (consSub (consSub (consSub (consSub hS2)))))))
      have b1 := hne' x gx
      have b2 := hne' dx gdx
      have b3 := hne' d gd'
      have b4 := hne' rl grl
      have b5 := hne' D (fun p hp => Nat.ne_of_lt (hDl p hp))
      have b6 := hne' I (fun p hp => Nat.ne_of_lt (hIl p hp))
      have hI2l : ∀ p ∈ ledN ns ++ rest, p.1 ≠ I2 := off_of (fun p hp => hI2 p (.tail _ (.tail _ (.tail _ (.tail _ (.tail _ (.tail _ hp))))))) ((hsame (-2) 200).symm.adrR rest)
      have b7 := hne' I2 hI2l
      have b8 : rl ≠ I2 := Nat.ne_of_lt (hI2 _ (.tail _ (.tail _ (.tail _ (.tail _ (.tail _ (.head _)))))))
      have a1 : I ≠ I2 := Nat.ne_of_lt (hI2 _ (.head _))
      have a2 : D ≠ I2 := Nat.ne_of_lt (hI2 _ (.tail _ (.head _)))
      have a3 : x ≠ I2 := Nat.ne_of_lt (hI2 _ (.tail _ (.tail _ (.head _))))
      have a4 : dx ≠ I2 := Nat.ne_of_lt (hI2 _ (.tail _ (.tail _ (.tail _ (.head _)))))
      have a5 : d ≠ I2 := Nat.ne_of_lt (hI2 _ (.tail _ (.tail _ (.tail _ (.tail _ (.head _))))))
      have hSrl : ∀ p ∈ R2, p.1 ≠ rl := fun p hp => ne_of' grl (sm3.adrR rest) p (hS2 p (.tail _ (.tail _ (.tail _ hp))))
      have hbd : nb.d ≠ rl := hSrl _ nn1
      have hbs : nb.s ≠ rl := hSrl _ nn2
      have offI2 : ∀ {z t r' f'}, ∀ p ∈ (I, oI) :: (D, (⟨.type "tuple", none, .seq vs.toArray 0, #[]⟩ : Obj)) :: (x, instObj 137 dx) :: (dx, sortD w t1 t2 t3 t4 d (.ref rl) np f') :: (d, od) :: (rl, r') :: (ledN (put2 z t) ++ rest), p.1 ≠ I2 := fun {z t _ _} =>
        consNe a1 (consNe a2 (consNe a3 (consNe a4 (consNe a5 (consNe b8 (ne_of' hI2l ((hsame2 z t).adrR rest)))))))
      have hq1000 : q.2.toArray.size ≤ 1000 := by rw [List.size_toArray]; omega
      clear N₂ hI2
      k_steps
      · rename (q.1 nb.key - 1 = 0) => hz
        rename News _ _ _ _ => N9
        simp only [List.push_toArray] at N9
        have hs2 : (stepDec q (.str nb.key tu)).2 = q.2 ++ [.str nb.key tu] := if_pos hz
        refine' unrEnd' (by k_asm) (News.sub N9 (consSub (consSub (consSub (consSub (consSub (consSub (consSub (hSm (q.1 nb.key - 1) _))))))))) offI2 (.mk (stepDec q (.str nb.key tu)) (put2 (q.1 nb.key - 1) _) _ ?hM1 hqn (hsame2 _ _) (hat4 _ _) ?hL1)
        case hL1 => rw [hs2]
        case hM1 =>
          intro y h1 h2
          (repeat refine ifN (by assumption) ?_); exact (congrFun em1 y).symm
      · rename (¬ q.1 nb.key - 1 = 0) => hz
        rename News _ _ _ _ => N9
        have hs2 : (stepDec q (.str nb.key tu)).2 = q.2 := if_neg hz
        refine' unrEnd' (by k_asm) (News.sub N9 (consSub (consSub (consSub (consSub (consSub (consSub (consSub (hSm (q.1 nb.key - 1) _))))))))) offI2 (.mk (stepDec q (.str nb.key tu)) (put2 (q.1 nb.key - 1) _) _ ?hM2 hqn (hsame2 _ _) (hat4 _ _) ?hL2)
        case hL2 => rw [hs2]
        case hM2 =>
          intro y h1 h2
          (repeat refine ifN (by assumption) ?_); exact (congrFun em1 y).symm
    · intro I2 h2 tk2 m2 news2 F2 N2 hj2
      cases hj2 with | mk q ns2 e2 e1'' eq sm3 hat3 e2'' =>
      replace F2 := frTo F2 (off2 e1'')
      rw [em1] at F2
      replace N2 := newsTo N2 e2''
      rw [List.take_length] at eq
      have hq := hnx.trans eq
      clear lF1 lN1 F1 N3 F₁
      have hq2 : ∀ p ∈ ledN ns2 ++ rest, p.1 ≠ dx := ne_of' gdx (sm3.adrR rest)
      k_steps
      rename News _ _ _ _ => N9
      refine' unrEnd' (by k_asm) N9 (consNe k1 (consNe k2 (consNe k3 (consNe k4 (consNe k5 (off_of hIl (sm3.adrR rest))))))) (.mk q ns2 _ _ ?hM3 hq sm3 hat3 ?hL3)
      case hL3 => rw [show (nf + ((i + 1 : Nat) : Int)) = nf + i + 1 by omega]
      case hM3 =>
        intro y h1 h2 h3 h4 h5
        (repeat refine ifN (by assumption) ?_); exact (congrFun em y).symm
  · intro I h' tk m' news' F' N' hj
    cases hj with | mk p ns1 e1 tf1 e1' ep sm hat e2' =>
    replace F' := frTo F' (off5 e1')
    rw [em] at F'
    replace N' := newsTo N' e2'
    rw [List.take_length] at ep
    clear lN' F0 lF'
    k_steps
    subst ep
    exact ret ns1 _ _ _ _ sm hat (by k_asm) (News.sub (by k_asm) (fun p hp => .tail _ hp))
end
section
-- plain
section
variable {prog : Program} {w : World} {A A₀ : Around} {s : Shared} {hb : Heap} {env : Env} {outer : List Env} {L : Addr} {m : Str → Option Value} {news frs new : List (Addr × Obj)} {K : Frag} {p : Program} {loose : List Str} {mean : ExcName → Option Value} {mg mb : Str → Option Value}
  {R : Result → Shared → Prop} {name qual : Str} {params : Arguments} {body : List Stmt} {scope : Scope} {dV kV doc pm cdv ct oc : Value} {an od : Option Addr} {osl : Array (Option Value)} {f : Addr} {args : Args} {binds : List (Str × Value)}

theorem keepT {B h h' : Heap} (F : Fr hb L h m) (N : News hb L h (new ++ frs)) (Fs : TI.Frs outer frs) (hB : ∀ b o, hb.get? b = some o → B.get? b = some o) (hn : ∀ q ∈ new, B.get? q.1 = some q.2) (st : B.StaysIn h') (up : h.UpToSlots h') :
    ∃ frs', TI.SameUp frs frs' ∧ TI.Frs outer frs' ∧ Fr hb L h' m ∧ News hb L h' (new ++ frs') := by
  obtain ⟨frs', SU, ht⟩ := TI.sameUp_of (h' := h') (frs := frs) fun p hp => by
    obtain ⟨es, ep, hd⟩ := Fs.dict p hp
    exact up p.1 p.2 (N p (List.mem_append_right _ hp)).1 (fun vs q => by rw [hd] at q; cases q)
  refine ⟨frs', SU, Fs.up SU, ⟨up.ns F.ns, fun b o e => st b o (hB b o e), F.above⟩, fun p hp => ?_⟩
  rcases List.mem_append.mp hp with hp | hp
  · obtain ⟨_, p2, p3⟩ := N p (List.mem_append_left _ hp)
    exact ⟨st _ _ (hn p hp), p2, p3⟩
  · obtain ⟨x, hx, q⟩ := SU.fwd p hp
    obtain ⟨_, p2, p3⟩ := N x (List.mem_append_right _ hx)
    exact ⟨ht p hp, by rw [q]; exact p2, by rw [q]; exact p3⟩

/-- an exception in flight over the frame at L; the ledger stands -/
def RaisedT (hb : Heap) (L : Addr) (m : Str → Option Value) (env : Env) (outer : List Env) (e : Addr) (cls : Value) (new frs : List (Addr × Obj)) (h : Heap) : Prop :=
  ∃ B a0, (∀ b o, hb.get? b = some o → B.get? b = some o) ∧ (∀ q ∈ new, B.get? q.1 = some q.2) ∧ Heap.FlyingW B (env :: outer) e cls a0 h ∧ TI.Frs outer frs ∧ Fr hb L h m ∧ News hb L h (new ++ frs)

theorem code_defT2 (hA : A.frames = some (env :: outer)) (hf : env.frame = some L) (hke : env.scope.kind = .function) (Fs : TI.Frs outer frs)
    (F : Fr hb L s.heap m) (X₀ : K.In hb) (N : News hb L s.heap (news ++ frs)) (T : Top p loose mean mg mb hb)
    (ho : K.lookup f = some ⟨oc, od, .func (fnOf name qual params body scope dV kV doc pm an cdv ct), osl⟩) (hcd : codeIn K cdv qual = true) (hroom : A.depth < recursionLimit)
    (hbind : BindsTo s (fnOf name qual params body scope dV kV doc pm an cdv ct) args binds) (hloc : ∀ y ∈ binds, scope.names.lookup y.1 = some .local)
    (h : ∀ L' h₁ oL, TI.Frs (env :: outer) ((L, oL) :: frs) → (∀ q ∈ news ++ (L, oL) :: frs, q.1 < L') → (∀ (h' : Heap) sl, h'.get? L = some { oL with slots := sl } → (∀ b o, hb.get? b = some o → h'.get? b = some o) → Fr hb L h' m) → Fr hb L' h₁ (fun y => binds.reverse.lookup y) → News hb L' h₁ (news ++ (L, oL) :: frs) →
      wpAny (model prog w) (A.deeper (envOf qual scope L' f cdv)) (execs body (envOf qual scope L' f cdv))
        (fun fl s' => LeaveT hb outer L m oL frs R (match fl with | .ret v => v | _ => .none) s')
        (fun e s' => wpAny (model prog w) (A.deeper (envOf qual scope L' f cdv)) (leaving (envOf qual scope L' f cdv) e) (fun _ s'' => R (.error e) s'') (fun e' s'' => R (.error e') s'') s')
        { s with heap := h₁, toks := s.toks + binds.length })
    (hco : scope.isCoroutine = false) (hgen : scope.isGenerator = false) (hk : scope.kind = .function)
    (hcell : ∀ x ∈ scope.names, x.2 ≠ .cell) : codeAny (model prog w) A (.call (.ref f) args) R s := by
  have X := X₀.keeps F.keep
  obtain ⟨oL, es, ep, hL, hLd, hLk, hLf⟩ := F.ns
  have hLt := Heap.lt_size hL
  have hkind : env.scope.kind ≠ .module := by rw [hke]; decide
  refine codeAny_call_def (fd := fnOf name qual params body scope dV kV doc pm an cdv ct) (body := body) (binds := binds) hroom (X _ _ ho) rfl (T.nolimit.keeps F.keep) (codeRec_of X hcd) rfl hbind hcell hloc (fun h₁ hns hk₁ => ?_) hco hgen hk
  have up : ∀ b o, s.heap.get? b = some o → h₁.get? b = some o := fun b o e => hk₁ b o e
  refine wpAny_mono (h s.heap.objs.size h₁ oL ⟨hkind, hf, ⟨es, ep, hLd⟩, Fs⟩ (fun q hq => ?_) (fun h' sl e k => ⟨⟨_, es, ep, e, hLd, hLk, hLf⟩, k, F.above⟩) ⟨hns, fun b o e => up b o (F.keep b o e), Nat.le_trans F.above (Nat.le_of_lt hLt)⟩ (fun q hq => ?_)) (fun fl s' hl => ?_) fun _ _ y => y
  · rcases List.mem_append.mp hq with hq | hq
    · exact Heap.lt_size (N q (List.mem_append_left _ hq)).1
    · rcases List.mem_cons.mp hq with rfl | hq
      · exact hLt
      · exact Heap.lt_size (N q (List.mem_append_right _ hq)).1
  · rcases List.mem_append.mp hq with hq | hq
    · obtain ⟨h1, h2, h3⟩ := N q (List.mem_append_left _ hq)
      exact ⟨up _ _ h1, Nat.ne_of_lt (Heap.lt_size h1), h3⟩
    · rcases List.mem_cons.mp hq with rfl | hq
      · exact ⟨up _ _ hL, Nat.ne_of_lt hLt, Heap.get?_none_of_le F.above⟩
      · obtain ⟨h1, h2, h3⟩ := N q (List.mem_append_right _ hq)
        exact ⟨up _ _ h1, Nat.ne_of_lt (Heap.lt_size h1), h3⟩
  · obtain ⟨L', m', news', sl, frs', F', N', SU, hne, k⟩ := hl
    have hL' : s'.heap.get? L = some { oL with slots := sl } := (N' _ (List.mem_append_right _ (.head _))).1
    refine k (Fs.up SU) ⟨⟨_, es, ep, hL', hLd, hLk, hLf⟩, F'.keep, F.above⟩ fun q hq => ?_
    rcases List.mem_append.mp hq with hq | hq
    · obtain ⟨x1, _, x3⟩ := N' q (List.mem_append_left _ hq)
      exact ⟨x1, hne q hq, x3⟩
    · obtain ⟨x1, _, x3⟩ := N' q (List.mem_append_right _ (.tail _ hq))
      refine ⟨x1, fun e => ?_, x3⟩
      have : q.1 ∈ frs.map (·.1) := by rw [← sameUp_addr SU]; exact List.mem_map_of_mem hq
      obtain ⟨q', hq', e'⟩ := List.mem_map.mp this
      exact (N q' (List.mem_append_right _ hq')).2.1 (e'.trans e)

theorem leaveRaiseT {E : Value → Shared → Prop} {h : Heap} {l : List Env} {L' a e : Addr} {m' : Str → Option Value} {cd cls : Value} {vs : List Value} {Q : Unit → Shared → Prop}
    (hfr : A₀.frames = some l) (Fs : TI.Frs l frs) (hx : Heap.MadeExcOf h s.heap e cls vs) (F : Fr hb L' h m') (N : News hb L' h (new ++ frs)) (hap : ∀ q ∈ new, q.1 ∉ frs.map (·.1)) (hk : scope.kind = .function)
    (k : ∀ h' frs' B a0, TI.SameUp frs frs' → TI.Frs l frs' → (∀ b o, hb.get? b = some o → B.get? b = some o) → (∀ q ∈ new, B.get? q.1 = some q.2) → Heap.FlyingW B l e cls a0 h' → (∀ q ∈ new ++ frs', h'.get? q.1 = some q.2 ∧ hb.get? q.1 = none) → Q () { s with heap := h' }) :
    wpAny (model prog w) (A₀.deeper (envOf name scope L' a cd)) (leaving (envOf name scope L' a cd) (.ref e)) Q E s := by
  have hB : ∀ b o, hb.get? b = some o → (TI.gone h (L' :: frs.map (·.1))).get? b = some o := fun b o e => (TI.gone_get (TI.base_apart F N TI.tail_sub e)).trans (F.keep b o e)
  have hn : ∀ q ∈ new, (TI.gone h (L' :: frs.map (·.1))).get? q.1 = some q.2 := fun q hq => by
    refine (TI.gone_get fun hm => ?_).trans (N q (List.mem_append_left _ hq)).1
    rcases List.mem_cons.mp hm with z | z
    · exact (N q (List.mem_append_left _ hq)).2.1 z
    · exact hap q hq z
  have hl := (TI.frames_at (name := name) (a := a) (cd := cd) (h' := h) (base := TI.gone h (L' :: frs.map (·.1))) hk Fs F N TI.tail_sub (fun b o e => ⟨o.slots, e⟩) fun b hm => TI.gone_none hm).1
  refine wpAny_leaves_madeW (Around.frames_deeper hfr) rfl (fun b o q => (TI.gone_some q).2) hl hx fun h' t x1 x2 x3 x4 => ?_
  obtain ⟨frs', SU, Fs', F', N'⟩ := keepT F N Fs hB hn x1.1 ((Heap.UpToSlots.of_keeps hx.keeps).trans x4)
  exact k h' frs' _ _ SU Fs' hB hn x1 fun q hq => ⟨(N' q hq).1, (N' q hq).2.2⟩

theorem caughtRT {E : Value → Shared → Prop} {l : List Env} {a e C : Addr} {cd : Value} {x : Str} {b₀ : Stmt} {suite : List Stmt} {pos np : Pos} {rest : List ExceptHandler} {Q : Flow → Shared → Prop}
    (R : RaisedT hb L m (envOf name scope L a cd) l e (.ref C) new frs s.heap) (hfr : A₀.frames = some l) (X : K.In hb) (T : Top p loose mean mg mb hb)
    (ex : nsIn K mainGlobals x = some (some (.ref C))) (q : ktsIn K C "BaseException" = true)
    (hk : scope.kind = .function) (hx : (envOf name scope L a cd).kindOf x = some .globalImplicit) (hd : (x == ("__debug__" : Str)) = false)
    (hE : PassesOwnAt (model prog w) ((A₀.deeper (envOf name scope L a cd)).mark (some (.ref e))) (A₀.deeper (envOf name scope L a cd)) (envOf name scope L a cd) E)
    (k : ∀ h' frs', TI.SameUp frs frs' → TI.Frs l frs' → Fr hb L h' m → News hb L h' (new ++ frs') →
      wpAny (model prog w) ((A₀.deeper (envOf name scope L a cd)).mark (some (.ref e))) (execs (b₀ :: suite) (envOf name scope L a cd)) Q E { s with heap := h' }) :
    wpAny (model prog w) (A₀.deeper (envOf name scope L a cd)) (noteFrame (.ref e) (envOf name scope L a cd))
      (fun _ s₂ => wpAny (model prog w) (A₀.deeper (envOf name scope L a cd)) (setFlight (.ref e) none) (fun _ s₃ =>
        wpAny (model prog w) (A₀.deeper (envOf name scope L a cd)) (handleBy (.ref e) (envOf name scope L a cd) (.ExceptHandler (some (.Name x np)) none (b₀ :: suite) pos :: rest)) Q E s₃) E s₂) E s := by
  obtain ⟨B, a0, hB, hn, hfl, Fs, F, N⟩ := R
  refine wpAny_looks_onW (Around.frames_deeper hfr) rfl hfl fun h₄ hheld₄ up₄ => ?_
  refine wpAny_landsW hheld₄ fun h₅ hheld up₅ => ?_
  obtain ⟨frs₅, SU₅, Fs₅, F₅, N₅⟩ := keepT F N Fs hB hn hheld.1 (up₄.trans up₅)
  have P₅ : TopRead p loose mg mb hb := topRead_of T
  obtain ⟨ob, hob, hobc⟩ := hheld.there
  obtain ⟨nm, q', Ns, bs, bm, hdct, sn, sub, ab, col, dd, k0, k1, k2, k3, k5, newId, hC, hbase, hbT⟩ := kts_cls X q
  have hC₅ := F₅.keep _ _ hC
  refine wpAny_handleBy_cons (codeAny_handlers_test (name_K F₅ X P₅ ex ?_ hk hx hd)) (by intro q; cases q)
  refine wpAny_excMatches_sub_self hC₅ hob hobc hbase (codeAny_handlers_suite ?_)
  refine lands_againW hheld fun h₆ hfl₆ up₆ => ?_
  obtain ⟨frs₆, SU₆, Fs₆, F₆, N₆⟩ := keepT F₅ N₅ Fs₅ hB hn hfl₆.1 up₆
  exact wpAny_passesOwnAt hE (k h₆ frs₆ (SU₅.trans SU₆) Fs₆ F₆ N₆)
end
open LCg LCt in
def ValSrc (prog : Program) (w : World) (A : Around) (h₀ : Heap) (L : Addr) (m : Str → Option Value) (env : Env) (ct elt : PySem.Expr) (x : Str) (scope : Scope) (cl : List (Str × Addr)) (Q : Value → Shared → Prop) (xv : Value) (s₁ : Shared) : Prop :=
  ∃ vw d od kvs news, xv = .ref vw ∧ A.handled = none ∧ Fr h₀ L s₁.heap m ∧ News h₀ L s₁.heap news ∧ (vw, ({ cls := .type "dict_values", data := .fields #[.ref d] } : Obj)) ∈ news ∧ (d, od) ∈ news ∧ od.IsDictOf (strKind prog w) kvs ∧ kvs.length ≤ sizeLine ∧
      ∀ g, CompRestT prog w A h₀ L m env ct elt x scope cl { s₁ with heap := g } (fun l => (d, od) ∈ l) (fun i v => ∃ k, kvs[i]? = some (k, v)) (FinE h₀ L m { s₁ with heap := g } Q) kvs.length 0 [] news
open LCg LCt in
/-- a comprehension with one test over the values of a dict -/
theorem listComp_values {prog : Program} {w : World} {A : Around} {E : Value → Shared → Prop} {s : Shared} {h₀ : Heap} {L : Addr} {m : Str → Option Value} {env : Env} {ct elt iter : PySem.Expr} {x : Str} {px : Pos} {scope : Scope} {cl : List (Str × Addr)} {pos : Pos} {Q : Value → Shared → Prop} (_F₀ : Fr h₀ L s.heap m)
    (hclos : closureFor scope env = pure cl) (hcell : ∀ y ∈ scope.names, y.2 ≠ .cell) (hkind : scope.kind = .function)
    (hnames : ∀ y ∈ scope.names, y.2 = .local → scope.names.lookup y.1 = some .local) (hx : scope.names.lookup x = some .local)
    (h : wpAny (model prog w) A (eval iter env) (ValSrc prog w A h₀ L m env ct elt x scope cl Q) E s)
    (hs : ∀ x, foldedSetIterable iter env x = pure x := by intro _; rfl) :
    wpAny (model prog w) A (eval (.ListComp elt [⟨.Name x px, iter, [ct], 0⟩] scope pos) env) Q E s := by
  rw [eval_ListComp]
  refine wpAny_comprehension_free (use := none) rfl hs hclos hkind hnames (wpAny_mono h (fun xv s₁ h₁ => ?_) fun _ _ e => e)
  obtain ⟨vw, d, od, kvs, news, rfl, hh, F, N, hvw, hdm, hod, hsz, R⟩ := h₁
  obtain ⟨ep, hat⟩ := KdkAt.of hod
  have hlt : d < s₁.heap.objs.size := Heap.lt_size (N _ hdm).1
  refine wpAny_pyIter_values (knd := strKind prog w) (kvs := kvs) (ep := ep) ⟨_, (N _ hvw).1, rfl, rfl⟩ (hat.dictAt (N _ hdm).1) ?_
  have up : ∀ b o, s₁.heap.get? b = some o → (s₁.heap.push { cls := .type "dict_valueiterator", data := .fields #[.ref d, .int 0 0, .int kvs.length 0, .int ep 0] }).get? b = some o := fun b o e => Heap.get?_push_of_some _ e
  refine block_T (S := fun l => (d, od) ∈ l) (Walks.dictValues (knd := strKind prog w) hh s₁.heap.objs.size d (Nat.ne_of_lt hlt) kvs ep) hsz (fun i h st => by obtain ⟨o, e, _⟩ := st.1; exact ⟨o, e⟩)
    (fun i h h' o nw st e e' k N' S => ⟨by obtain ⟨o', q, r⟩ := st.1; rw [e] at q; cases q; exact ⟨o, e', r⟩, hat.dictAt (N' _ S).1⟩) hcell hkind hx ⟨⟨_, Heap.get?_push_size _ rfl, rfl, rfl⟩, hat.dictAt (up _ _ (N _ hdm).1)⟩ (fun b hb => ?_)
    (F.keeps up) (N.grown up) (Nat.ne_of_lt F.ns.lt) (next_is_new F) (fun p hp => Nat.ne_of_lt (Heap.lt_size (N p hp).1)) hdm (R _) ?_
  · show b < (s₁.heap.push _).objs.size
    rw [Heap.size_push]
    rcases List.mem_cons.mp hb with rfl | hb
    · exact Nat.lt_succ_self _
    · rw [List.mem_singleton.mp hb]; exact Nat.lt_succ_of_lt hlt
  · intro D C h tk m' ys news' F' N' o1 hn hC₀ hD₀ hCL hDL hCD offC fin
    refine ⟨m', hn, fun h'' hs'' => fin D h'' tk (F'.change hs'' hCL hC₀) (fun p hp => ?_) o1⟩
    refine ⟨hs''.extBut _ _ ?_ (N' p hp).1, (N' p hp).2⟩
    rcases List.mem_cons.mp hp with rfl | hp
    · exact Ne.symm hCD
    · exact offC p hp
open LCg LCt in
theorem compEnd_mono {h₀ : Heap} {L : Addr} {m : Str → Option Value} {s₁ : Shared} {I : Addr} {oI : Obj} {C : Addr} {oC : Obj} {D : Addr} {oD : Obj} {S : List (Addr × Obj) → Prop} {r1 r2 : Value → List (Addr × Obj) → Prop} {y : Value} {s₂ : Shared}
    (h : CompEnd h₀ L m s₁ I oI C oC D oD S r1 y s₂) (k : ∀ y l, r1 y l → r2 y l) : CompEnd h₀ L m s₁ I oI C oC D oD S r2 y s₂ := by
  obtain ⟨h', tk, news', a, b, c, d, e, f⟩ := h
  exact ⟨h', tk, news', a, b, c, d, e, k _ _ f⟩
open LCg LCt in
theorem compRestT_ind {prog : Program} {w : World} {A : Around} {s : Shared} {h₀ : Heap} {L : Addr} {m : Str → Option Value} {env : Env} {ct elt : PySem.Expr} {x : Str} {scope : Scope} {cl : List (Str × Addr)} {S : List (Addr × Obj) → Prop} {P : Nat → Value → Prop} {Fin : List Value → List (Addr × Obj) → Prop} {n : Nat}
    (J : Nat → List Value → List (Addr × Obj) → Prop)
    (step : ∀ i ys news, i < n → J i ys news → ∀ v I oI C oC D m₂ h tk (E' : Value → Shared → Prop), P i v → NsObj oC m₂ → m₂ x = some v → Fr h₀ L h m → News h₀ L h ((I, oI) :: (C, oC) :: (D, lst ys) :: news) → Off3 I C D news → ((@Ne Nat I C) ∧ (@Ne Nat I D) ∧ (@Ne Nat C D)) →
      wpAny (model prog w) A (isTrue ct (compEnvC scope cl C env) (eval ct (compEnvC scope cl C env))) (fun ok s' => if ok = true then
        wpAny (model prog w) A (eval elt (compEnvC scope cl C env)) (CompEnd h₀ L m { s with heap := h, toks := tk } I oI C oC D (lst ys) S (fun y news' => J (i + 1) (ys ++ [y]) news')) E' s'
        else CompEnd h₀ L m { s with heap := h, toks := tk } I oI C oC D (lst ys) S (fun _ news' => J (i + 1) ys news') Value.none s') E' { s with heap := h, toks := tk })
    (fin : ∀ ys news, J n ys news → Fin ys news) : ∀ k i ys news, i + k = n → J i ys news → CompRestT prog w A h₀ L m env ct elt x scope cl s S P Fin k i ys news := by
  intro k
  induction k with
  | zero => intro i ys news e j; exact CompRestT.zero (fin _ _ (by rw [← e]; exact j))
  | succ k ih =>
    intro i ys news e j
    refine CompRestT.succ fun v I oI C oC D m₂ h tk E' a1 a2 a3 a4 a5 a6 a7 => ?_
    refine wpAny_mono (step i ys news (by omega) j v I oI C oC D m₂ h tk E' a1 a2 a3 a4 a5 a6 a7) (fun ok s' h' => ?_) fun _ _ e => e
    cases ok with
    | true =>
      simp only [if_true] at h' ⊢
      exact wpAny_mono h' (fun y s₂ q => compEnd_mono q fun y l j' => ih (i + 1) _ _ (by omega) j') fun _ _ e => e
    | false =>
      simp only [Bool.false_eq_true, if_false] at h' ⊢
      exact compEnd_mono h' fun y l j' => ih (i + 1) _ _ (by omega) j'
open LCg in
theorem compRest_ind {prog : Program} {w : World} {A : Around} {s : Shared} {h₀ : Heap} {L : Addr} {m : Str → Option Value} {env : Env} {elt : PySem.Expr} {x : Str} {scope : Scope} {cl : List (Str × Addr)} {S : List (Addr × Obj) → Prop} {P : Nat → Value → Prop} {Fin : List Value → List (Addr × Obj) → Prop} {n : Nat}
    (J : Nat → List Value → List (Addr × Obj) → Prop)
    (step : ∀ i ys news, i < n → J i ys news → ∀ v I oI C oC D m₂ h tk (E' : Value → Shared → Prop), P i v → NsObj oC m₂ → m₂ x = some v → Fr h₀ L h m → News h₀ L h ((I, oI) :: (C, oC) :: (D, lst ys) :: news) → Off3 I C D news → ((@Ne Nat I C) ∧ (@Ne Nat I D) ∧ (@Ne Nat C D)) →
      wpAny (model prog w) A (eval elt (compEnvC scope cl C env)) (CompEnd h₀ L m { s with heap := h, toks := tk } I oI C oC D (lst ys) S (fun y news' => J (i + 1) (ys ++ [y]) news')) E' { s with heap := h, toks := tk })
    (fin : ∀ ys news, J n ys news → Fin ys news) : ∀ k i ys news, i + k = n → J i ys news → CompRest prog w A h₀ L m env elt x scope cl s S P Fin k i ys news := by
  intro k
  induction k with
  | zero => intro i ys news e j; exact CompRest.zero (fin _ _ (by rw [← e]; exact j))
  | succ k ih =>
    intro i ys news e j
    refine CompRest.succ fun v I oI C oC D m₂ h tk E' a1 a2 a3 a4 a5 a6 a7 => ?_
    exact wpAny_mono (step i ys news (by omega) j v I oI C oC D m₂ h tk E' a1 a2 a3 a4 a5 a6 a7) (fun y s₂ q => compEnd_mono q fun y l j' => ih (i + 1) _ _ (by omega) j') fun _ _ e => e
theorem kvsN_val {ns : List Nd} {i : Nat} {k : Str} {v : Value} (h : (kvsN ns)[i]? = some (k, v)) : ∃ nd, ns[i]? = some nd ∧ nd ∈ ns ∧ v = .ref nd.a := by
  obtain ⟨nd, a, b, _, c⟩ := kvsN_get h
  exact ⟨nd, a, b, c⟩
theorem takeN_snoc {α : Type} {vs : List α} {i : Nat} {v : α} (h : vs[i]? = some v) : vs.take (i + 1) = vs.take i ++ [v] := by
  obtain ⟨hi, e⟩ := List.getElem?_eq_some_iff.mp h
  rw [List.take_add_one, List.getElem?_eq_getElem hi, e]; rfl
section
variable {M : Model} {A : Around} {E : Value → Shared → Prop} {s : Shared} {env : Env}
theorem methodCall_star {o e : PySem.Expr} {name : Str} {apos pos p : Pos} {Q : Value → Shared → Prop}
    (h : wpAny M A (eval o env) (fun ov s₁ => wpAny M A (getAttr ov name true) (fun f s₂ => wpAny M A (callWith pos f [] (backTo pos (starEach [.Starred e p] env)) []) Q E s₂) E s₁) E s)
    (he : eval (.Call (.Attribute o name apos) [.Starred e p] [] pos) env = (do
      let ov ← eval o env
      standAt apos.atName
      let (f, first) ← holding [ov] (do pure (← getAttr ov name true, []))
      callWith pos f first (backTo pos (starEach [.Starred e p] env)) []) := by rfl) :
    wpAny M A (eval (.Call (.Attribute o name apos) [.Starred e p] [] pos) env) Q E s := by
  rw [he]
  refine wpAny_bind (wpAny_mono h (fun ov s₁ h₁ => wpAny_bind (wpAny_standAt (wpAny_bind (wpAny_holding (wpAny_bind (wpAny_mono h₁ (fun fx s₂ h₂ => wpAny_pure ?_) fun _ _ x => x)))))) fun _ _ x => x)
  exact h₂
theorem callStar_M {K : Frag} {h₀ : Heap} {L : Addr} {news : List (Addr × Obj)} {q g : Addr} {self : Value} {pos p : Pos} {e : PySem.Expr} {Q : Value → Shared → Prop} (_X : K.In h₀) (_N : News h₀ L s.heap news) (_q : (q, methodObj (.ref g) self) ∈ news) (hf : fnIn K g = true)
    (h : wpAny M A (eval e env) (fun v s₁ => StarOf M A E v (fun vs s₂ => MethP K q g self s₂.heap ∧ wpAny M A (call (.ref q) ([] ++ vs)) Q E s₂) s₁) E s)
    (he : starEach [.Starred e p] env = [(true, eval e env)] := by rfl) :
    wpAny M A (callWith pos (.ref q) [] (backTo pos (starEach [.Starred e p] env)) []) Q E s := by
  rw [he]
  exact ks_call rfl (keeps_M hf) (ks_lone h)
end
end
section
theorem kw13 : True := by
  w_top off
  k_with_none
  k_with "z getMethod ref" =>
    ((k_here; (with_reducible show wpAny _ _ (getMethod (Value.ref _) (Str.ofString "get") _) _ _ _); k_dflt (refine kdg_method (knd := PySem.strKind _ _) (by k_asm) (by k_mem) (by k_asm) ?_)))
  k_with "z call builtin:dict.get" =>
    ((k_here; k_dflt (refine kdg_get1 (knd := PySem.strKind _ _) (by k_asm) (by k_mem) (by k_asm) (by k_asm) (strKind_is _ _ _ _) _ (by k_asm) ?_); (try dsimp only [Option.getD])))
  k_with "z setItem ref str" =>
    ((k_here; k_dflt (refine' kda_set (knd := PySem.strKind _ _) (by k_asm) (by k_asm) (by k_updF) (by k_asm) (strKind_is _ _ _ _) (by (simp only [List.length_append, List.length_cons, List.length_nil, sizeLine_eq]; omega)) ?_); intro zh' zo' zF' zN' zhd'; (try dsimp only at zN'); (try first | rw [stored_nil] at zhd' | rw [stored_one (by assumption)] at zhd' | rw [stored_new _ _ _ (by assumption)] at zhd')))
  k_with "z exec For Name Name cons nil" =>
    ((k_here; (rename Fr _ _ _ _ => zlF'); (with_unfolding_all refine' For_turns zlF' ?_; k_whole)))
  k_with "z exec For Name Attribute cons nil" =>
    ((k_here; (rename Fr _ _ _ _ => zlF'); (with_unfolding_all refine' For_turns zlF' ?_; k_whole)))
  k_with "z exec For Name Call cons nil" =>
    ((k_here; (rename Fr _ _ _ _ => zlF'); (with_unfolding_all refine' For_turns zlF' ?_; k_whole)))
  k_with "z exec For Tuple Name cons nil" =>
    ((k_here; (rename Fr _ _ _ _ => zlF'); (with_unfolding_all refine' For_turns zlF' ?_; k_whole)))
  k_with "z exec For Name BinOp cons nil" =>
    ((k_here; (rename Fr _ _ _ _ => zlF'); (with_unfolding_all refine' For_turns zlF' ?_; k_whole)))
  k_with "z pyIter ref" =>
    ((k_here; (with_reducible show wpAny _ _ (pyIter (Value.ref _)) (fun it s₂ => TurnsAt _ _ _ _ _ _ _ _ _ it s₂) _ _); (rename Fr _ _ _ _ => zlF'); (rename News _ _ _ _ => zlN'); (with_unfolding_all refine iter_tup1 (by rfl) zlF' zlN' (by k_mem) (by rfl) (by rfl) ?_); clear zlF' zlN'; intro zi' zo' zh' ztk' zl1 zF' zN'; (try k_lt zl1)))
  k_with "z OneP" =>
    ((dsimp only [OneP]))
  k_with "z One" =>
    ((k_here; (k_dflt (refine' One.intro (by k_asm) (by k_asm) (by k_upd) (by k_mem) ?_; k_whole)); intro zh' ztk' zF' zN'))
  k_with "z subscriptTail" =>
    ((k_here; (with_reducible show wpAny _ _ (subscriptTail _ _ (Value.ref _) (Value.str _ _)) _ _ _); k_dflt (refine kda_item (knd := PySem.strKind _ _) (by k_asm) (by k_mem) (by k_asm) (strKind_is _ _ _ _) (by first | k_asm | exact vOne_get) ?_)))
  k_with "z call builtin:iter" =>
    ((k_here; (with_reducible show wpAny _ _ (call (Value.builtin "iter") [Value.ref _]) _ _ _); k_dflt (refine' iter_list_call (by k_asm) (by k_asm) (by k_mem) (by exact rfl) (by exact rfl) ?_; k_whole); intro zi' zh' zF' zN' zl1; (try k_lt zl1); (try k_sweep)))
  k_with "z getAttr ref" =>
    ((k_here; (with_reducible show wpAny _ _ (getAttr (Value.ref _) (Str.ofString "__next__") true) _ _ _); k_dflt (refine' next_attr (by k_asm) (by k_asm) (by k_mem) ?_; k_whole); intro zi' zh' zF' zN' zl1; (try k_lt zl1); (try k_sweep)))
  k_with "z callWith ref" =>
    ((k_here; (with_reducible show wpAny _ _ (callWith _ (Value.ref _) [] (backTo _ (starEach [] _)) []) _ _ _); k_dflt (refine' callWith_wrap (News.get (by k_asm) (by k_mem)) ?_; k_whole)))
  k_with "z call ref" =>
    ((k_here; (with_reducible show wpAny _ _ (call (Value.ref _) []) _ _ _); k_dflt (first
  | (refine' wrap_item (by k_asm) (by k_asm) (by k_mem) (by k_upd) (by k_mem) (by exact rfl) (by assumption) ?_; k_whole; intro zh' zF' zN'; (try k_sweep))
  | (refine' wrap_end (by exact rfl) (by k_asm) (by k_asm) (by k_mem) (by k_updF) (by k_mem) (by exact rfl) (by assumption) ?_; k_whole; intro zh₁' zh' ze' zo' zF' zN' ztiX'; (try dsimp only at zN')))))
  k_with "z noteFrame ref" =>
    ((k_here; (with_reducible rename Heap.NewExc _ _ _ _ => ztiX'); k_dflt (refine' caughtT (by exact rfl) (by assumption) ztiX' (by k_asm) (by k_asm) (by assumption) (by k_upd) (by assumption) (by assumption) (by decide +kernel) (by decide +kernel) (by decide +kernel) (by decide +kernel) (by decide +kernel) (by exact rfl) (by exact rfl) (by passes_own) ?_; k_whole); clear ztiX'; intro zh' zfrs' zsu' zfr' zhR' zh0' zF' zN'; (try dsimp only at zN')))
  k_with "z compareOp In str ref" =>
    ((k_here; k_dflt (first
  | (refine' set_in_b (by k_asm) (by k_updF) (by k_asm) (by first | assumption | exact Nat.lt_of_succ_lt (by assumption) | kse_small) _ (by assumption) ?_)
  | (refine' kda_in (knd := PySem.strKind _ _) (by k_asm) (by k_mem) (by k_asm) (by k_asm) (strKind_is _ _ _ _) _ (by first | assumption | exact vOne_self | exact vOne_ne (by assumption) | rfl) ?_))))
  k_with "z delItem ref str" =>
    ((k_here; k_dflt (refine' kob_del (knd := PySem.strKind _ _) (by k_asm) (by k_asm) (by k_updF) (by k_asm) (strKind_is _ _ _ _) (by first | exact vOne_self | exact vTwo_self | assumption) (by (rw [sizeLine_eq]; exact Nat.le_of_ble_eq_true rfl)) ?_); intro zh' zo' zF' zN' zhd'; (try dsimp only at zN'); (first | rw [wOne] at zhd' | rw [wTwo (by assumption)] at zhd')))
  k_with "z WhlRest" =>
    (((with_reducible show WhlRest _ _ _ _ _ (PySem.Expr.Constant _ _ _) _ _ _ _ _); refine parked ?_))
  k_with "z truthy ref" =>
    ((k_here; (with_reducible show wpAny _ _ (truthy (Value.ref _)) _ _ _); k_dflt (first
  | (refine' truthyPush (by k_asm) (by k_mem) (by first | exact Nat.zero_le _ | size_fits) ?_)
  | (refine' truthyNil (by k_asm) (by k_mem) ?_)
  | (refine' truthyCons (by k_asm) (by k_mem) (by size_fits) ?_))))
  k_with "z call type:bool" =>
    ((k_here; (with_reducible show wpAny _ _ (call _ [Value.ref _]) _ _ _); k_dflt (refine' boolList (by k_asm) (by k_mem) (by (simp only [List.size_toArray]; assumption)) ?_)))
  k_with "z call type:tuple" =>
    ((k_here; (with_reducible show wpAny _ _ (call (Value.type _) [Value.ref _]) _ _ _); k_dflt (refine' kde_tupleOf (by k_asm) (by k_asm) (by exact News.isList (by k_asm) (by k_mem)) (by first | omega | (simp only [List.size_toArray]; omega)) rfl ?_); intro zD' zh' zF' zN' zl1; (try k_lt zl1)))
  k_with "z call builtin:len" =>
    ((k_here; (with_reducible show wpAny _ _ (call (Value.builtin "len") [Value.ref _]) _ _ _); k_dflt (refine' kun_lenT (by exact News.isTup (by k_asm) (by k_mem)) rfl (by (simp only [List.size_toArray]; omega)) ?_)))
  k_with "z execs cons" =>
    (((try (k_here; k_made)); (try (with_reducible refine tok_cut1 ?_; intro tk; (try dsimp only))); (try k_fold); (with_reducible refine wpAny_execs_cons ?_); (try dsimp only); (try k_fold)))
  k_with "k_conj" =>
    (first | exact c0 (by assumption) | exact c1 (by assumption) | exact c2 (by assumption) | exact c3 (by assumption) | exact c4 (by assumption) | exact c5 (by assumption) | exact c6 (by assumption) | exact c7 (by assumption) | exact c8 (by assumption) | exact c9 (by assumption) | exact c10 (by assumption) | exact c11 (by assumption))
  k_with "z call ref" =>
    ((k_here; (with_reducible show wpAny _ _ (call (Value.ref 127) _) _ _ _); refine parked ?_))
  k_with "z eval ListComp" =>
    ((k_here; k_dflt (refine listComp_values (by k_asm) (by with_unfolding_all rfl) (by decide) (by rfl) (by decide) (by rfl) ?_)))
  trivial
noncomputable def Nd.out (nd : Nd) : Value := .str nd.key nd.kt
noncomputable def readyV (ns : List Nd) : List Value := (ns.filter fun nd => decide (nd.np = 0)).map Nd.out
theorem readyV_snoc (ns : List Nd) (nd : Nd) : readyV (ns ++ [nd]) = if nd.np = 0 then readyV ns ++ [nd.out] else readyV ns := by
  unfold readyV
  rw [List.filter_append, List.map_append]
  by_cases h : nd.np = 0 <;> simp [h]
theorem off1_mem {D : Addr} : ∀ {l : List (Addr × Obj)}, LCg.Off1 D l → ∀ p ∈ l, p.1 ≠ D
  | [], _, _, h => nomatch h
  | _ :: _, x, p, h => by
    rcases List.mem_cons.mp h with rfl | h
    · exact x.1
    · exact off1_mem x.2 p h
theorem prepare_ {w : World} {mean : ExcName → Option Value} {mg mb : Str → Option Value} {dp un : Nat} {gd : Option (List Code)} {cn : Str} {cs : Scope} {a : Addr} {ccd : Value} {cl : List (Str × Addr)} {outer : List Env} {hb : Heap} {L : Addr} {m : Str → Option Value}
    {s : Shared} {Q E : Value → Shared → Prop} {rest frs : List (Addr × Obj)} (X : (hd.heap_39 w.params).In hb) (T : Top hd.view_39 (looseW hd.view_39 [Str.ofString "_NodeInfo"]) mean mg mb hb) (hk : cs.kind = .function) (hdp : dp + 80 < recursionLimit) (hu : un + 800 < cLine)
    {x dx d : Addr} {t1 t2 t3 t4 : Tok} {np nf : Value} {od : Obj} {ns : List Nd}
    (Fs : TI.Frs outer frs) (F : Fr hb L s.heap m) (N : News hb L s.heap (((x, instObj 137 dx) :: (dx, sortD w t1 t2 t3 t4 d .none np nf) :: (d, od) :: (ledN ns ++ rest)) ++ frs)) (hr0 : ∀ p ∈ (x, instObj 137 dx) :: (dx, sortD w t1 t2 t3 t4 d .none np nf) :: (d, od) :: (ledN ns ++ rest), p.1 ∉ frs.map (·.1))
    (g1 : x ≠ dx) (g2 : ∀ p ∈ (d, od) :: (ledN ns ++ rest), p.1 ≠ dx)
    (hod : od.IsDictOf (strKind Challenge.rw_mq0328_01.row.prog w) (kvsN ns)) (lo : (d == sysModules) = false)
    (hnd : (ns.map (·.key)).Nodup) (hlen : ns.length ≤ 40) (hlen2 : ∀ nd ∈ ns, nd.su.length ≤ 40)
    (hsu : ∀ nd ∈ ns, ∀ v ∈ nd.su, ∃ nd' ∈ ns, ∃ t, v = .str nd'.key t ∧ (nd'.key = nd.key ∨ nd'.su = []))
    (ret : ∀ D h' tk' frs' e, firstHeld ns = none → TI.SameUp frs frs' → TI.Frs outer frs' → Fr hb L h' m → News hb L h' (((D, W.listOf (readyV ns).toArray e) :: (x, instObj 137 dx) :: (dx, sortD w t1 t2 t3 t4 d (.ref D) np nf) :: (d, od) :: (ledN ns ++ rest)) ++ frs') →
      (∀ p ∈ ((x, instObj 137 dx) :: (dx, sortD w t1 t2 t3 t4 d .none np nf) :: (d, od) :: (ledN ns ++ rest)) ++ frs, p.1 ≠ D) → Q .none { s with heap := h', toks := tk' })
    (exc : ∀ k D ex h' tk' frs' e, firstHeld ns = some k → TI.SameUp frs frs' → RaisedT hb L m (envX cn cs L a ccd cl) outer ex (.ref 55) ((D, W.listOf (readyV ns).toArray e) :: (x, instObj 137 dx) :: (dx, sortD w t1 t2 t3 t4 d (.ref D) np nf) :: (d, od) :: (ledN ns ++ rest)) frs' h' →
      (∀ p ∈ ((x, instObj 137 dx) :: (dx, sortD w t1 t2 t3 t4 d .none np nf) :: (d, od) :: (ledN ns ++ rest)) ++ frs, p.1 ≠ D) → E (.ref ex) { s with heap := h', toks := tk' }) :
    wpAny (model Challenge.rw_mq0328_01.row.prog w) (ktrTop dp un gd cn cs L a ccd cl outer) (call (.ref 92) [.ref x]) Q E s := by
  refine wpAny_call ?_
  k_dflt (refine' code_defT2 (news := (x, instObj 137 dx) :: (dx, sortD w t1 t2 t3 t4 d .none np nf) :: (d, od) :: (ledN ns ++ rest)) ?kA ?kF ?kK Fs F X N T ?k6 ?k7 ?k8 ?k9 ?kB ?_ ?c2 ?c3 ?c4 ?c5; (case kA => exact rfl); (case kF => exact rfl); (case kK => assumption); (case k6 => k_is); (case k7 => k_is); (case k8 => k_room); (case k9 => exact BindsTo.of_eq rfl); (case kB => exact locs rfl); (case c5 => decide); (case c2 => exact rfl); (case c3 => exact rfl); (case c4 => exact rfl); k_whole)
  intro L' h' oL FsL hL' back F' N'
  simp only [List.cons_append] at N'
  (try dsimp only); (try k_fold)
  k_steps
  (rename Fr _ _ _ _ => lF'); (rename News _ _ _ _ => lN')
  clear N' F'
  refine ⟨_, d, od, kvsN ns, _, rfl, rfl, lF', lN', .head _, .tail _ (.tail _ (.tail _ (.head _))), hod, (by rw [sizeLine_eq]; simp only [kvsN, List.length_map]; omega), fun g => ?_⟩
  refine compRestT_ind (n := (kvsN ns).length) (fun i ys l => ys = readyV (ns.take i) ∧ l = _) ?_ ?_ _ 0 [] _ (Nat.zero_add _) ⟨rfl, rfl⟩
  · rintro i ys l hi ⟨rfl, rfl⟩ v I oI C oC D m₂ h tk E' ⟨k, hv⟩ hC' hx' F' N' off' ne'
    obtain ⟨nd, hi', hmem, rfl⟩ := kvsN_val hv
    have m1 : (nd.a, nd.info) ∈ ledN ns := ledN_mem hmem (List.mem_cons_self ..)
    have m2 : (nd.d, dictOf [] 0) ∈ ledN ns := ledN_mem hmem (.tail _ (.head _))
    clear lF' lN'
    have N₂ := News.sub (l' := (I, oI) :: (C, oC) :: (D, _) :: (nd.a, infoO nd.d nd.s nd.np nd.nt nd.key nd.kt) :: (nd.d, dictOf [] 0) :: _) N' (consSub (consSub (consSub (subC (.tail _ (.tail _ (.tail _ (.tail _ (List.mem_append_left _ (List.mem_append_left _ m1)))))) (subC (.tail _ (.tail _ (.tail _ (.tail _ (List.mem_append_left _ (List.mem_append_left _ m2)))))) (fun _ hq => hq))))))
    clear N'
    k_steps
    · rename (nd.np = 0) => hz
      exact LCg.CompEnd.intro (by k_asm) N₂ _ (consSub (consSub (consSub (fun q hq => .tail _ (.tail _ hq))))) off' (.tail _ (.tail _ (.tail _ (.head _)))) ⟨by rw [takeN_snoc hi', readyV_snoc, if_pos hz]; rfl, rfl⟩
    · rename (¬ nd.np = 0) => hz
      exact LCg.CompEnd.intro (by k_asm) N₂ _ (consSub (consSub (consSub (fun q hq => .tail _ (.tail _ hq))))) off' (.tail _ (.tail _ (.tail _ (.head _)))) ⟨by rw [takeN_snoc hi', readyV_snoc, if_neg hz], rfl⟩
  · rintro ys l ⟨rfl, rfl⟩
    have hlk : (kvsN ns).length = ns.length := by simp [kvsN]
    rw [hlk, List.take_length]
    intro D h tk F₁ N₁ o1
    have hdxL : dx ≠ L := (N _ (List.mem_append_left _ (.tail _ (.head _)))).2.1
    have q1 : ∀ p ∈ ledN ns ++ rest ++ (L, oL) :: frs, p.1 ≠ dx := fun p hp => by
      rcases List.mem_append.mp hp with hp | hp
      · exact g2 p (.tail _ hp)
      rcases List.mem_cons.mp hp with rfl | hp
      · exact hdxL.symm
      · exact fun e => hr0 _ (.tail _ (.head _)) (by rw [← e]; exact List.mem_map_of_mem (f := (·.1)) hp)
    have q2 : d ≠ dx := g2 _ (.head _)
    have q3 : D ≠ dx := fun e => o1.2.2.1 e.symm
    have N₂ := News.sub (l' := (D, W.listOf (readyV ns).toArray (readyV ns).length) :: (x, instObj 137 dx) :: (dx, sortD w t1 t2 t3 t4 d .none np nf) :: (d, od) :: (ledN ns ++ rest ++ (L, oL) :: frs)) N₁ (consSub (fun q hq => .tail _ hq))
    clear N₁ lN' lF'
    dsimp only
    k_steps
    unfold Parked
    (rename Fr _ _ _ _ => F3); (rename News _ _ _ _ => N3)
    have hD : ∀ p ∈ (x, instObj 137 dx) :: (dx, sortD w t1 t2 t3 t4 d .none np nf) :: (d, od) :: (ledN ns ++ rest ++ (L, oL) :: frs), p.1 ≠ D := fun p hp => off1_mem o1 p (.tail _ hp)
    have hDf : D ∉ frs.map (·.1) := fun hm => by
      obtain ⟨q, hq, e⟩ := List.mem_map.mp hm
      exact hD q (.tail _ (.tail _ (.tail _ (List.mem_append_right _ (.tail _ hq))))) e
    have hDL : D ≠ L := fun e => hD (L, oL) (.tail _ (.tail _ (.tail _ (List.mem_append_right _ (.head _))))) e.symm
    have hL0 : ∀ p ∈ (D, W.listOf (readyV ns).toArray (readyV ns).length) :: (x, instObj 137 dx) :: (dx, sortD w t1 t2 t3 t4 d (.ref D) np nf) :: (d, od) :: (ledN ns ++ rest), p.1 ≠ L := fun p hp => by
      rcases List.mem_cons.mp hp with rfl | hp
      · exact hDL
      rcases List.mem_cons.mp hp with rfl | hp
      · exact (N _ (List.mem_append_left _ (.head _))).2.1
      rcases List.mem_cons.mp hp with rfl | hp
      · exact hdxL
      · exact (N _ (List.mem_append_left _ (.tail _ (.tail _ hp)))).2.1
    have hr1 : ∀ p ∈ (D, W.listOf (readyV ns).toArray (readyV ns).length) :: (x, instObj 137 dx) :: (dx, sortD w t1 t2 t3 t4 d (.ref D) np nf) :: (d, od) :: (ledN ns ++ rest), p.1 ∉ frs.map (·.1) := fun p hp => by
      rcases List.mem_cons.mp hp with rfl | hp
      · exact hDf
      rcases List.mem_cons.mp hp with rfl | hp
      · exact hr0 _ (.head _)
      rcases List.mem_cons.mp hp with rfl | hp
      · exact hr0 (dx, sortD w t1 t2 t3 t4 d .none np nf) (.tail _ (.head _))
      · exact hr0 _ (.tail _ (.tail _ hp))
    have hr2 : ∀ p ∈ (D, W.listOf (readyV ns).toArray (readyV ns).length) :: (x, instObj 137 dx) :: (dx, sortD w t1 t2 t3 t4 d (.ref D) np nf) :: (d, od) :: (ledN ns ++ rest), p.1 ∉ ((L, oL) :: frs).map (·.1) := fun p hp hm => by
      rcases List.mem_cons.mp hm with z | z
      · exact hL0 p hp z
      · exact hr1 p hp z
    k_dflt (refine find_cycle (r0 := (D, W.listOf (readyV ns).toArray (readyV ns).length) :: (x, instObj 137 dx) :: (dx, sortD w t1 t2 t3 t4 d (.ref D) np nf) :: (d, od) :: (ledN ns ++ rest)) (frs := (L, oL) :: frs) X T rfl ?u1 ?u2 FsL F3 N3 hr2 (.tail _ (.head _)) (.tail _ (.tail _ (.head _))) (.tail _ (.tail _ (.tail _ (.head _)))) hod lo (fun p hp => .tail _ (.tail _ (.tail _ (.tail _ (List.mem_append_left _ hp))))) hnd hlen hlen2 hsu ?_)
    case u1 => (show dp + 1 + 40 < recursionLimit); omega
    case u2 => (show un + 3 + 400 < cLine); omega
    clear F3 N3
    have hDall : ∀ p ∈ ((x, instObj 137 dx) :: (dx, sortD w t1 t2 t3 t4 d .none np nf) :: (d, od) :: (ledN ns ++ rest)) ++ frs, p.1 ≠ D := fun p hp => by
      rcases List.mem_append.mp hp with hp | hp
      · exact hD p (by
          rcases List.mem_cons.mp hp with rfl | hp
          · exact .head _
          rcases List.mem_cons.mp hp with rfl | hp
          · exact .tail _ (.head _)
          rcases List.mem_cons.mp hp with rfl | hp
          · exact .tail _ (.tail _ (.head _))
          · exact .tail _ (.tail _ (.tail _ (List.mem_append_left _ hp))))
      · exact hD p (.tail _ (.tail _ (.tail _ (List.mem_append_right _ (.tail _ hp)))))
    intro r h' tk' frs' new SU Fs' F4 N4 hcase
    rcases hcase with ⟨hnone, rfl, rfl⟩ | ⟨k, b, t, t', e, hsome, rfl, rfl, hbl⟩
    · k_steps
      (rename Fr _ _ _ _ => F5); (rename News _ _ _ _ => N5)
      exact LeaveT.of (new := []) (r0 := (D, W.listOf (readyV ns).toArray (readyV ns).length) :: (x, instObj 137 dx) :: (dx, sortD w t1 t2 t3 t4 d (.ref D) np nf) :: (d, od) :: (ledN ns ++ rest)) F5 N5 (fun p hp => hp) SU hL0 (fun frs2 su fs F N => ret D _ _ _ _ hnone su fs F N hDall)
    · cases frs' with
      | nil => exact SU.elim
      | cons q0 frs1 =>
        obtain ⟨q1', q2'⟩ := q0
        obtain ⟨z1, ⟨sl, z2⟩, SU1⟩ := SU
        obtain rfl : q1' = L := z1
        obtain rfl : q2' = { oL with slots := sl } := z2
        k_steps
        rename Heap.MadeExcOf _ _ _ _ _ => hx
        (rename Fr _ _ _ _ => F5); (rename News _ _ _ _ => N5)
        have ea := sameUp_addr SU1
        k_dflt (refine leaveRaiseT (frs := (q1', { oL with slots := sl }) :: frs1) (new := (D, W.listOf (readyV ns).toArray (readyV ns).length) :: (x, instObj 137 dx) :: (dx, sortD w t1 t2 t3 t4 d (.ref D) np nf) :: (d, od) :: (ledN ns ++ rest)) rfl Fs' hx F5 (News.sub N5 fun p hp => .tail _ hp) (fun p hp hm => ?_) rfl ?_)
        · rcases List.mem_cons.mp hm with z | z
          · exact hL0 p hp z
          · exact hr1 p hp (by rw [← ea]; exact z)
        · intro h6 frs2 B a0 SU2 Fs2 hB hn hfl hall
          cases frs2 with
          | nil => exact SU2.elim
          | cons q0 frs3 =>
            obtain ⟨q1'', q2''⟩ := q0
            obtain ⟨z1, ⟨sl2, z2⟩, SU3⟩ := SU2
            obtain rfl : q1'' = q1' := z1
            obtain rfl : q2'' = { oL with slots := sl2 } := z2
            have SU4 := TI.SameUp.trans SU1 SU3
            refine exc k D _ _ _ frs3 _ hsome SU4 ⟨B, a0, hB, hn, hfl, Fs2.2.2.2, back h6 sl2 (hall _ (List.mem_append_right _ (.head _))).1 (fun b o e => hfl.1 b o (hB b o e)), fun p hp => ?_⟩ hDall
            rcases List.mem_append.mp hp with hp | hp
            · exact ⟨(hall p (List.mem_append_left _ hp)).1, hL0 p hp, (hall p (List.mem_append_left _ hp)).2⟩
            · refine ⟨(hall p (List.mem_append_right _ (.tail _ hp))).1, ?_, (hall p (List.mem_append_right _ (.tail _ hp))).2⟩
              obtain ⟨x', hx', q⟩ := SU4.fwd p hp
              rw [q]
              exact (N x' (List.mem_append_right _ hx')).2.1
end
section
theorem kw14 : True := by
  w_top off
  k_with_none
  k_with "z getMethod ref" =>
    ((k_here; (with_reducible show wpAny _ _ (getMethod (Value.ref _) (Str.ofString "get") _) _ _ _); k_dflt (refine kdg_method (knd := PySem.strKind _ _) (by k_asm) (by k_mem) (by k_asm) ?_)))
  k_with "z call builtin:dict.get" =>
    ((k_here; k_dflt (refine kdg_get1 (knd := PySem.strKind _ _) (by k_asm) (by k_mem) (by k_asm) (by k_asm) (strKind_is _ _ _ _) _ (by k_asm) ?_); (try dsimp only [Option.getD])))
  k_with "z setItem ref str" =>
    ((k_here; k_dflt (refine' kda_set (knd := PySem.strKind _ _) (by k_asm) (by k_asm) (by k_updF) (by k_asm) (strKind_is _ _ _ _) (by (simp only [List.length_append, List.length_cons, List.length_nil, sizeLine_eq]; omega)) ?_); intro zh' zo' zF' zN' zhd'; (try dsimp only at zN'); (try first | rw [stored_nil] at zhd' | rw [stored_one (by assumption)] at zhd' | rw [stored_new _ _ _ (by assumption)] at zhd')))
  k_with "z exec For Name Name cons nil" =>
    ((k_here; (rename Fr _ _ _ _ => zlF'); (with_unfolding_all refine' For_turns zlF' ?_; k_whole)))
  k_with "z exec For Name Attribute cons nil" =>
    ((k_here; (rename Fr _ _ _ _ => zlF'); (with_unfolding_all refine' For_turns zlF' ?_; k_whole)))
  k_with "z exec For Name Call cons nil" =>
    ((k_here; (rename Fr _ _ _ _ => zlF'); (with_unfolding_all refine' For_turns zlF' ?_; k_whole)))
  k_with "z exec For Tuple Name cons nil" =>
    ((k_here; (rename Fr _ _ _ _ => zlF'); (with_unfolding_all refine' For_turns zlF' ?_; k_whole)))
  k_with "z exec For Name BinOp cons nil" =>
    ((k_here; (rename Fr _ _ _ _ => zlF'); (with_unfolding_all refine' For_turns zlF' ?_; k_whole)))
  k_with "z pyIter ref" =>
    ((k_here; (with_reducible show wpAny _ _ (pyIter (Value.ref _)) (fun it s₂ => TurnsAt _ _ _ _ _ _ _ _ _ it s₂) _ _); (rename Fr _ _ _ _ => zlF'); (rename News _ _ _ _ => zlN'); (with_unfolding_all refine iter_tup1 (by rfl) zlF' zlN' (by k_mem) (by rfl) (by rfl) ?_); clear zlF' zlN'; intro zi' zo' zh' ztk' zl1 zF' zN'; (try k_lt zl1)))
  k_with "z OneP" =>
    ((dsimp only [OneP]))
  k_with "z One" =>
    ((k_here; (k_dflt (refine' One.intro (by k_asm) (by k_asm) (by k_upd) (by k_mem) ?_; k_whole)); intro zh' ztk' zF' zN'))
  k_with "z subscriptTail" =>
    ((k_here; (with_reducible show wpAny _ _ (subscriptTail _ _ (Value.ref _) (Value.str _ _)) _ _ _); k_dflt (refine kda_item (knd := PySem.strKind _ _) (by k_asm) (by k_mem) (by k_asm) (strKind_is _ _ _ _) (by first | k_asm | exact vOne_get) ?_)))
  k_with "z call builtin:iter" =>
    ((k_here; (with_reducible show wpAny _ _ (call (Value.builtin "iter") [Value.ref _]) _ _ _); k_dflt (refine' iter_list_call (by k_asm) (by k_asm) (by k_mem) (by exact rfl) (by exact rfl) ?_; k_whole); intro zi' zh' zF' zN' zl1; (try k_lt zl1); (try k_sweep)))
  k_with "z getAttr ref" =>
    ((k_here; (with_reducible show wpAny _ _ (getAttr (Value.ref _) (Str.ofString "__next__") true) _ _ _); k_dflt (refine' next_attr (by k_asm) (by k_asm) (by k_mem) ?_; k_whole); intro zi' zh' zF' zN' zl1; (try k_lt zl1); (try k_sweep)))
  k_with "z callWith ref" =>
    ((k_here; (with_reducible show wpAny _ _ (callWith _ (Value.ref _) [] (backTo _ (starEach [] _)) []) _ _ _); k_dflt (refine' callWith_wrap (News.get (by k_asm) (by k_mem)) ?_; k_whole)))
  k_with "z call ref" =>
    ((k_here; (with_reducible show wpAny _ _ (call (Value.ref _) []) _ _ _); k_dflt (first
  | (refine' wrap_item (by k_asm) (by k_asm) (by k_mem) (by k_upd) (by k_mem) (by exact rfl) (by assumption) ?_; k_whole; intro zh' zF' zN'; (try k_sweep))
  | (refine' wrap_end (by exact rfl) (by k_asm) (by k_asm) (by k_mem) (by k_updF) (by k_mem) (by exact rfl) (by assumption) ?_; k_whole; intro zh₁' zh' ze' zo' zF' zN' ztiX'; (try dsimp only at zN')))))
  k_with "z noteFrame ref" =>
    ((k_here; (with_reducible rename Heap.NewExc _ _ _ _ => ztiX'); k_dflt (refine' caughtT (by exact rfl) (by assumption) ztiX' (by k_asm) (by k_asm) (by assumption) (by k_upd) (by assumption) (by assumption) (by decide +kernel) (by decide +kernel) (by decide +kernel) (by decide +kernel) (by decide +kernel) (by exact rfl) (by exact rfl) (by passes_own) ?_; k_whole); clear ztiX'; intro zh' zfrs' zsu' zfr' zhR' zh0' zF' zN'; (try dsimp only at zN')))
  k_with "z compareOp In str ref" =>
    ((k_here; k_dflt (first
  | (refine' set_in_b (by k_asm) (by k_updF) (by k_asm) (by first | assumption | exact Nat.lt_of_succ_lt (by assumption) | kse_small) _ (by assumption) ?_)
  | (refine' kda_in (knd := PySem.strKind _ _) (by k_asm) (by k_mem) (by k_asm) (by k_asm) (strKind_is _ _ _ _) _ (by first | assumption | exact vOne_self | exact vOne_ne (by assumption) | rfl) ?_))))
  k_with "z delItem ref str" =>
    ((k_here; k_dflt (refine' kob_del (knd := PySem.strKind _ _) (by k_asm) (by k_asm) (by k_updF) (by k_asm) (strKind_is _ _ _ _) (by first | exact vOne_self | exact vTwo_self | assumption) (by (rw [sizeLine_eq]; exact Nat.le_of_ble_eq_true rfl)) ?_); intro zh' zo' zF' zN' zhd'; (try dsimp only at zN'); (first | rw [wOne] at zhd' | rw [wTwo (by assumption)] at zhd')))
  k_with "z WhlRest" =>
    (((with_reducible show WhlRest _ _ _ _ _ (PySem.Expr.Constant _ _ _) _ _ _ _ _); refine parked ?_))
  k_with "z truthy ref" =>
    ((k_here; (with_reducible show wpAny _ _ (truthy (Value.ref _)) _ _ _); k_dflt (first
  | (refine' truthyPush (by k_asm) (by k_mem) (by first | exact Nat.zero_le _ | size_fits) ?_)
  | (refine' truthyNil (by k_asm) (by k_mem) ?_)
  | (refine' truthyCons (by k_asm) (by k_mem) (by size_fits) ?_))))
  k_with "z call type:bool" =>
    ((k_here; (with_reducible show wpAny _ _ (call _ [Value.ref _]) _ _ _); k_dflt (refine' boolList (by k_asm) (by k_mem) (by (simp only [List.size_toArray]; assumption)) ?_)))
  k_with "z call type:tuple" =>
    ((k_here; (with_reducible show wpAny _ _ (call (Value.type _) [Value.ref _]) _ _ _); k_dflt (refine' kde_tupleOf (by k_asm) (by k_asm) (by exact News.isList (by k_asm) (by k_mem)) (by first | omega | (simp only [List.size_toArray]; omega)) rfl ?_); intro zD' zh' zF' zN' zl1; (try k_lt zl1)))
  k_with "z call builtin:len" =>
    ((k_here; (with_reducible show wpAny _ _ (call (Value.builtin "len") [Value.ref _]) _ _ _); k_dflt (refine' kun_lenT (by exact News.isTup (by k_asm) (by k_mem)) rfl (by (simp only [List.size_toArray]; omega)) ?_)))
  k_with "z execs cons" =>
    (((try (k_here; k_made)); (try (with_reducible refine tok_cut1 ?_; intro tk; (try dsimp only))); (try k_fold); (with_reducible refine wpAny_execs_cons ?_); (try dsimp only); (try k_fold)))
  k_with "k_conj" =>
    (first | exact c0 (by assumption) | exact c1 (by assumption) | exact c2 (by assumption) | exact c3 (by assumption) | exact c4 (by assumption) | exact c5 (by assumption) | exact c6 (by assumption) | exact c7 (by assumption) | exact c8 (by assumption) | exact c9 (by assumption) | exact c10 (by assumption) | exact c11 (by assumption))
  k_with "z call ref" =>
    ((k_here; (with_reducible show wpAny _ _ (call (Value.ref 92) _) _ _ _); refine parked ?_))
  trivial
theorem law_refused {w : World} {mean : ExcName → Option Value} {mg mb : Str → Option Value} {dp un : Nat} {gd : Option (List Code)} {cn : Str} {cs : Scope} {a : Addr} {ccd : Value} {cl : List (Str × Addr)} {outer : List Env} {hb : Heap} {L : Addr} {m : Str → Option Value}
    {s : Shared} {Q E : Value → Shared → Prop} {rest frs : List (Addr × Obj)} (X : (hd.heap_39 w.params).In hb) (T : Top hd.view_39 (looseW hd.view_39 [Str.ofString "_NodeInfo"]) mean mg mb hb) (hk : cs.kind = .function) (hdp : dp + 120 < recursionLimit) (hu : un + 1200 < cLine)
    {x dx d : Addr} {t1 t2 t3 t4 : Tok} {np nf : Value} {od : Obj} {ns : List Nd}
    (Fs : TI.Frs outer frs) (F : Fr hb L s.heap m) (N : News hb L s.heap (((x, instObj 137 dx) :: (dx, sortD w t1 t2 t3 t4 d .none np nf) :: (d, od) :: (ledN ns ++ rest)) ++ frs)) (hr0 : ∀ p ∈ (x, instObj 137 dx) :: (dx, sortD w t1 t2 t3 t4 d .none np nf) :: (d, od) :: (ledN ns ++ rest), p.1 ∉ frs.map (·.1))
    (g1 : x ≠ dx) (g2 : ∀ p ∈ (d, od) :: (ledN ns ++ rest), p.1 ≠ dx)
    (hod : od.IsDictOf (strKind Challenge.rw_mq0328_01.row.prog w) (kvsN ns)) (lo : (d == sysModules) = false)
    (hnd : (ns.map (·.key)).Nodup) (hlen : ns.length ≤ 40) (hlen2 : ∀ nd ∈ ns, nd.su.length ≤ 40)
    (hsu : ∀ nd ∈ ns, ∀ v ∈ nd.su, ∃ nd' ∈ ns, ∃ t, v = .str nd'.key t ∧ (nd'.key = nd.key ∨ nd'.su = []))
    (ret : ∀ D h' tk' frs' e, TI.SameUp frs frs' → TI.Frs outer frs' → Fr hb L h' m → News hb L h' (((D, W.listOf (readyV ns).toArray e) :: (x, instObj 137 dx) :: (dx, sortD w t1 t2 t3 t4 d (.ref D) np nf) :: (d, od) :: (ledN ns ++ rest)) ++ frs') →
      (∀ p ∈ ((x, instObj 137 dx) :: (dx, sortD w t1 t2 t3 t4 d .none np nf) :: (d, od) :: (ledN ns ++ rest)) ++ frs, p.1 ≠ D) → Q (.bool (firstHeld ns).isSome) { s with heap := h', toks := tk' }) :
    wpAny (model Challenge.rw_mq0328_01.row.prog w) (ktrTop dp un gd cn cs L a ccd cl outer) (call (.ref 155) [.ref x]) Q E s := by
  refine wpAny_call ?_
  k_dflt (refine' code_defT2 (news := (x, instObj 137 dx) :: (dx, sortD w t1 t2 t3 t4 d .none np nf) :: (d, od) :: (ledN ns ++ rest)) ?kA ?kF ?kK Fs F X N T ?k6 ?k7 ?k8 ?k9 ?kB ?_ ?c2 ?c3 ?c4 ?c5; (case kA => exact rfl); (case kF => exact rfl); (case kK => assumption); (case k6 => k_is); (case k7 => k_is); (case k8 => k_room); (case k9 => exact BindsTo.of_eq rfl); (case kB => exact locs rfl); (case c5 => decide); (case c2 => exact rfl); (case c3 => exact rfl); (case c4 => exact rfl); k_whole)
  intro L' h' oL FsL hL' back F' N'
  have N0 := N'
  simp only [List.cons_append] at N'
  (try dsimp only); (try k_fold)
  k_steps
  unfold Parked
  have hL0 : ∀ p ∈ (x, instObj 137 dx) :: (dx, sortD w t1 t2 t3 t4 d .none np nf) :: (d, od) :: (ledN ns ++ rest), p.1 ≠ L := fun p hp => (N p (List.mem_append_left _ hp)).2.1
  have hr1 : ∀ p ∈ (x, instObj 137 dx) :: (dx, sortD w t1 t2 t3 t4 d .none np nf) :: (d, od) :: (ledN ns ++ rest), p.1 ∉ ((L, oL) :: frs).map (·.1) := fun p hp hm => by
    rcases List.mem_cons.mp hm with z | z
    · exact hL0 p hp z
    · exact hr0 p hp z
  k_dflt (refine prepare_ (frs := (L, oL) :: frs) X T rfl ?u1 ?u2 FsL F' N0 hr1 g1 g2 hod lo hnd hlen hlen2 hsu ?r1 ?r2)
  case u1 => (show dp + 1 + 80 < recursionLimit); omega
  case u2 => (show un + 3 + 800 < cLine); omega
  · intro D h2 tk2 frs2 e hnone SU Fs2 F2 N2 hD
    clear F' N' N0
    simp only [List.cons_append] at N2
    have hDL : D ≠ L := fun e => hD (L, oL) (List.mem_append_right _ (.head _)) e.symm
    k_steps
    (try dsimp only)
    exact LeaveT.of (new := []) (r0 := (D, W.listOf (readyV ns).toArray e) :: (x, instObj 137 dx) :: (dx, sortD w t1 t2 t3 t4 d (.ref D) np nf) :: (d, od) :: (ledN ns ++ rest)) F2 N2 (fun p hp => hp) SU (fun p hp => by
        rcases List.mem_cons.mp hp with rfl | hp
        · exact hDL
        rcases List.mem_cons.mp hp with rfl | hp
        · exact hL0 _ (.head _)
        rcases List.mem_cons.mp hp with rfl | hp
        · exact hL0 (dx, sortD w t1 t2 t3 t4 d .none np nf) (.tail _ (.head _))
        · exact hL0 _ (.tail _ (.tail _ hp))) (fun frs3 su fs F N => by
          show Q (.bool false) _
          rw [show false = (firstHeld ns).isSome by rw [hnone]; rfl]
          exact ret D _ _ frs3 _ su fs F N (fun p hp => hD p (by
            rcases List.mem_append.mp hp with hp | hp
            · exact List.mem_append_left _ hp
            · exact List.mem_append_right _ (.tail _ hp))))
  · intro k D ex h2 tk2 frs2 e hsome SU R hD
    have hDL : D ≠ L := fun e => hD (L, oL) (List.mem_append_right _ (.head _)) e.symm
    clear F' N' N0
    k_steps
    k_dflt (refine caughtRT R rfl X T ?e1 ?e2 rfl rfl ?e3 ?e4 ?_)
    case e1 => k_is
    case e2 => first | exact rfl | k_is | kernel_rfl
    case e3 => decide
    case e4 => passes_own
    intro h3 frs3 SU3 Fs3 F3 N3
    clear R
    simp only [List.cons_append] at N3
    k_steps
    (try dsimp only)
    exact LeaveT.of (new := []) (r0 := (D, W.listOf (readyV ns).toArray _) :: (x, instObj 137 dx) :: (dx, sortD w t1 t2 t3 t4 d (.ref D) np nf) :: (d, od) :: (ledN ns ++ rest)) F3 N3 (fun p hp => hp) (TI.SameUp.trans SU SU3) (fun p hp => by
        rcases List.mem_cons.mp hp with rfl | hp
        · exact hDL
        rcases List.mem_cons.mp hp with rfl | hp
        · exact hL0 _ (.head _)
        rcases List.mem_cons.mp hp with rfl | hp
        · exact hL0 (dx, sortD w t1 t2 t3 t4 d .none np nf) (.tail _ (.head _))
        · exact hL0 _ (.tail _ (.tail _ hp))) (fun frs3 su fs F N => by
          show Q (.bool true) _
          rw [show true = (firstHeld ns).isSome by rw [hsome]; rfl]
          exact ret D _ _ frs3 _ su fs F N (fun p hp => hD p (by
            rcases List.mem_append.mp hp with hp | hp
            · exact List.mem_append_left _ hp
            · exact List.mem_append_right _ (.tail _ hp))))
end
section
theorem kw15 : True := by
  w_top off
  k_with_none
  k_with "z getMethod ref" =>
    ((k_here; (with_reducible show wpAny _ _ (getMethod (Value.ref _) (Str.ofString "get") _) _ _ _); k_dflt (refine kdg_method (knd := PySem.strKind _ _) (by k_asm) (by k_mem) (by k_asm) ?_)))
  k_with "z call builtin:dict.get" =>
    ((k_here; k_dflt (refine kdg_get1 (knd := PySem.strKind _ _) (by k_asm) (by k_mem) (by k_asm) (by k_asm) (strKind_is _ _ _ _) _ (by k_asm) ?_); (try dsimp only [Option.getD])))
  k_with "z setItem ref str" =>
    ((k_here; k_dflt (refine' kda_set (knd := PySem.strKind _ _) (by k_asm) (by k_asm) (by k_updF) (by k_asm) (strKind_is _ _ _ _) (by (simp only [List.length_append, List.length_cons, List.length_nil, sizeLine_eq]; omega)) ?_); intro zh' zo' zF' zN' zhd'; (try dsimp only at zN'); (try first | rw [stored_nil] at zhd' | rw [stored_one (by assumption)] at zhd' | rw [stored_new _ _ _ (by assumption)] at zhd')))
  k_with "z exec For Name Name cons nil" =>
    ((k_here; (rename Fr _ _ _ _ => zlF'); (with_unfolding_all refine' For_turns zlF' ?_; k_whole)))
  k_with "z exec For Name Attribute cons nil" =>
    ((k_here; (rename Fr _ _ _ _ => zlF'); (with_unfolding_all refine' For_turns zlF' ?_; k_whole)))
  k_with "z exec For Name Call cons nil" =>
    ((k_here; (rename Fr _ _ _ _ => zlF'); (with_unfolding_all refine' For_turns zlF' ?_; k_whole)))
  k_with "z exec For Tuple Name cons nil" =>
    ((k_here; (rename Fr _ _ _ _ => zlF'); (with_unfolding_all refine' For_turns zlF' ?_; k_whole)))
  k_with "z exec For Name BinOp cons nil" =>
    ((k_here; (rename Fr _ _ _ _ => zlF'); (with_unfolding_all refine' For_turns zlF' ?_; k_whole)))
  k_with "z pyIter ref" =>
    ((k_here; (with_reducible show wpAny _ _ (pyIter (Value.ref _)) (fun it s₂ => TurnsAt _ _ _ _ _ _ _ _ _ it s₂) _ _); (rename Fr _ _ _ _ => zlF'); (rename News _ _ _ _ => zlN'); (with_unfolding_all refine iter_tup1 (by rfl) zlF' zlN' (by k_mem) (by rfl) (by rfl) ?_); clear zlF' zlN'; intro zi' zo' zh' ztk' zl1 zF' zN'; (try k_lt zl1)))
  k_with "z OneP" =>
    ((dsimp only [OneP]))
  k_with "z One" =>
    ((k_here; (k_dflt (refine' One.intro (by k_asm) (by k_asm) (by k_upd) (by k_mem) ?_; k_whole)); intro zh' ztk' zF' zN'))
  k_with "z subscriptTail" =>
    ((k_here; (with_reducible show wpAny _ _ (subscriptTail _ _ (Value.ref _) (Value.str _ _)) _ _ _); k_dflt (refine kda_item (knd := PySem.strKind _ _) (by k_asm) (by k_mem) (by k_asm) (strKind_is _ _ _ _) (by first | k_asm | exact vOne_get) ?_)))
  k_with "z call builtin:iter" =>
    ((k_here; (with_reducible show wpAny _ _ (call (Value.builtin "iter") [Value.ref _]) _ _ _); k_dflt (refine' iter_list_call (by k_asm) (by k_asm) (by k_mem) (by exact rfl) (by exact rfl) ?_; k_whole); intro zi' zh' zF' zN' zl1; (try k_lt zl1); (try k_sweep)))
  k_with "z getAttr ref" =>
    ((k_here; (with_reducible show wpAny _ _ (getAttr (Value.ref _) (Str.ofString "__next__") true) _ _ _); k_dflt (refine' next_attr (by k_asm) (by k_asm) (by k_mem) ?_; k_whole); intro zi' zh' zF' zN' zl1; (try k_lt zl1); (try k_sweep)))
  k_with "z callWith ref" =>
    ((k_here; (with_reducible show wpAny _ _ (callWith _ (Value.ref _) [] (backTo _ (starEach [] _)) []) _ _ _); k_dflt (refine' callWith_wrap (News.get (by k_asm) (by k_mem)) ?_; k_whole)))
  k_with "z call ref" =>
    ((k_here; (with_reducible show wpAny _ _ (call (Value.ref _) []) _ _ _); k_dflt (first
  | (refine' wrap_item (by k_asm) (by k_asm) (by k_mem) (by k_upd) (by k_mem) (by exact rfl) (by assumption) ?_; k_whole; intro zh' zF' zN'; (try k_sweep))
  | (refine' wrap_end (by exact rfl) (by k_asm) (by k_asm) (by k_mem) (by k_updF) (by k_mem) (by exact rfl) (by assumption) ?_; k_whole; intro zh₁' zh' ze' zo' zF' zN' ztiX'; (try dsimp only at zN')))))
  k_with "z noteFrame ref" =>
    ((k_here; (with_reducible rename Heap.NewExc _ _ _ _ => ztiX'); k_dflt (refine' caughtT (by exact rfl) (by assumption) ztiX' (by k_asm) (by k_asm) (by assumption) (by k_upd) (by assumption) (by assumption) (by decide +kernel) (by decide +kernel) (by decide +kernel) (by decide +kernel) (by decide +kernel) (by exact rfl) (by exact rfl) (by passes_own) ?_; k_whole); clear ztiX'; intro zh' zfrs' zsu' zfr' zhR' zh0' zF' zN'; (try dsimp only at zN')))
  k_with "z compareOp In str ref" =>
    ((k_here; k_dflt (first
  | (refine' set_in_b (by k_asm) (by k_updF) (by k_asm) (by first | assumption | exact Nat.lt_of_succ_lt (by assumption) | kse_small) _ (by assumption) ?_)
  | (refine' kda_in (knd := PySem.strKind _ _) (by k_asm) (by k_mem) (by k_asm) (by k_asm) (strKind_is _ _ _ _) _ (by first | assumption | exact vOne_self | exact vOne_ne (by assumption) | rfl) ?_))))
  k_with "z delItem ref str" =>
    ((k_here; k_dflt (refine' kob_del (knd := PySem.strKind _ _) (by k_asm) (by k_asm) (by k_updF) (by k_asm) (strKind_is _ _ _ _) (by first | exact vOne_self | exact vTwo_self | assumption) (by (rw [sizeLine_eq]; exact Nat.le_of_ble_eq_true rfl)) ?_); intro zh' zo' zF' zN' zhd'; (try dsimp only at zN'); (first | rw [wOne] at zhd' | rw [wTwo (by assumption)] at zhd')))
  k_with "z WhlRest" =>
    (((with_reducible show WhlRest _ _ _ _ _ (PySem.Expr.Constant _ _ _) _ _ _ _ _); refine parked ?_))
  k_with "z truthy ref" =>
    ((k_here; (with_reducible show wpAny _ _ (truthy (Value.ref _)) _ _ _); k_dflt (first
  | (refine' truthyPush (by k_asm) (by k_mem) (by first | exact Nat.zero_le _ | size_fits) ?_)
  | (refine' truthyNil (by k_asm) (by k_mem) ?_)
  | (refine' truthyCons (by k_asm) (by k_mem) (by size_fits) ?_))))
  k_with "z call type:bool" =>
    ((k_here; (with_reducible show wpAny _ _ (call _ [Value.ref _]) _ _ _); k_dflt (refine' boolList (by k_asm) (by k_mem) (by (simp only [List.size_toArray]; assumption)) ?_)))
  k_with "z call type:tuple" =>
    ((k_here; (with_reducible show wpAny _ _ (call (Value.type _) [Value.ref _]) _ _ _); k_dflt (refine' kde_tupleOf (by k_asm) (by k_asm) (by exact News.isList (by k_asm) (by k_mem)) (by first | omega | (simp only [List.size_toArray]; omega)) rfl ?_); intro zD' zh' zF' zN' zl1; (try k_lt zl1)))
  k_with "z call builtin:len" =>
    ((k_here; (with_reducible show wpAny _ _ (call (Value.builtin "len") [Value.ref _]) _ _ _); k_dflt (refine' kun_lenT (by exact News.isTup (by k_asm) (by k_mem)) rfl (by (simp only [List.size_toArray]; omega)) ?_)))
  k_with "z execs cons" =>
    (((try (k_here; k_made)); (try (with_reducible refine tok_cut1 ?_; intro tk; (try dsimp only))); (try k_fold); (with_reducible refine wpAny_execs_cons ?_); (try dsimp only); (try k_fold)))
  k_with "k_conj" =>
    (first | exact c0 (by assumption) | exact c1 (by assumption) | exact c2 (by assumption) | exact c3 (by assumption) | exact c4 (by assumption) | exact c5 (by assumption) | exact c6 (by assumption) | exact c7 (by assumption) | exact c8 (by assumption) | exact c9 (by assumption) | exact c10 (by assumption) | exact c11 (by assumption))
  k_with "z eval Call Attribute" =>
    ((k_here; (with_reducible show wpAny _ _ (eval (Expr.Call (Expr.Attribute _ _ _) [Expr.Starred _ _] [] _) _) _ _ _); with_unfolding_all refine methodCall_star ?_))
  k_with "z callWith ref" =>
    ((k_here; (with_reducible show wpAny _ _ (callWith _ (Value.ref _) [] (backTo _ (starEach [Expr.Starred _ _] _)) []) _ _ _); k_dflt (refine' callStar_M (by k_asm) (by k_asm) (by k_mem) (by k_is) ?_; k_whole)))
  k_with "z StarOf ref" =>
    ((k_here; k_dflt (refine' star_seq (by k_asm) (by k_asm) (by k_mem) (by exact rfl) (by exact rfl) (by first | exact .inl rfl | exact .inr rfl) (by exact rfl) (by (simp only [List.size_toArray, sizeLine_eq]; omega)) ?_; k_whole); intro zh' zF' zN'; (try k_sweep); try dsimp only [List.nil_append, List.cons_append]))
  k_with "z call ref" =>
    ((k_here; (with_reducible show wpAny _ _ (call (Value.ref 106) _) _ _ _); refine parked ?_))
  k_with "z call ref" =>
    ((k_here; (with_reducible show wpAny _ _ (call (Value.ref 99) _) _ _ _); refine parked ?_))
  k_with "z call ref" =>
    ((k_here; (with_reducible show wpAny _ _ (call (Value.ref 120) _) _ _ _); refine parked ?_))
  k_with "z WhlRest" =>
    ((refine parked ?_))
  trivial
/-- the rounds of a run -/
inductive Run (ns : List Nd) (su : Str → List Value) : (Str → Int) → List Value → List (List Value) → (Str → Int) → Prop
  | stop (f) : Run ns su f [] [] f
  | turn (f rd rds f') : rd ≠ [] → rd.length ≤ 20 → (∀ v ∈ rd, ∃ nd ∈ ns, ∃ t, v = .str nd.key t) → (∀ i v, rd[i]? = some v → (doneAll su (outF (rd.map strOf) f, []) (rd.take i)).1 (strOf v) = -1) →
      Run ns su (doneAll su (outF (rd.map strOf) f, []) rd).1 (doneAll su (outF (rd.map strOf) f, []) rd).2 rds f' → Run ns su f rd (rd :: rds) f'
noncomputable def tupOf (p : Addr × List Value) : Addr × Obj := (p.1, ⟨.type "tuple", none, .seq p.2.toArray 0, #[]⟩)
/-- what holds between the rounds -/
inductive RunA (w : World) (x dx d rl RL : Addr) (t1 t2 t3 t4 : Tok) (od : Obj) (ns : List Nd) (su : Str → List Value) (f' : Str → Int) (rds : List (List Value)) (rest : List (Addr × Obj)) (s : Shared) (g' : Heap) (L' : Addr) (m0 : Str → Option Value) (q : List (List Value)) : Shared → Prop
  | mk (h : Heap) (tk : Nat) (f1 : Str → Int) (rd1 : List Value) (rs : List (Addr × List Value)) (ns1 : List Nd) (e1 e2 : Nat) (n : Int) (tp1 tf1 : Tok) (m1 : Str → Option Value) (em : ∀ y, y ≠ Str.ofString "some" → m1 y = m0 y) (F : Fr g' L' h m1)
    (N : News g' L' h ((RL, W.listOf (rs.map fun p => Value.ref p.1).toArray e1) :: (x, instObj 137 dx) :: (dx, sortD w t1 t2 t3 t4 d (.ref rl) (.int n tp1) (.int n tf1)) :: (d, od) :: (rl, W.listOf rd1.toArray e2) :: (ledN ns1 ++ ((rs.map tupOf).reverse ++ rest))))
    (hS : Sep ((RL, W.listOf (rs.map fun p => Value.ref p.1).toArray e1) :: (x, instObj 137 dx) :: (dx, sortD w t1 t2 t3 t4 d (.ref rl) (.int n tp1) (.int n tf1)) :: (d, od) :: (rl, W.listOf rd1.toArray e2) :: (ledN ns1 ++ ((rs.map tupOf).reverse ++ rest))))
    (sm : Same ns1 ns) (hat : At f1 ns1) (hr : Run ns su f1 rd1 q f') (hrs : rs.map Prod.snd ++ q = rds) (hn0 : 0 ≤ n) (hn1 : n ≤ 20 * rs.length) : RunA w x dx d rl RL t1 t2 t3 t4 od ns su f' rds rest s g' L' m0 q { s with heap := h, toks := tk }
theorem law_run {w : World} {mean : ExcName → Option Value} {mg mb : Str → Option Value} {dp un : Nat} {gd : Option (List Code)} {cn : Str} {cs : Scope} {a : Addr} {ccd : Value} {cl : List (Str × Addr)} {outer : List Env} {A₀ : Around} {base h₀ : Heap} {L : Addr} {m : Str → Option Value}
    {rest : List (Addr × Obj)} {s : Shared} {Q E : Value → Shared → Prop} (cx : Cx w mean mg mb (dp + 10) (un + 100) cs outer A₀ base h₀) (F : Fr h₀ L s.heap m)
    {x dx d rl : Addr} {t1 t2 t3 t4 tp tf : Tok} {rd : List Value} {e : Nat} {od : Obj} {ns : List Nd} {f f' : Str → Int} {su : Str → List Value} {rds : List (List Value)}
    (N : News h₀ L s.heap ((x, instObj 137 dx) :: (dx, sortD w t1 t2 t3 t4 d (.ref rl) (.int 0 tp) (.int 0 tf)) :: (d, od) :: (rl, W.listOf rd.toArray e) :: (ledN ns ++ rest)))
    (hod : od.IsDictOf (strKind Challenge.rw_mq0328_01.row.prog w) (kvsN ns)) (lo : (d == sysModules) = false) (hnd : (ns.map (·.key)).Nodup) (hf : At f ns)
    (hsu : ∀ nd ∈ ns, su nd.key = nd.su) (hsu2 : ∀ nd ∈ ns, ∀ v ∈ nd.su, ∃ nd' ∈ ns, ∃ t, v = .str nd'.key t) (hsu3 : ∀ k, (su k).length ≤ 40)
    (hs : Sep ((x, instObj 137 dx) :: (dx, sortD w t1 t2 t3 t4 d (.ref rl) (.int 0 tp) (.int 0 tf)) :: (d, od) :: (rl, W.listOf rd.toArray e) :: (ledN ns ++ rest))) (hrun : Run ns su f rd rds f') (hrl : rds.length ≤ 10)
    (ret : ∀ RL (rs : List (Addr × List Value)) e1 e2 ns' n tp' tf' h' tk', rs.map Prod.snd = rds → Same ns' ns → At f' ns' → 0 ≤ n → n ≤ 1000 → Fr h₀ L h' m →
      News h₀ L h' ((RL, W.listOf (rs.map fun p => Value.ref p.1).toArray e1) :: (x, instObj 137 dx) :: (dx, sortD w t1 t2 t3 t4 d (.ref rl) (.int n tp') (.int n tf')) :: (d, od) :: (rl, W.listOf #[] e2) :: (ledN ns' ++ ((rs.map tupOf).reverse ++ rest))) →
      Sep ((RL, W.listOf (rs.map fun p => Value.ref p.1).toArray e1) :: (x, instObj 137 dx) :: (dx, sortD w t1 t2 t3 t4 d (.ref rl) (.int n tp') (.int n tf')) :: (d, od) :: (rl, W.listOf #[] e2) :: (ledN ns' ++ ((rs.map tupOf).reverse ++ rest))) → Q (.ref RL) { s with heap := h', toks := tk' }) :
    wpAny (model Challenge.rw_mq0328_01.row.prog w) (ktrTop dp un gd cn cs L a ccd cl outer) (call (.ref 162) [.ref x]) Q E s := by
  obtain ⟨B, X, T, hk, hdp, hu⟩ := cx
  refine wpAny_call ?_
  k_dflt (refine' code_def ?k1 ?k2 ?k3 ?k4 ?k5 ?kA ?kF ?kK ?k6 ?k7 ?k8 ?k9 ?kB ?_ ?c2 ?c3 ?c4 ?c5; (case kA => exact rfl); (case kF => exact rfl); (case kK => assumption); (case k1 => k_asm); (case k2 => k_asm); (case k3 => k_asm); (case k4 => k_asm); (case k5 => k_asm); (case k6 => k_is); (case k7 => k_is); (case k8 => ktr_room); (case k9 => exact BindsTo.of_eq rfl); (case c5 => decide); (case kB => exact locs rfl); (case c2 => exact rfl); (case c3 => exact rfl); (case c4 => exact rfl); k_whole)
  intro g' L' h' FG' F' N' B' X' T'
  (try dsimp only); (try k_fold)
  k_steps
  unfold Parked
  (rename Fr _ _ _ _ => lF'); (rename News _ _ _ _ => lN')
  obtain ⟨RL, rfl⟩ := nm1 lN'
  refine frMK lF' fun m0 em F0 => ?_
  have cx' : ∀ cs' : Scope, cs'.kind = .function → Cx w mean mg mb (dp + 1) (un + 3) cs' (envX cn cs L a ccd cl :: outer) (ktrTop dp un gd cn cs L a ccd cl outer) base g' := fun cs' hk' => ⟨B', X', T', hk', by omega, by omega⟩
  refine byInd (P := WhlRest _ _ _ _ _ _ _ _ _ _) (fun q s' => RunA w x dx d rl RL t1 t2 t3 t4 od ns su f' rds rest s g' L' m0 q s') (fun q => q.length) ?step rds _ ?start
  case start =>
    exact .mk _ _ f rd [] ns _ e 0 tp tf _ (fun _ _ => rfl) F0 lN' (hs.new (lt4 (by assumption) (by assumption))) (Same.refl _) hf hrun rfl (Int.le_refl 0) (by simp)
  case step =>
    clear lF' lN' F0
    intro q s' hB IH
    cases hB with | mk h1 tk f1 rd1 rs ns1 e1 e2 n tp1 tf1 m1 e1' F1 N1 hS sm hat hr hrs hn0 hn1 =>
    replace F1 := frTo F1 (off1 e1')
    rw [em] at F1
    have hrs10 : rs.length + q.length ≤ 10 := by
      have := congrArg List.length hrs
      rw [List.length_append, List.length_map] at this
      omega
    have hrd1 : rd1.length ≤ 1000 := by
      cases hr with
      | stop => simp
      | turn _ _ _ _ _ h20 => omega
    have hS0 := Sep.cons_iff.mp hS
    refine whl_turn (k := 0) (by passes_own) ?_
    k_steps
    unfold Parked
    have N1a : News g' L' h1 ((x, instObj 137 dx) :: (dx, sortD w t1 t2 t3 t4 d (.ref rl) (.int n tp1) (.int n tf1)) :: (rl, W.listOf rd1.toArray e2) :: (RL, W.listOf (rs.map fun p => Value.ref p.1).toArray e1) :: (d, od) :: (ledN ns1 ++ ((rs.map tupOf).reverse ++ rest))) := News.sub N1 (subC (.tail _ (.head _)) (subC (.tail _ (.tail _ (.head _))) (subC (.tail _ (.tail _ (.tail _ (.tail _ (.head _))))) (subC (.head _) (subC (.tail _ (.tail _ (.tail _ (.head _)))) (fun _ hp => .tail _ (.tail _ (.tail _ (.tail _ (.tail _ hp))))))))))
    k_dflt (refine is_active (vs := rd1) (cx' _ rfl) F1 N1a hn0 (by omega) hrd1 ?_)
    intro h2 tk2 F2 N2
    clear F1 N1 N1a
    have hod1 : od.IsDictOf (strKind Challenge.rw_mq0328_01.row.prog w) (kvsN ns1) := by rw [sm.kvs]; exact hod
    have hnd1 : (ns1.map (·.key)).Nodup := by rw [sm.keys]; exact hnd
    have up1 : ∀ v : Value, (∃ nd ∈ ns, ∃ t, v = .str nd.key t) → ∃ nd ∈ ns1, ∃ t, v = .str nd.key t := fun v ⟨nd, hm, t, e⟩ => by
      obtain ⟨nd1, hm1, ef⟩ := sm.mem hm
      exact ⟨nd1, hm1, t, by rw [e, fix_key ef]⟩
    cases hr with
    | stop =>
      k_steps
      rename News _ _ _ _ => N9
      refine ret RL rs e1 e2 ns1 n tp1 tf1 _ _ (by rw [← hrs, List.append_nil]) sm hat hn0 (by omega) (by k_asm) (News.sub N9 (subC (.tail _ (.tail _ (.tail _ (.head _)))) (subC (.head _) (subC (.tail _ (.head _)) (subC (.tail _ (.tail _ (.tail _ (.tail _ (.head _))))) (subC (.tail _ (.tail _ (.head _))) (fun _ hp => .tail _ (.tail _ (.tail _ (.tail _ (.tail _ hp))))))))))) hS
    | turn _ _ rds1 _ hne h20 hvs hout hr1 =>
      have hemp : rd1.isEmpty = false := by
        cases rd1 with
        | nil => exact absurd rfl hne
        | cons _ _ => rfl
      rw [hemp]
      have hSa : Sep ((x, instObj 137 dx) :: (dx, sortD w t1 t2 t3 t4 d (.ref rl) (.int n tp1) (.int n tf1)) :: (d, od) :: (rl, W.listOf rd1.toArray e2) :: (ledN ns1 ++ ((RL, W.listOf (rs.map fun p => Value.ref p.1).toArray e1) :: ((rs.map tupOf).reverse ++ rest)))) :=
        Sep.insert (l1 := (x, instObj 137 dx) :: (dx, sortD w t1 t2 t3 t4 d (.ref rl) (.int n tp1) (.int n tf1)) :: (d, od) :: (rl, W.listOf rd1.toArray e2) :: ledN ns1) (l2 := (rs.map tupOf).reverse ++ rest) hS0.2 hS0.1
      have N2a : News g' L' h2 ((x, instObj 137 dx) :: (dx, sortD w t1 t2 t3 t4 d (.ref rl) (.int n tp1) (.int n tf1)) :: (d, od) :: (rl, W.listOf rd1.toArray e2) :: (ledN ns1 ++ ((RL, W.listOf (rs.map fun p => Value.ref p.1).toArray e1) :: ((rs.map tupOf).reverse ++ rest)))) := News.sub N2 (subC (.head _) (subC (.tail _ (.head _)) (subC (.tail _ (.tail _ (.tail _ (.tail _ (.head _))))) (subC (.tail _ (.tail _ (.head _))) (subA (fun _ hp => .tail _ (.tail _ (.tail _ (.tail _ (.tail _ (List.mem_append_left _ hp)))))) (subC (.tail _ (.tail _ (.tail _ (.head _)))) (fun _ hp => .tail _ (.tail _ (.tail _ (.tail _ (.tail _ (List.mem_append_right _ hp))))))))))))
      clear N2
      k_steps
      unfold Parked
      k_dflt (refine get_ready (f := f1) (vs := rd1) (cx' _ rfl) F2 N2a hrd1 hod1 lo (fun v hv => up1 v (hvs v hv)) hnd1 hat hSa ?_)
      intro D ns2 e3 tp2 h3 tk3 sm2 hat2 hD F3 N3
      clear F2 N2a
      have hSb : Sep ((x, instObj 137 dx) :: (dx, sortD w t1 t2 t3 t4 d (.ref rl) (.int (n + rd1.length) tp2) (.int n tf1)) :: (d, od) :: (rl, W.listOf #[] e3) :: (ledN ns2 ++ ((RL, W.listOf (rs.map fun p => Value.ref p.1).toArray e1) :: ((rs.map tupOf).reverse ++ rest)))) :=
        hSa.of_eq (by simp only [List.map_cons, sm2.adrR])
      have hD2 : ∀ p ∈ (x, instObj 137 dx) :: (dx, sortD w t1 t2 t3 t4 d (.ref rl) (.int (n + rd1.length) tp2) (.int n tf1)) :: (d, od) :: (rl, W.listOf #[] e3) :: (ledN ns2 ++ ((RL, W.listOf (rs.map fun p => Value.ref p.1).toArray e1) :: ((rs.map tupOf).reverse ++ rest))), p.1 < D :=
        below_of hD (by simp only [List.map_cons, sm2.adrR])
      have r1 : ∀ p ∈ (x, instObj 137 dx) :: (dx, sortD w t1 t2 t3 t4 d (.ref rl) (.int (n + rd1.length) tp2) (.int n tf1)) :: (d, od) :: (rl, W.listOf #[] e3) :: (ledN ns2 ++ ((rs.map tupOf).reverse ++ rest)), p.1 ≠ RL := ne_of' hS0.1 (by simp only [List.map_cons, sm2.adrR])
      have r2 : D ≠ RL := Ne.symm (Nat.ne_of_lt (hD2 _ (.tail _ (.tail _ (.tail _ (.tail _ (List.mem_append_right _ (.head _))))))))
      have N3a : News g' L' h3 ((RL, W.listOf (rs.map fun p => Value.ref p.1).toArray e1) :: (D, ⟨.type "tuple", none, .seq rd1.toArray 0, #[]⟩) :: (x, instObj 137 dx) :: (dx, sortD w t1 t2 t3 t4 d (.ref rl) (.int (n + rd1.length) tp2) (.int n tf1)) :: (d, od) :: (rl, W.listOf #[] e3) :: (ledN ns2 ++ ((rs.map tupOf).reverse ++ rest))) := News.sub N3 (subC (.tail _ (.tail _ (.tail _ (.tail _ (.tail _ (List.mem_append_right _ (.head _))))))) (subC (.head _) (subC (.tail _ (.head _)) (subC (.tail _ (.tail _ (.head _))) (subC (.tail _ (.tail _ (.tail _ (.head _)))) (subC (.tail _ (.tail _ (.tail _ (.tail _ (.head _))))) (subA (fun _ hp => .tail _ (.tail _ (.tail _ (.tail _ (.tail _ (List.mem_append_left _ hp)))))) (fun _ hp => .tail _ (.tail _ (.tail _ (.tail _ (.tail _ (List.mem_append_right _ (.tail _ hp))))))))))))))
      clear N3
      have r3 : x ≠ RL := r1 _ (.head _)
      have r4 : dx ≠ RL := r1 _ (.tail _ (.head _))
      have r5 : d ≠ RL := r1 _ (.tail _ (.tail _ (.head _)))
      have r6 : rl ≠ RL := r1 _ (.tail _ (.tail _ (.tail _ (.head _))))
      have r7 : ∀ p ∈ ledN ns2 ++ ((rs.map tupOf).reverse ++ rest), p.1 ≠ RL := fun p hp => r1 p (.tail _ (.tail _ (.tail _ (.tail _ hp))))
      k_steps
      (rename Fr _ _ _ _ => F5); (rename News _ _ _ _ => N5)
      refine call_meth N5 (.head _) ?_
      have sm3 : Same ns2 ns := sm2.trans sm
      have hSc : Sep ((x, instObj 137 dx) :: (dx, sortD w t1 t2 t3 t4 d (.ref rl) (.int (n + rd1.length) tp2) (.int n tf1)) :: (d, od) :: (rl, W.listOf ([] : List Value).toArray e3) :: (ledN ns2 ++ ((D, ⟨.type "tuple", none, .seq rd1.toArray 0, #[]⟩) :: (RL, W.listOf ((rs.map fun p => Value.ref p.1).toArray.push (.ref D)) (e1 + 1)) :: ((rs.map tupOf).reverse ++ rest)))) :=
        Sep.insert (l1 := (x, instObj 137 dx) :: (dx, sortD w t1 t2 t3 t4 d (.ref rl) (.int (n + rd1.length) tp2) (.int n tf1)) :: (d, od) :: (rl, W.listOf ([] : List Value).toArray e3) :: ledN ns2) (l2 := (RL, W.listOf ((rs.map fun p => Value.ref p.1).toArray.push (.ref D)) (e1 + 1)) :: ((rs.map tupOf).reverse ++ rest))
          (hSb.of_eq (by simp)) (fun p hp => Nat.ne_of_lt (below_of hD2 (by simp) p hp))
      have N5a := News.sub (l' := (x, instObj 137 dx) :: (dx, sortD w t1 t2 t3 t4 d (.ref rl) (.int (n + rd1.length) tp2) (.int n tf1)) :: (d, od) :: (rl, W.listOf ([] : List Value).toArray e3) :: (ledN ns2 ++ ((D, ⟨.type "tuple", none, .seq rd1.toArray 0, #[]⟩) :: (RL, W.listOf ((rs.map fun p => Value.ref p.1).toArray.push (.ref D)) (e1 + 1)) :: ((rs.map tupOf).reverse ++ rest)))) N5 (subC (.tail _ (.tail _ (.tail _ (.head _)))) (subC (.tail _ (.tail _ (.tail _ (.tail _ (.head _))))) (subC (.tail _ (.tail _ (.tail _ (.tail _ (.tail _ (.head _)))))) (subC (.tail _ (.tail _ (.tail _ (.tail _ (.tail _ (.tail _ (.head _))))))) (subA (fun _ hp => .tail _ (.tail _ (.tail _ (.tail _ (.tail _ (.tail _ (.tail _ (List.mem_append_left _ hp)))))))) (subC (.tail _ (.tail _ (.head _))) (subC (.tail _ (.head _)) (fun _ hp => .tail _ (.tail _ (.tail _ (.tail _ (.tail _ (.tail _ (.tail _ (List.mem_append_right _ hp)))))))))))))))
      clear N5
      have hod2 : od.IsDictOf (strKind Challenge.rw_mq0328_01.row.prog w) (kvsN ns2) := by rw [sm3.kvs]; exact hod
      have hnd2 : (ns2.map (·.key)).Nodup := by rw [sm3.keys]; exact hnd
      have up2 : ∀ v : Value, (∃ nd ∈ ns, ∃ t, v = .str nd.key t) → ∃ nd ∈ ns2, ∃ t, v = .str nd.key t := fun v ⟨nd, hm, t, e⟩ => by
        obtain ⟨nd1, hm1, ef⟩ := sm3.mem hm
        exact ⟨nd1, hm1, t, by rw [e, fix_key ef]⟩
      have dn2 : ∀ nd ∈ ns2, ∃ nd0 ∈ ns, nd0.fix = nd.fix := fun nd hm => sm3.symm.mem hm
      k_dflt (refine done_ (su := su) (f := outF (rd1.map strOf) f1) (rd := []) (cx' _ rfl) F5 N5a h20 (by simp) hod2 lo (fun v hv => up2 v (hvs v hv)) hnd2 hat2 ?_ ?_ hsu3 hout hSc ?_)
      · intro nd hm
        obtain ⟨nd0, hm0, ef⟩ := dn2 nd hm
        rw [← fix_key ef, hsu nd0 hm0, fix_su ef]
      · intro nd hm v hv
        obtain ⟨nd0, hm0, ef⟩ := dn2 nd hm
        exact up2 v (hsu2 nd0 hm0 v (by rw [fix_su ef]; exact hv))
      intro ns3 e4 tf2 h6 tk6 sm4 hat4 F6 N6
      clear F5 N5a
      have sm5 : Same ns3 ns1 := sm4.trans sm2
      have hx0 : ∀ q ∈ (x, instObj 137 dx) :: (dx, sortD w t1 t2 t3 t4 d (.ref rl) (.int (n + rd1.length) tp2) (.int n tf1)) :: (d, od) :: (rl, W.listOf #[] e3) :: (ledN ns2 ++ ((rs.map tupOf).reverse ++ rest)), q.1 < D := fun q hq => hD2 q (subC (.head _) (subC (.tail _ (.head _)) (subC (.tail _ (.tail _ (.head _))) (subC (.tail _ (.tail _ (.tail _ (.head _)))) (subA (fun _ hq => .tail _ (.tail _ (.tail _ (.tail _ (List.mem_append_left _ hq))))) (fun _ hq => .tail _ (.tail _ (.tail _ (.tail _ (List.mem_append_right _ (.tail _ hq))))))))) ) q hq)
      have hx1 : ∀ p ∈ (x, instObj 137 dx) :: (dx, sortD w t1 t2 t3 t4 d (.ref rl) (.int (n + rd1.length) tp2) (.int (n + rd1.length) tf2)) :: (d, od) :: (rl, W.listOf (doneAll su (outF (rd1.map strOf) f1, []) rd1).2.toArray e4) :: (ledN ns3 ++ ((rs.map tupOf).reverse ++ rest)), p.1 ≠ D :=
        off_of hx0 (congrArg (fun r => x :: dx :: d :: rl :: r) (sm4.adrR _))
      have hSd : Sep ((RL, W.listOf ((rs ++ [(D, rd1)]).map fun p => Value.ref p.1).toArray (e1 + 1)) :: (x, instObj 137 dx) :: (dx, sortD w t1 t2 t3 t4 d (.ref rl) (.int (n + rd1.length) tp2) (.int (n + rd1.length) tf2)) :: (d, od) :: (rl, W.listOf (doneAll su (outF (rd1.map strOf) f1, []) rd1).2.toArray e4) :: (ledN ns3 ++ ((D, ⟨.type "tuple", none, .seq rd1.toArray 0, #[]⟩) :: ((rs.map tupOf).reverse ++ rest)))) :=
        Sep.insert (l1 := (RL, W.listOf ((rs ++ [(D, rd1)]).map fun p => Value.ref p.1).toArray (e1 + 1)) :: (x, instObj 137 dx) :: (dx, sortD w t1 t2 t3 t4 d (.ref rl) (.int (n + rd1.length) tp2) (.int (n + rd1.length) tf2)) :: (d, od) :: (rl, W.listOf (doneAll su (outF (rd1.map strOf) f1, []) rd1).2.toArray e4) :: ledN ns3) (l2 := (rs.map tupOf).reverse ++ rest)
          (hS.of_eq (by simp only [List.map_cons, List.cons_append, sm5.adrR])) (fun p hp => by
            rcases List.mem_cons.mp hp with rfl | hp
            · exact r2.symm
            · exact hx1 p hp)
      have N6a : News g' L' h6 ((RL, W.listOf ((rs ++ [(D, rd1)]).map fun p => Value.ref p.1).toArray (e1 + 1)) :: (x, instObj 137 dx) :: (dx, sortD w t1 t2 t3 t4 d (.ref rl) (.int (n + rd1.length) tp2) (.int (n + rd1.length) tf2)) :: (d, od) :: (rl, W.listOf (doneAll su (outF (rd1.map strOf) f1, []) rd1).2.toArray e4) :: (ledN ns3 ++ ((D, ⟨.type "tuple", none, .seq rd1.toArray 0, #[]⟩) :: ((rs.map tupOf).reverse ++ rest)))) := News.sub N6 (subC ((by refine .tail _ (.tail _ (.tail _ (.tail _ (List.mem_append_right _ (.tail _ ?_))))); rw [List.map_append, List.push_toArray]; exact .head _)) (subC (.head _) (subC (.tail _ (.head _)) (subC (.tail _ (.tail _ (.head _))) (subC (.tail _ (.tail _ (.tail _ (.head _)))) (subA (fun _ hp => .tail _ (.tail _ (.tail _ (.tail _ (List.mem_append_left _ hp))))) (subC (.tail _ (.tail _ (.tail _ (.tail _ (List.mem_append_right _ (.head _)))))) (fun _ hp => .tail _ (.tail _ (.tail _ (.tail _ (List.mem_append_right _ (.tail _ (.tail _ hp))))))))))))))
      clear N6
      have etup : ((rs ++ [(D, rd1)]).map tupOf).reverse ++ rest = (D, ⟨.type "tuple", none, .seq rd1.toArray 0, #[]⟩) :: ((rs.map tupOf).reverse ++ rest) := by
        rw [List.map_append, List.reverse_append]; rfl
      dsimp only
      k_steps
      unfold Parked
      refine IH rds1 _ (Nat.lt_succ_self _) (.mk h6 _ _ _ (rs ++ [(D, rd1)]) ns3 (e1 + 1) e4 (n + rd1.length) tp2 tf2 _ ?em F6 (by rw [etup]; exact N6a) (by rw [etup]; exact hSd) (sm5.trans sm) hat4 hr1 (by rw [List.map_append, List.append_assoc]; exact hrs) (by omega) (by rw [List.length_append]; simp only [List.length_singleton]; omega))
      case em =>
        intro y h1
        (repeat refine ifN (by assumption) ?_); exact (congrFun em y).symm
end
section
theorem kw16 : True := by
  w_top off
  k_with_none
  k_with "z getMethod ref" =>
    ((k_here; (with_reducible show wpAny _ _ (getMethod (Value.ref _) (Str.ofString "get") _) _ _ _); k_dflt (refine kdg_method (knd := PySem.strKind _ _) (by k_asm) (by k_mem) (by k_asm) ?_)))
  k_with "z call builtin:dict.get" =>
    ((k_here; k_dflt (refine kdg_get1 (knd := PySem.strKind _ _) (by k_asm) (by k_mem) (by k_asm) (by k_asm) (strKind_is _ _ _ _) _ (by k_asm) ?_); (try dsimp only [Option.getD])))
  k_with "z setItem ref str" =>
    ((k_here; k_dflt (refine' kda_set (knd := PySem.strKind _ _) (by k_asm) (by k_asm) (by k_updF) (by k_asm) (strKind_is _ _ _ _) (by (simp only [List.length_append, List.length_cons, List.length_nil, sizeLine_eq]; omega)) ?_); intro zh' zo' zF' zN' zhd'; (try dsimp only at zN'); (try first | rw [stored_nil] at zhd' | rw [stored_one (by assumption)] at zhd' | rw [stored_new _ _ _ (by assumption)] at zhd')))
  k_with "z exec For Name Name cons nil" =>
    ((k_here; (rename Fr _ _ _ _ => zlF'); (with_unfolding_all refine' For_turns zlF' ?_; k_whole)))
  k_with "z exec For Name Attribute cons nil" =>
    ((k_here; (rename Fr _ _ _ _ => zlF'); (with_unfolding_all refine' For_turns zlF' ?_; k_whole)))
  k_with "z exec For Name Call cons nil" =>
    ((k_here; (rename Fr _ _ _ _ => zlF'); (with_unfolding_all refine' For_turns zlF' ?_; k_whole)))
  k_with "z exec For Tuple Name cons nil" =>
    ((k_here; (rename Fr _ _ _ _ => zlF'); (with_unfolding_all refine' For_turns zlF' ?_; k_whole)))
  k_with "z exec For Name BinOp cons nil" =>
    ((k_here; (rename Fr _ _ _ _ => zlF'); (with_unfolding_all refine' For_turns zlF' ?_; k_whole)))
  k_with "z pyIter ref" =>
    ((k_here; (with_reducible show wpAny _ _ (pyIter (Value.ref _)) (fun it s₂ => TurnsAt _ _ _ _ _ _ _ _ _ it s₂) _ _); (rename Fr _ _ _ _ => zlF'); (rename News _ _ _ _ => zlN'); (with_unfolding_all refine iter_tup1 (by rfl) zlF' zlN' (by k_mem) (by rfl) (by rfl) ?_); clear zlF' zlN'; intro zi' zo' zh' ztk' zl1 zF' zN'; (try k_lt zl1)))
  k_with "z OneP" =>
    ((dsimp only [OneP]))
  k_with "z One" =>
    ((k_here; (k_dflt (refine' One.intro (by k_asm) (by k_asm) (by k_upd) (by k_mem) ?_; k_whole)); intro zh' ztk' zF' zN'))
  k_with "z subscriptTail" =>
    ((k_here; (with_reducible show wpAny _ _ (subscriptTail _ _ (Value.ref _) (Value.str _ _)) _ _ _); k_dflt (refine kda_item (knd := PySem.strKind _ _) (by k_asm) (by k_mem) (by k_asm) (strKind_is _ _ _ _) (by first | k_asm | exact vOne_get) ?_)))
  k_with "z call builtin:iter" =>
    ((k_here; (with_reducible show wpAny _ _ (call (Value.builtin "iter") [Value.ref _]) _ _ _); k_dflt (refine' iter_list_call (by k_asm) (by k_asm) (by k_mem) (by exact rfl) (by exact rfl) ?_; k_whole); intro zi' zh' zF' zN' zl1; (try k_lt zl1); (try k_sweep)))
  k_with "z getAttr ref" =>
    ((k_here; (with_reducible show wpAny _ _ (getAttr (Value.ref _) (Str.ofString "__next__") true) _ _ _); k_dflt (refine' next_attr (by k_asm) (by k_asm) (by k_mem) ?_; k_whole); intro zi' zh' zF' zN' zl1; (try k_lt zl1); (try k_sweep)))
  k_with "z callWith ref" =>
    ((k_here; (with_reducible show wpAny _ _ (callWith _ (Value.ref _) [] (backTo _ (starEach [] _)) []) _ _ _); k_dflt (refine' callWith_wrap (News.get (by k_asm) (by k_mem)) ?_; k_whole)))
  k_with "z call ref" =>
    ((k_here; (with_reducible show wpAny _ _ (call (Value.ref _) []) _ _ _); k_dflt (first
  | (refine' wrap_item (by k_asm) (by k_asm) (by k_mem) (by k_upd) (by k_mem) (by exact rfl) (by assumption) ?_; k_whole; intro zh' zF' zN'; (try k_sweep))
  | (refine' wrap_end (by exact rfl) (by k_asm) (by k_asm) (by k_mem) (by k_updF) (by k_mem) (by exact rfl) (by assumption) ?_; k_whole; intro zh₁' zh' ze' zo' zF' zN' ztiX'; (try dsimp only at zN')))))
  k_with "z noteFrame ref" =>
    ((k_here; (with_reducible rename Heap.NewExc _ _ _ _ => ztiX'); k_dflt (refine' caughtT (by exact rfl) (by assumption) ztiX' (by k_asm) (by k_asm) (by assumption) (by k_upd) (by assumption) (by assumption) (by decide +kernel) (by decide +kernel) (by decide +kernel) (by decide +kernel) (by decide +kernel) (by exact rfl) (by exact rfl) (by passes_own) ?_; k_whole); clear ztiX'; intro zh' zfrs' zsu' zfr' zhR' zh0' zF' zN'; (try dsimp only at zN')))
  k_with "z compareOp In str ref" =>
    ((k_here; k_dflt (first
  | (refine' set_in_b (by k_asm) (by k_updF) (by k_asm) (by first | assumption | exact Nat.lt_of_succ_lt (by assumption) | kse_small) _ (by assumption) ?_)
  | (refine' kda_in (knd := PySem.strKind _ _) (by k_asm) (by k_mem) (by k_asm) (by k_asm) (strKind_is _ _ _ _) _ (by first | assumption | exact vOne_self | exact vOne_ne (by assumption) | rfl) ?_))))
  k_with "z delItem ref str" =>
    ((k_here; k_dflt (refine' kob_del (knd := PySem.strKind _ _) (by k_asm) (by k_asm) (by k_updF) (by k_asm) (strKind_is _ _ _ _) (by first | exact vOne_self | exact vTwo_self | assumption) (by (rw [sizeLine_eq]; exact Nat.le_of_ble_eq_true rfl)) ?_); intro zh' zo' zF' zN' zhd'; (try dsimp only at zN'); (first | rw [wOne] at zhd' | rw [wTwo (by assumption)] at zhd')))
  k_with "z WhlRest" =>
    (((with_reducible show WhlRest _ _ _ _ _ (PySem.Expr.Constant _ _ _) _ _ _ _ _); refine parked ?_))
  k_with "z truthy ref" =>
    ((k_here; (with_reducible show wpAny _ _ (truthy (Value.ref _)) _ _ _); k_dflt (first
  | (refine' truthyPush (by k_asm) (by k_mem) (by first | exact Nat.zero_le _ | size_fits) ?_)
  | (refine' truthyNil (by k_asm) (by k_mem) ?_)
  | (refine' truthyCons (by k_asm) (by k_mem) (by size_fits) ?_))))
  k_with "z call type:bool" =>
    ((k_here; (with_reducible show wpAny _ _ (call _ [Value.ref _]) _ _ _); k_dflt (refine' boolList (by k_asm) (by k_mem) (by (simp only [List.size_toArray]; assumption)) ?_)))
  k_with "z call type:tuple" =>
    ((k_here; (with_reducible show wpAny _ _ (call (Value.type _) [Value.ref _]) _ _ _); k_dflt (refine' kde_tupleOf (by k_asm) (by k_asm) (by exact News.isList (by k_asm) (by k_mem)) (by first | omega | (simp only [List.size_toArray]; omega)) rfl ?_); intro zD' zh' zF' zN' zl1; (try k_lt zl1)))
  k_with "z call builtin:len" =>
    ((k_here; (with_reducible show wpAny _ _ (call (Value.builtin "len") [Value.ref _]) _ _ _); k_dflt (refine' kun_lenT (by exact News.isTup (by k_asm) (by k_mem)) rfl (by (simp only [List.size_toArray]; omega)) ?_)))
  k_with "k_conj" =>
    (first | exact c0 (by assumption) | exact c1 (by assumption) | exact c2 (by assumption) | exact c3 (by assumption) | exact c4 (by assumption) | exact c5 (by assumption) | exact c6 (by assumption) | exact c7 (by assumption) | exact c8 (by assumption) | exact c9 (by assumption) | exact c10 (by assumption) | exact c11 (by assumption))
  k_with "z call builtin:str.find" =>
    ((k_here; (with_reducible show wpAny _ _ (call (Value.builtin "str.find") [Value.str _ _, Value.str _ _, Value.int _ _, Value.int _ _]) _ _ _); refine find4 ?_))
  k_with "z call builtin:str.rfind" =>
    ((k_here; (with_reducible show wpAny _ _ (call (Value.builtin "str.rfind") [Value.str _ _, Value.str _ _, Value.int _ _, Value.int _ _]) _ _ _); refine rfind4 ?_))
  trivial
-- no cut: the library joins the ifs here by the shape of the post
theorem args_str_find_4 (a b c d : Value) : argsOk "str.find" ⟨[a, b, c, d], []⟩ := by unfold argsOk; kernel_rfl
theorem args_str_rfind_4 (a b c d : Value) : argsOk "str.rfind" ⟨[a, b, c, d], []⟩ := by unfold argsOk; kernel_rfl
noncomputable def findF (x y : Str) (lo hi : Nat) : Int := match Builtin.Str.occurrences x y lo hi 1 with | k :: _ => (k : Int) | [] => -1
noncomputable def rfindF (x y : Str) (lo hi : Nat) : Int := match Builtin.Str.lastOccurrence x y lo hi with | some k => (k : Int) | none => -1
theorem gives_find4 (x y : Str) (i j : Int) (t u v z : Tok) : Gives (Builtin.«str.find» ⟨[.str x t, .str y u, .int i v, .int j z], []⟩) (.int (findF x y (fromIndex x.length i) (min (fromIndex x.length j) x.length))) := by
  show Gives (match Builtin.Str.occurrences x y (fromIndex x.length i) (min (fromIndex x.length j) x.length) 1 with | k :: _ => retInt k | [] => (do rule "str.find.not-found"; retInt (-1))) _
  unfold findF
  cases Builtin.Str.occurrences x y (fromIndex x.length i) (min (fromIndex x.length j) x.length) 1 with
  | nil => exact .rule (.of_eq rfl)
  | cons k _ => exact .of_eq rfl
theorem gives_rfind4 (x y : Str) (i j : Int) (t u v z : Tok) : Gives (Builtin.«str.rfind» ⟨[.str x t, .str y u, .int i v, .int j z], []⟩) (.int (rfindF x y (fromIndex x.length i) (min (fromIndex x.length j) x.length))) := by
  show Gives (match Builtin.Str.lastOccurrence x y (fromIndex x.length i) (min (fromIndex x.length j) x.length) with | some k => retInt k | none => (do rule "str.rfind.not-found"; retInt (-1))) _
  unfold rfindF
  cases Builtin.Str.lastOccurrence x y (fromIndex x.length i) (min (fromIndex x.length j) x.length) with
  | none => exact .rule (.of_eq rfl)
  | some k => exact .of_eq rfl
section
variable {prog : Program} {w : World} {A : Around} {E : Value → Shared → Prop} {s : Shared} {x y : Str} {t u v z : Tok} {i j : Int} {Q : Value → Shared → Prop}
theorem find4 (hq : Q (.int (findF x y (fromIndex x.length i) (min (fromIndex x.length j) x.length)) s.toks) { s with toks := s.toks + 1 }) : wpAny (model prog w) A (call (.builtin "str.find") [.str x t, .str y u, .int i v, .int j z]) Q E s :=
  call_gives F.slot_str_find (typeIs_str _ _ _) F.entry_str_find (args_str_find_4 _ _ _ _) (gives_find4 x y i j t u v z) hq
theorem rfind4 (hq : Q (.int (rfindF x y (fromIndex x.length i) (min (fromIndex x.length j) x.length)) s.toks) { s with toks := s.toks + 1 }) : wpAny (model prog w) A (call (.builtin "str.rfind") [.str x t, .str y u, .int i v, .int j z]) Q E s :=
  call_gives F.slot_str_rfind (typeIs_str _ _ _) F.entry_str_rfind (args_str_rfind_4 _ _ _ _) (gives_rfind4 x y i j t u v z) hq
end
noncomputable def stripR (x : Str) : Int := if 0 ≤ Txt.find x (Str.ofString "\n") then Txt.find x (Str.ofString "\n") else x.length
noncomputable def stripE (x : Str) : Int := if 0 ≤ findF x (Str.ofString ":") (fromIndex x.length 0) (min (fromIndex x.length (stripR x)) x.length) then findF x (Str.ofString ":") (fromIndex x.length 0) (min (fromIndex x.length (stripR x)) x.length) else stripR x
noncomputable def stripS (x : Str) : Int := if 0 ≤ rfindF x (Str.ofString ".") (fromIndex x.length 0) (min (fromIndex x.length (stripE x)) x.length) then rfindF x (Str.ofString ".") (fromIndex x.length 0) (min (fromIndex x.length (stripE x)) x.length) + 1 else 0
noncomputable def stripF (x : Str) : Str := Txt.slice x (some (stripS x)) (some (stripE x))
theorem strip_r {x : Str} {r : Int} (hr : 0 ≤ Txt.find x (Str.ofString "\n") ∧ r = Txt.find x (Str.ofString "\n") ∨ ¬ 0 ≤ Txt.find x (Str.ofString "\n") ∧ r = x.length) : stripR x = r := by
  unfold stripR
  rcases hr with ⟨h, e⟩ | ⟨h, e⟩
  · rw [if_pos h, e]
  · rw [if_neg h, e]
theorem strip_tt {x : Str} {r : Int} (hr : stripR x = r) (h2 : 0 ≤ findF x (Str.ofString ":") (fromIndex x.length 0) (min (fromIndex x.length r) x.length))
    (h3 : 0 ≤ rfindF x (Str.ofString ".") (fromIndex x.length 0) (min (fromIndex x.length (findF x (Str.ofString ":") (fromIndex x.length 0) (min (fromIndex x.length r) x.length))) x.length)) :
    Txt.slice x (some (rfindF x (Str.ofString ".") (fromIndex x.length 0) (min (fromIndex x.length (findF x (Str.ofString ":") (fromIndex x.length 0) (min (fromIndex x.length r) x.length))) x.length) + 1)) (some (findF x (Str.ofString ":") (fromIndex x.length 0) (min (fromIndex x.length r) x.length))) = stripF x := by
  subst hr
  have e : stripE x = findF x (Str.ofString ":") (fromIndex x.length 0) (min (fromIndex x.length (stripR x)) x.length) := if_pos h2
  unfold stripF stripS
  rw [e, if_pos h3]
theorem strip_tf {x : Str} {r : Int} (hr : stripR x = r) (h2 : 0 ≤ findF x (Str.ofString ":") (fromIndex x.length 0) (min (fromIndex x.length r) x.length))
    (h3 : ¬ 0 ≤ rfindF x (Str.ofString ".") (fromIndex x.length 0) (min (fromIndex x.length (findF x (Str.ofString ":") (fromIndex x.length 0) (min (fromIndex x.length r) x.length))) x.length)) :
    Txt.slice x (some 0) (some (findF x (Str.ofString ":") (fromIndex x.length 0) (min (fromIndex x.length r) x.length))) = stripF x := by
  subst hr
  have e : stripE x = findF x (Str.ofString ":") (fromIndex x.length 0) (min (fromIndex x.length (stripR x)) x.length) := if_pos h2
  unfold stripF stripS
  rw [e, if_neg h3]
theorem strip_ft {x : Str} {r : Int} (hr : stripR x = r) (h2 : ¬ 0 ≤ findF x (Str.ofString ":") (fromIndex x.length 0) (min (fromIndex x.length r) x.length))
    (h3 : 0 ≤ rfindF x (Str.ofString ".") (fromIndex x.length 0) (min (fromIndex x.length r) x.length)) :
    Txt.slice x (some (rfindF x (Str.ofString ".") (fromIndex x.length 0) (min (fromIndex x.length r) x.length) + 1)) (some r) = stripF x := by
  subst hr
  have e : stripE x = stripR x := if_neg h2
  unfold stripF stripS
  rw [e, if_pos h3]
theorem strip_ff {x : Str} {r : Int} (hr : stripR x = r) (h2 : ¬ 0 ≤ findF x (Str.ofString ":") (fromIndex x.length 0) (min (fromIndex x.length r) x.length))
    (h3 : ¬ 0 ≤ rfindF x (Str.ofString ".") (fromIndex x.length 0) (min (fromIndex x.length r) x.length)) :
    Txt.slice x (some 0) (some r) = stripF x := by
  subst hr
  have e : stripE x = stripR x := if_neg h2
  unfold stripF stripS
  rw [e, if_neg h3]
theorem strip_ {w : World} {mean : ExcName → Option Value} {mg mb : Str → Option Value} {dp un : Nat} {gd : Option (List Code)} {cn : Str} {cs : Scope} {a : Addr} {ccd : Value} {cl : List (Str × Addr)} {outer : List Env} {A₀ : Around} {base h₀ : Heap} {L : Addr} {m : Str → Option Value}
    {news : List (Addr × Obj)} {s : Shared} {Q E : Value → Shared → Prop} (cx : Cx w mean mg mb dp un cs outer A₀ base h₀) (F : Fr h₀ L s.heap m) {x : Str} {t : Tok} (hx : x.length ≤ 100)
    (N : News h₀ L s.heap news) (ret : ∀ t' h' tk', Fr h₀ L h' m → News h₀ L h' news → Q (.str (stripF x) t') { s with heap := h', toks := tk' }) :
    wpAny (model Challenge.rw_mq0328_01.row.prog w) (ktrTop dp un gd cn cs L a ccd cl outer) (call (.ref 148) [.str x t]) Q E s := by
  obtain ⟨B, X, T, hk, hdp, hu⟩ := cx
  refine wpAny_call ?_
  k_dflt ktr_enter
  k_steps
  · rw [strip_tt (strip_r (by assumption)) (by assumption) (by assumption)]
    exact ret _ _ _ (by k_asm) (News.sub (by k_asm) fun p hp => .tail _ hp)
  · rw [strip_tf (strip_r (by assumption)) (by assumption) (by assumption)]
    exact ret _ _ _ (by k_asm) (News.sub (by k_asm) fun p hp => .tail _ hp)
  · rw [strip_ft (strip_r (by assumption)) (by assumption) (by assumption)]
    exact ret _ _ _ (by k_asm) (News.sub (by k_asm) fun p hp => .tail _ hp)
  · rw [strip_ff (strip_r (by assumption)) (by assumption) (by assumption)]
    exact ret _ _ _ (by k_asm) (News.sub (by k_asm) fun p hp => .tail _ hp)
end
section
theorem kw17 : True := by
  w_top off
  k_with_none
  k_with "z getMethod ref" =>
    ((k_here; (with_reducible show wpAny _ _ (getMethod (Value.ref _) (Str.ofString "get") _) _ _ _); k_dflt (refine kdg_method (knd := PySem.strKind _ _) (by k_asm) (by k_mem) (by k_asm) ?_)))
  k_with "z call builtin:dict.get" =>
    ((k_here; k_dflt (refine kdg_get1 (knd := PySem.strKind _ _) (by k_asm) (by k_mem) (by k_asm) (by k_asm) (strKind_is _ _ _ _) _ (by k_asm) ?_); (try dsimp only [Option.getD])))
  k_with "z setItem ref str" =>
    ((k_here; k_dflt (refine' kda_set (knd := PySem.strKind _ _) (by k_asm) (by k_asm) (by k_updF) (by k_asm) (strKind_is _ _ _ _) (by (simp only [List.length_append, List.length_cons, List.length_nil, sizeLine_eq]; omega)) ?_); intro zh' zo' zF' zN' zhd'; (try dsimp only at zN'); (try first | rw [stored_nil] at zhd' | rw [stored_one (by assumption)] at zhd' | rw [stored_new _ _ _ (by assumption)] at zhd')))
  k_with "z exec For Name Name cons nil" =>
    ((k_here; (rename Fr _ _ _ _ => zlF'); (with_unfolding_all refine' For_turns zlF' ?_; k_whole)))
  k_with "z exec For Name Attribute cons nil" =>
    ((k_here; (rename Fr _ _ _ _ => zlF'); (with_unfolding_all refine' For_turns zlF' ?_; k_whole)))
  k_with "z exec For Name Call cons nil" =>
    ((k_here; (rename Fr _ _ _ _ => zlF'); (with_unfolding_all refine' For_turns zlF' ?_; k_whole)))
  k_with "z exec For Tuple Name cons nil" =>
    ((k_here; (rename Fr _ _ _ _ => zlF'); (with_unfolding_all refine' For_turns zlF' ?_; k_whole)))
  k_with "z exec For Name BinOp cons nil" =>
    ((k_here; (rename Fr _ _ _ _ => zlF'); (with_unfolding_all refine' For_turns zlF' ?_; k_whole)))
  k_with "z pyIter ref" =>
    ((k_here; (with_reducible show wpAny _ _ (pyIter (Value.ref _)) (fun it s₂ => TurnsAt _ _ _ _ _ _ _ _ _ it s₂) _ _); (rename Fr _ _ _ _ => zlF'); (rename News _ _ _ _ => zlN'); (with_unfolding_all refine iter_tup1 (by rfl) zlF' zlN' (by k_mem) (by rfl) (by rfl) ?_); clear zlF' zlN'; intro zi' zo' zh' ztk' zl1 zF' zN'; (try k_lt zl1)))
  k_with "z OneP" =>
    ((dsimp only [OneP]))
  k_with "z One" =>
    ((k_here; (k_dflt (refine' One.intro (by k_asm) (by k_asm) (by k_upd) (by k_mem) ?_; k_whole)); intro zh' ztk' zF' zN'))
  k_with "z subscriptTail" =>
    ((k_here; (with_reducible show wpAny _ _ (subscriptTail _ _ (Value.ref _) (Value.str _ _)) _ _ _); k_dflt (refine kda_item (knd := PySem.strKind _ _) (by k_asm) (by k_mem) (by k_asm) (strKind_is _ _ _ _) (by first | k_asm | exact vOne_get) ?_)))
  k_with "z call builtin:iter" =>
    ((k_here; (with_reducible show wpAny _ _ (call (Value.builtin "iter") [Value.ref _]) _ _ _); k_dflt (refine' iter_list_call (by k_asm) (by k_asm) (by k_mem) (by exact rfl) (by exact rfl) ?_; k_whole); intro zi' zh' zF' zN' zl1; (try k_lt zl1); (try k_sweep)))
  k_with "z getAttr ref" =>
    ((k_here; (with_reducible show wpAny _ _ (getAttr (Value.ref _) (Str.ofString "__next__") true) _ _ _); k_dflt (refine' next_attr (by k_asm) (by k_asm) (by k_mem) ?_; k_whole); intro zi' zh' zF' zN' zl1; (try k_lt zl1); (try k_sweep)))
  k_with "z callWith ref" =>
    ((k_here; (with_reducible show wpAny _ _ (callWith _ (Value.ref _) [] (backTo _ (starEach [] _)) []) _ _ _); k_dflt (refine' callWith_wrap (News.get (by k_asm) (by k_mem)) ?_; k_whole)))
  k_with "z call ref" =>
    ((k_here; (with_reducible show wpAny _ _ (call (Value.ref _) []) _ _ _); k_dflt (first
  | (refine' wrap_item (by k_asm) (by k_asm) (by k_mem) (by k_upd) (by k_mem) (by exact rfl) (by assumption) ?_; k_whole; intro zh' zF' zN'; (try k_sweep))
  | (refine' wrap_end (by exact rfl) (by k_asm) (by k_asm) (by k_mem) (by k_updF) (by k_mem) (by exact rfl) (by assumption) ?_; k_whole; intro zh₁' zh' ze' zo' zF' zN' ztiX'; (try dsimp only at zN')))))
  k_with "z noteFrame ref" =>
    ((k_here; (with_reducible rename Heap.NewExc _ _ _ _ => ztiX'); k_dflt (refine' caughtT (by exact rfl) (by assumption) ztiX' (by k_asm) (by k_asm) (by assumption) (by k_upd) (by assumption) (by assumption) (by decide +kernel) (by decide +kernel) (by decide +kernel) (by decide +kernel) (by decide +kernel) (by exact rfl) (by exact rfl) (by passes_own) ?_; k_whole); clear ztiX'; intro zh' zfrs' zsu' zfr' zhR' zh0' zF' zN'; (try dsimp only at zN')))
  k_with "z compareOp In str ref" =>
    ((k_here; k_dflt (first
  | (refine' set_in_b (by k_asm) (by k_updF) (by k_asm) (by first | assumption | exact Nat.lt_of_succ_lt (by assumption) | kse_small) _ (by assumption) ?_)
  | (refine' kda_in (knd := PySem.strKind _ _) (by k_asm) (by k_mem) (by k_asm) (by k_asm) (strKind_is _ _ _ _) _ (by first | assumption | exact vOne_self | exact vOne_ne (by assumption) | rfl) ?_))))
  k_with "z delItem ref str" =>
    ((k_here; k_dflt (refine' kob_del (knd := PySem.strKind _ _) (by k_asm) (by k_asm) (by k_updF) (by k_asm) (strKind_is _ _ _ _) (by first | exact vOne_self | exact vTwo_self | assumption) (by (rw [sizeLine_eq]; exact Nat.le_of_ble_eq_true rfl)) ?_); intro zh' zo' zF' zN' zhd'; (try dsimp only at zN'); (first | rw [wOne] at zhd' | rw [wTwo (by assumption)] at zhd')))
  k_with "z WhlRest" =>
    (((with_reducible show WhlRest _ _ _ _ _ (PySem.Expr.Constant _ _ _) _ _ _ _ _); refine parked ?_))
  k_with "z truthy ref" =>
    ((k_here; (with_reducible show wpAny _ _ (truthy (Value.ref _)) _ _ _); k_dflt (first
  | (refine' truthyPush (by k_asm) (by k_mem) (by first | exact Nat.zero_le _ | size_fits) ?_)
  | (refine' truthyNil (by k_asm) (by k_mem) ?_)
  | (refine' truthyCons (by k_asm) (by k_mem) (by size_fits) ?_))))
  k_with "z call type:bool" =>
    ((k_here; (with_reducible show wpAny _ _ (call _ [Value.ref _]) _ _ _); k_dflt (refine' boolList (by k_asm) (by k_mem) (by (simp only [List.size_toArray]; assumption)) ?_)))
  k_with "z call type:tuple" =>
    ((k_here; (with_reducible show wpAny _ _ (call (Value.type _) [Value.ref _]) _ _ _); k_dflt (refine' kde_tupleOf (by k_asm) (by k_asm) (by exact News.isList (by k_asm) (by k_mem)) (by first | omega | (simp only [List.size_toArray]; omega)) rfl ?_); intro zD' zh' zF' zN' zl1; (try k_lt zl1)))
  k_with "z call builtin:len" =>
    ((k_here; (with_reducible show wpAny _ _ (call (Value.builtin "len") [Value.ref _]) _ _ _); k_dflt (refine' kun_lenT (by exact News.isTup (by k_asm) (by k_mem)) rfl (by (simp only [List.size_toArray]; omega)) ?_)))
  k_with "z execs cons" =>
    (((try (k_here; k_made)); (try (with_reducible refine tok_cut1 ?_; intro tk; (try dsimp only))); (try k_fold); (with_reducible refine wpAny_execs_cons ?_); (try dsimp only); (try k_fold)))
  k_with "k_conj" =>
    (first | exact c0 (by assumption) | exact c1 (by assumption) | exact c2 (by assumption) | exact c3 (by assumption) | exact c4 (by assumption) | exact c5 (by assumption) | exact c6 (by assumption) | exact c7 (by assumption) | exact c8 (by assumption) | exact c9 (by assumption) | exact c10 (by assumption) | exact c11 (by assumption))
  k_with "z subscriptTail" =>
    ((k_here; (with_reducible show wpAny _ _ (subscriptTail _ _ (Value.ref _) (Value.int _ _)) _ _ _); (with_unfolding_all first
  | (refine' menuN (by k_asm) (by k_mem) (by assumption) (by exact Int.fmod_nonneg_of_pos _ (by decide)) (by exact Int.fmod_lt_of_pos _ (by decide)) ?_; k_whole)
  | (refine' menuW (by k_asm) (by k_mem) (by assumption) (by exact Int.fmod_nonneg_of_pos _ (by decide)) (by exact Int.fmod_lt_of_pos _ (by decide)) ?_; k_whole)
  | (refine' menuT (by k_asm) (by k_mem) (by assumption) (by exact Int.fmod_nonneg_of_pos _ (by decide)) (by exact Int.fmod_lt_of_pos _ (by decide)) ?_; k_whole)); intro _))
  k_with "z binaryOp Add str str" =>
    ((k_here; first | (refine addWN ?_; intro _ _) | (refine addWNT ?_; intro _ _)))
  trivial
/-- the three tables of the law -/
def IsN (o : Obj) : Prop := ∃ t1 t2 t3 n, o = W.listOf #[.str (Str.ofString "E") t1, .str (Str.ofString "a") t2, .str (Str.ofString "") t3] n
def IsW (o : Obj) : Prop := ∃ t1 t2 t3 t4 n, o = W.listOf #[.str (Str.ofString "") t1, .str (Str.ofString "a.") t2, .str (Str.ofString ".") t3, .str (Str.ofString "E.e.") t4] n
def IsT (o : Obj) : Prop := ∃ t1 t2 t3 t4 t5 n, o = W.listOf #[.str (Str.ofString "") t1, .str (Str.ofString ": b.c") t2, .str (Str.ofString "\n:E.") t3, .str (Str.ofString ":\n.a") t4, .str (Str.ofString ":") t5] n
/-- a pair of the law: where it lies, its line, its name -/
structure Pr where
  ad : Addr
  l : Str
  lk : Tok
  n : Str
  nk : Tok
noncomputable def Pr.obj (p : Pr) : Addr × Obj := (p.ad, ⟨.type "tuple", none, .seq #[.str p.l p.lk, .str p.n p.nk] 0, #[]⟩)
noncomputable def Pr.val (p : Pr) : Value := .ref p.ad
noncomputable def wayI (k : Int) : Str := if k = 0 then Str.ofString "" else if k = 1 then Str.ofString "a." else if k = 2 then Str.ofString "." else Str.ofString "E.e."
noncomputable def nameI (k : Int) : Str := if k = 0 then Str.ofString "E" else if k = 1 then Str.ofString "a" else Str.ofString ""
noncomputable def tailI (k : Int) : Str := if k = 0 then Str.ofString "" else if k = 1 then Str.ofString ": b.c" else if k = 2 then Str.ofString "\n:E." else if k = 3 then Str.ofString ":\n.a" else Str.ofString ":"
theorem wayI_len (k : Int) : (wayI k).length ≤ 4 := by unfold wayI; split; decide; split; decide; split; decide; decide
theorem nameI_len (k : Int) : (nameI k).length ≤ 1 := by unfold nameI; split; decide; split; decide; decide
theorem tailI_len (k : Int) : (tailI k).length ≤ 5 := by unfold tailI; split; decide; split; decide; split; decide; split; decide; decide
section
variable {prog : Program} {w : World} {A : Around} {E : Value → Shared → Prop} {s : Shared} {value slice : PySem.Expr} {l : Addr} {h₀ : Heap} {L : Addr} {news : List (Addr × Obj)} {n : Nat} {k i j : Int} {u t1 t2 t3 t4 t5 : Tok} {Q : Value → Shared → Prop}
theorem menuN {o : Obj} (N : News h₀ L s.heap news) (hm : (l, o) ∈ news) (ho : IsN o) (h0 : 0 ≤ k) (h3 : k < 3) (h : ∀ t, Q (.str (nameI k) t) s)
    (hs : ∀ k', subscripted slice false (.ref l) (.int k' u) = operate [.ref l, .int k' u] (getItem (.ref l) (.int k' u)) := by intro _; with_unfolding_all rfl) : wpAny (model prog w) A (subscriptTail value slice (.ref l) (.int k u)) Q E s := by
  obtain ⟨t1, t2, t3, n, rfl⟩ := ho
  have hl : s.heap.IsList l #[.str (Str.ofString "E") t1, .str (Str.ofString "a") t2, .str (Str.ofString "") t3] := ⟨_, (N _ hm).1, rfl, n, rfl⟩
  have hk : k = 0 ∨ k = 1 ∨ k = 2 := by omega
  rcases hk with rfl | rfl | rfl
  · exact tail_any hl.typeIs slot_list_getitem.lookup (wpAny_getItem_list hl h0 (by decide) rfl (h _)) (hs _)
  · exact tail_any hl.typeIs slot_list_getitem.lookup (wpAny_getItem_list hl h0 (by decide) rfl (h _)) (hs _)
  · exact tail_any hl.typeIs slot_list_getitem.lookup (wpAny_getItem_list hl h0 (by decide) rfl (h _)) (hs _)
theorem menuW {o : Obj} (N : News h₀ L s.heap news) (hm : (l, o) ∈ news) (ho : IsW o) (h0 : 0 ≤ k) (h3 : k < 4) (h : ∀ t, Q (.str (wayI k) t) s)
    (hs : ∀ k', subscripted slice false (.ref l) (.int k' u) = operate [.ref l, .int k' u] (getItem (.ref l) (.int k' u)) := by intro _; with_unfolding_all rfl) : wpAny (model prog w) A (subscriptTail value slice (.ref l) (.int k u)) Q E s := by
  obtain ⟨t1, t2, t3, t4, n, rfl⟩ := ho
  have hl : s.heap.IsList l #[.str (Str.ofString "") t1, .str (Str.ofString "a.") t2, .str (Str.ofString ".") t3, .str (Str.ofString "E.e.") t4] := ⟨_, (N _ hm).1, rfl, n, rfl⟩
  have hk : k = 0 ∨ k = 1 ∨ k = 2 ∨ k = 3 := by omega
  rcases hk with rfl | rfl | rfl | rfl
  · exact tail_any hl.typeIs slot_list_getitem.lookup (wpAny_getItem_list hl h0 (by decide) rfl (h _)) (hs _)
  · exact tail_any hl.typeIs slot_list_getitem.lookup (wpAny_getItem_list hl h0 (by decide) rfl (h _)) (hs _)
  · exact tail_any hl.typeIs slot_list_getitem.lookup (wpAny_getItem_list hl h0 (by decide) rfl (h _)) (hs _)
  · exact tail_any hl.typeIs slot_list_getitem.lookup (wpAny_getItem_list hl h0 (by decide) rfl (h _)) (hs _)
theorem menuT {o : Obj} (N : News h₀ L s.heap news) (hm : (l, o) ∈ news) (ho : IsT o) (h0 : 0 ≤ k) (h3 : k < 5) (h : ∀ t, Q (.str (tailI k) t) s)
    (hs : ∀ k', subscripted slice false (.ref l) (.int k' u) = operate [.ref l, .int k' u] (getItem (.ref l) (.int k' u)) := by intro _; with_unfolding_all rfl) : wpAny (model prog w) A (subscriptTail value slice (.ref l) (.int k u)) Q E s := by
  obtain ⟨t1, t2, t3, t4, t5, n, rfl⟩ := ho
  have hl : s.heap.IsList l #[.str (Str.ofString "") t1, .str (Str.ofString ": b.c") t2, .str (Str.ofString "\n:E.") t3, .str (Str.ofString ":\n.a") t4, .str (Str.ofString ":") t5] := ⟨_, (N _ hm).1, rfl, n, rfl⟩
  have hk : k = 0 ∨ k = 1 ∨ k = 2 ∨ k = 3 ∨ k = 4 := by omega
  rcases hk with rfl | rfl | rfl | rfl | rfl
  · exact tail_any hl.typeIs slot_list_getitem.lookup (wpAny_getItem_list hl h0 (by decide) rfl (h _)) (hs _)
  · exact tail_any hl.typeIs slot_list_getitem.lookup (wpAny_getItem_list hl h0 (by decide) rfl (h _)) (hs _)
  · exact tail_any hl.typeIs slot_list_getitem.lookup (wpAny_getItem_list hl h0 (by decide) rfl (h _)) (hs _)
  · exact tail_any hl.typeIs slot_list_getitem.lookup (wpAny_getItem_list hl h0 (by decide) rfl (h _)) (hs _)
  · exact tail_any hl.typeIs slot_list_getitem.lookup (wpAny_getItem_list hl h0 (by decide) rfl (h _)) (hs _)
theorem addWN (h : ∀ t' k, Q (.str (wayI i ++ nameI j) t') { s with toks := k }) : wpAny (model prog w) A (binaryOp .Add (.str (wayI i) t1) (.str (nameI j) t2)) Q E s :=
  SBL.add (fun t' k _ => h t' k) (by have := wayI_len i; have := nameI_len j; rw [sizeLine_eq]; omega)
theorem addWNT (h : ∀ t' z, Q (.str (wayI i ++ nameI j ++ tailI k) t') { s with toks := z }) : wpAny (model prog w) A (binaryOp .Add (.str (wayI i ++ nameI j) t1) (.str (tailI k) t2)) Q E s :=
  SBL.add (fun t' k _ => h t' k) (by have := wayI_len i; have := nameI_len j; have := tailI_len k; rw [Str.length_append, sizeLine_eq]; omega)
end
theorem intsGet {vs : List Value} {ns : List Int} (h : IntsAre vs ns) : ∀ {i : Nat} {v : Value}, vs[i]? = some v → ∃ n t, v = .int n t ∧ ns[i]? = some n := by
  induction h with
  | nil => intro i v h; simp at h
  | cons n t _ ih =>
    intro i v hv
    cases i with
    | zero => simp at hv; exact ⟨n, t, hv.symm, rfl⟩
    | succ i => simpa using ih (i := i) (v := v) (by simpa using hv)
noncomputable def pairI (n : Int) : Str × Str := (wayI (n.fmod 4) ++ nameI ((n.fdiv 4).fmod 3) ++ tailI ((n.fdiv 12).fmod 5), nameI ((n.fdiv 4).fmod 3))
noncomputable def Pr.two (p : Pr) : Str × Str := (p.l, p.n)
inductive IntAt (ns : List Int) (i : Nat) : Value → Prop
  | mk (n : Int) (t : Tok) (h : ns[i]? = some n) : IntAt ns i (.int n t)
theorem intAt {vs : List Value} {ns : List Int} (h : IntsAre vs ns) {i : Nat} {v : Value} (hv : vs[i]? = some v) : IntAt ns i v := by
  obtain ⟨n, t, rfl, e⟩ := intsGet h hv
  exact ⟨n, t, e⟩
/-- what holds between the turns over the numbers -/
inductive PairsA (D lp lt ln lw : Addr) (ws : List Value) (xs : List Int) (news : List (Addr × Obj)) (m0 : Str → Option Value) (i : Nat) (m' : Str → Option Value) (l : List (Addr × Obj)) : Prop
  | mk (ps : List Pr) (e : Nat) (oT oN oW : Obj) (em : ∀ y, y ≠ Str.ofString "x" → y ≠ Str.ofString "name" → m' y = m0 y) (hT : IsT oT) (hN : IsN oN) (hW : IsW oW) (hps : ps.map Pr.two = (xs.take i).map pairI)
    (hS : Sep ((D, W.listOf ws.toArray 0) :: (lp, W.listOf (ps.map Pr.val).toArray e) :: (lt, oT) :: (ln, oN) :: (lw, oW) :: ((ps.map Pr.obj).reverse ++ news)))
    (el : l = (D, W.listOf ws.toArray 0) :: (lp, W.listOf (ps.map Pr.val).toArray e) :: (lt, oT) :: (ln, oN) :: (lw, oW) :: ((ps.map Pr.obj).reverse ++ news)) : PairsA D lp lt ln lw ws xs news m0 i m' l
theorem prNameK {h₀ h : Heap} {L T : Addr} {a b : Str} {ta tb : Tok} {r : List (Addr × Obj)} {G : Prop} (_ : News h₀ L h ((T, ⟨.type "tuple", none, .seq #[.str a ta, .str b tb] 0, #[]⟩) :: r)) (k : ∀ p : Pr, p.obj = (T, ⟨.type "tuple", none, .seq #[.str a ta, .str b tb] 0, #[]⟩) → p.two = (a, b) → p.ad = T → G) : G := k ⟨T, a, ta, b, tb⟩ rfl rfl rfl
theorem law_pairs {w : World} {mean : ExcName → Option Value} {mg mb : Str → Option Value} {dp un : Nat} {gd : Option (List Code)} {cn : Str} {cs : Scope} {a : Addr} {ccd : Value} {cl : List (Str × Addr)} {outer : List Env} {A₀ : Around} {base h₀ : Heap} {L : Addr} {m : Str → Option Value}
    {news : List (Addr × Obj)} {s : Shared} {Q E : Value → Shared → Prop} (cx : Cx w mean mg mb dp un cs outer A₀ base h₀) (F : Fr h₀ L s.heap m) {sa : Addr} {vs : List Value} {xs : List Int} (hl : h₀.IsList sa vs.toArray) (hI : IntsAre vs xs) (hlen : xs.length ≤ 63)
    (N : News h₀ L s.heap news) (hs : Sep news)
    (ret : ∀ (lp : Addr) (ps : List Pr) (e : Nat) h' tk', ps.map Pr.two = (xs.take 12 ++ [13, 30, 39, 13]).map pairI → Fr h₀ L h' m → News h₀ L h' ((lp, W.listOf (ps.map Pr.val).toArray e) :: ((ps.map Pr.obj).reverse ++ news)) → Sep ((lp, W.listOf (ps.map Pr.val).toArray e) :: ((ps.map Pr.obj).reverse ++ news)) → Q (.ref lp) { s with heap := h', toks := tk' }) :
    wpAny (model Challenge.rw_mq0328_01.row.prog w) (ktrTop dp un gd cn cs L a ccd cl outer) (call (.ref 169) [.ref sa]) Q E s := by
  obtain ⟨B, X, T, hk, hdp, hu⟩ := cx
  refine wpAny_call ?_
  k_dflt (refine' code_def ?k1 ?k2 ?k3 ?k4 ?k5 ?kA ?kF ?kK ?k6 ?k7 ?k8 ?k9 ?kB ?_ ?c2 ?c3 ?c4 ?c5; (case kA => exact rfl); (case kF => exact rfl); (case kK => assumption); (case k1 => k_asm); (case k2 => k_asm); (case k3 => k_asm); (case k4 => k_asm); (case k5 => k_asm); (case k6 => k_is); (case k7 => k_is); (case k8 => ktr_room); (case k9 => exact BindsTo.of_eq rfl); (case c5 => decide); (case kB => exact locs rfl); (case c2 => exact rfl); (case c3 => exact rfl); (case c4 => exact rfl); k_whole)
  intro g' L' h' FG' F' N' B' X' T'
  have hl' : g'.IsList sa vs.toArray := stays_list FG'.keep hl
  (try dsimp only); (try k_fold)
  k_steps
  (rename Fr _ _ _ _ => lF'); (rename News _ _ _ _ => lN')
  rename_i lw _ _ _ _ _ _ ln _ _ _ _ _ _ lt _ _ _ _ _ _ lp _ _ _ c1 _ _ _ _ _ _ d1 _ _ D ws _ _ _
  rename IntsAre _ (_ ++ _) => hI2
  refine frMK lF' fun m0 em F0 => ?_
  have hw0 : lw ≠ ln := by k_ne
  have hw1 : lw ≠ lt := by k_ne
  have hw2 : lw ≠ lp := by k_ne
  have hw3 : lw ≠ D := by k_ne
  have hn1 : ln ≠ lt := by k_ne
  have hn2 : ln ≠ lp := by k_ne
  have hn3 : ln ≠ D := by k_ne
  have ht2 : lt ≠ lp := by k_ne
  have ht3 : lt ≠ D := by k_ne
  have hp3 : lp ≠ D := by k_ne
  have a1 : ∀ p ∈ news, p.1 ≠ lw := by k_all
  have a2 : ∀ p ∈ news, p.1 ≠ ln := by k_all
  have a3 : ∀ p ∈ news, p.1 ≠ lt := by k_all
  have a4 : ∀ p ∈ news, p.1 ≠ lp := by k_all
  have a5 : ∀ p ∈ news, p.1 ≠ D := by k_all
  have hh5 : ws.length ≤ 100 := by
    have h1 := IntsAre.length hI2
    simp only [List.length_append, List.length_cons, List.length_nil, List.length_take] at h1
    omega
  have lN2 := News.sub lN' (consSub (fun q hq => .tail _ (.tail _ hq)))
  refine iter_listInv (by rfl) F0 lN2 (.head _) rfl rfl (fun _ i m' l => PairsA D lp lt ln lw ws (xs.take 12 ++ [13, 30, 39, 13]) news m0 i m' l) ?_ ?_ ?_ ?_
  · intro _ _ _ _ hj
    cases hj with | mk _ _ _ _ _ _ _ _ _ _ _ el =>
    rw [el]; exact .head _
  · intro I _
    refine .mk [] 0 _ _ _ (fun _ _ _ => rfl) ⟨_, _, _, _, _, _, rfl⟩ ⟨_, _, _, _, rfl⟩ ⟨_, _, _, _, _, rfl⟩ rfl ?hS rfl
    case hS =>
      refine Sep.cons_iff.mpr ⟨?_, Sep.cons_iff.mpr ⟨?_, Sep.cons_iff.mpr ⟨?_, Sep.cons_iff.mpr ⟨?_, Sep.cons_iff.mpr ⟨a1, hs⟩⟩⟩⟩⟩
      · exact List.forall_mem_cons.mpr ⟨hp3, List.forall_mem_cons.mpr ⟨ht3, List.forall_mem_cons.mpr ⟨hn3, List.forall_mem_cons.mpr ⟨hw3, a5⟩⟩⟩⟩
      · exact List.forall_mem_cons.mpr ⟨ht2, List.forall_mem_cons.mpr ⟨hn2, List.forall_mem_cons.mpr ⟨hw2, a4⟩⟩⟩
      · exact List.forall_mem_cons.mpr ⟨hn1, List.forall_mem_cons.mpr ⟨hw1, a3⟩⟩
      · exact List.forall_mem_cons.mpr ⟨hw0, a2⟩
  · intro I hI oI i v m₁ news₁ h₁ tk₁ hvi hj hne hcI F₁ N₁
    have hia := intAt hI2 hvi
    cases hia with | mk n tn hni =>
    cases hj with | mk ps e oT oN oW e1' hoT hoN hoW hps hS e2' =>
    replace F₁ := frTo F₁ (off2 e1')
    rw [em] at F₁
    replace N₁ := newsTo1 N₁ e2'
    rw [e2'] at hne
    have hi16 : i < ws.length := (List.getElem?_eq_some_iff.mp hvi).1
    have hpl : ps.length ≤ 100 := by
      have := congrArg List.length hps
      simp only [List.length_map, List.length_take, List.length_append, List.length_cons, List.length_nil] at this
      omega
    clear lN' lN2 F0 lF'
    have hI9 : lp ≠ I := hne _ (.tail _ (.head _))
    have hlp : ∀ p ∈ (ps.map Pr.obj).reverse ++ news, p.1 ≠ lp := fun p hp => (Sep.cons_iff.mp (Sep.cons_iff.mp hS).2).1 p (.tail _ (.tail _ (.tail _ hp)))
    have hz5 : (ps.map Pr.val).toArray.size ≤ 1000 := by simp only [List.size_toArray, List.length_map]; omega
    k_steps
    (rename Fr _ _ _ _ => F9); (rename News _ _ _ _ => N9)
    obtain ⟨T, rfl⟩ := nm1 N9
    refine prNameK N9 fun p hpo hpt hpa => ?_
    have q0 : T ≠ I := by k_ne
    have q1 : D ≠ T := by k_ne
    have q2 : lp ≠ T := by k_ne
    have q3 : lt ≠ T := by k_ne
    have q4 : ln ≠ T := by k_ne
    have q5 : lw ≠ T := by k_ne
    have q6 : ∀ q ∈ (ps.map Pr.obj).reverse ++ news, q.1 ≠ T := by k_all
    have etup : ((ps ++ [p]).map Pr.obj).reverse ++ news = p.obj :: ((ps.map Pr.obj).reverse ++ news) := by
      rw [List.map_append, List.reverse_append]; rfl
    have eval : ((ps ++ [p]).map Pr.val).toArray = (ps.map Pr.val).toArray.push (.ref T) := by
      rw [List.map_append, List.push_toArray, ← hpa]; rfl
    have hS2 : Sep ((D, W.listOf ws.toArray 0) :: (lp, W.listOf ((ps ++ [p]).map Pr.val).toArray (e + 1)) :: (lt, oT) :: (ln, oN) :: (lw, oW) :: (((ps ++ [p]).map Pr.obj).reverse ++ news)) := by
      rw [etup, hpo]
      exact Sep.insert (l1 := (D, W.listOf ws.toArray 0) :: (lp, W.listOf ((ps ++ [p]).map Pr.val).toArray (e + 1)) :: (lt, oT) :: (ln, oN) :: (lw, oW) :: []) (l2 := (ps.map Pr.obj).reverse ++ news) (hS.of_eq rfl)
        (List.forall_mem_cons.mpr ⟨q1, List.forall_mem_cons.mpr ⟨q2, List.forall_mem_cons.mpr ⟨q3, List.forall_mem_cons.mpr ⟨q4, List.forall_mem_cons.mpr ⟨q5, q6⟩⟩⟩⟩⟩)
    have N10 := News.sub (l' := (I, oI) :: (D, W.listOf ws.toArray 0) :: (lp, W.listOf ((ps ++ [p]).map Pr.val).toArray (e + 1)) :: (lt, oT) :: (ln, oN) :: (lw, oW) :: (((ps ++ [p]).map Pr.obj).reverse ++ news)) N9 (by
      rw [etup, eval, hpo]
      exact subC (.tail _ (.head _)) (subC (.tail _ (.tail _ (.head _))) (subC (.tail _ (.tail _ (.tail _ (.head _)))) (subC (.tail _ (.tail _ (.tail _ (.tail _ (.head _))))) (subC (.tail _ (.tail _ (.tail _ (.tail _ (.tail _ (.head _)))))) (subC (.tail _ (.tail _ (.tail _ (.tail _ (.tail _ (.tail _ (.head _))))))) (subC (.head _) (fun _ hq => .tail _ (.tail _ (.tail _ (.tail _ (.tail _ (.tail _ (.tail _ hq))))))))))))))
    refine' unrEnd' F9 N10 ?hoff (.mk (ps ++ [p]) (e + 1) oT oN oW ?hmm hoT hoN hoW ?hpp hS2 rfl)
    case hoff =>
      rw [etup, hpo]
      exact consNe (hne _ (.head _)) (consNe hI9 (consNe (hne _ (.tail _ (.tail _ (.head _)))) (consNe (hne _ (.tail _ (.tail _ (.tail _ (.head _))))) (consNe (hne _ (.tail _ (.tail _ (.tail _ (.tail _ (.head _)))))) (consNe q0 (fun q hq => hne _ (.tail _ (.tail _ (.tail _ (.tail _ (.tail _ hq)))))))))))
    case hpp =>
      rw [List.map_append, hps, takeN_snoc hni, List.map_append]
      simp only [List.map_cons, List.map_nil, hpt, pairI]
    case hmm =>
      intro y h1 h2
      (repeat refine ifN (by assumption) ?_); exact (congrFun em y).symm
  · intro I h' tk m' news' F' N' hj
    cases hj with | mk ps e oT oN oW e1' hoT hoN hoW hps hS e2' =>
    replace F' := frTo F' (off2 e1')
    rw [em] at F'
    replace N' := newsTo N' e2'
    clear lN' lN2 F0 lF'
    have hwl : ws.length = (xs.take 12 ++ [13, 30, 39, 13]).length := IntsAre.length hI2
    rw [hwl, List.take_length] at hps
    k_steps
    rename News _ _ _ _ => N9
    refine ret lp ps e _ _ hps (by k_asm) (News.sub N9 (subC (.tail _ (.head _)) (fun _ hq => .tail _ (.tail _ (.tail _ (.tail _ (.tail _ hq)))))))  (hS.sub ?_)
    exact List.Sublist.cons _ (List.Sublist.cons_cons _ (List.Sublist.cons _ (List.Sublist.cons _ (List.Sublist.cons _ (List.Sublist.refl _)))))
end
section
theorem kw18 : True := by
  w_top off
  k_with_none
  k_with "z getMethod ref" =>
    ((k_here; (with_reducible show wpAny _ _ (getMethod (Value.ref _) (Str.ofString "get") _) _ _ _); k_dflt (refine kdg_method (knd := PySem.strKind _ _) (by k_asm) (by k_mem) (by k_asm) ?_)))
  k_with "z call builtin:dict.get" =>
    ((k_here; k_dflt (refine kdg_get1 (knd := PySem.strKind _ _) (by k_asm) (by k_mem) (by k_asm) (by k_asm) (strKind_is _ _ _ _) _ (by k_asm) ?_); (try dsimp only [Option.getD])))
  k_with "z setItem ref str" =>
    ((k_here; k_dflt (refine' kda_set (knd := PySem.strKind _ _) (by k_asm) (by k_asm) (by k_updF) (by k_asm) (strKind_is _ _ _ _) (by (simp only [List.length_append, List.length_cons, List.length_nil, sizeLine_eq]; omega)) ?_); intro zh' zo' zF' zN' zhd'; (try dsimp only at zN'); (try first | rw [stored_nil] at zhd' | rw [stored_one (by assumption)] at zhd' | rw [stored_new _ _ _ (by assumption)] at zhd')))
  k_with "z exec For Name Name cons nil" =>
    ((k_here; (rename Fr _ _ _ _ => zlF'); (with_unfolding_all refine' For_turns zlF' ?_; k_whole)))
  k_with "z exec For Name Attribute cons nil" =>
    ((k_here; (rename Fr _ _ _ _ => zlF'); (with_unfolding_all refine' For_turns zlF' ?_; k_whole)))
  k_with "z exec For Name Call cons nil" =>
    ((k_here; (rename Fr _ _ _ _ => zlF'); (with_unfolding_all refine' For_turns zlF' ?_; k_whole)))
  k_with "z exec For Tuple Name cons nil" =>
    ((k_here; (rename Fr _ _ _ _ => zlF'); (with_unfolding_all refine' For_turns zlF' ?_; k_whole)))
  k_with "z exec For Name BinOp cons nil" =>
    ((k_here; (rename Fr _ _ _ _ => zlF'); (with_unfolding_all refine' For_turns zlF' ?_; k_whole)))
  k_with "z pyIter ref" =>
    ((k_here; (with_reducible show wpAny _ _ (pyIter (Value.ref _)) (fun it s₂ => TurnsAt _ _ _ _ _ _ _ _ _ it s₂) _ _); (rename Fr _ _ _ _ => zlF'); (rename News _ _ _ _ => zlN'); (with_unfolding_all refine iter_tup1 (by rfl) zlF' zlN' (by k_mem) (by rfl) (by rfl) ?_); clear zlF' zlN'; intro zi' zo' zh' ztk' zl1 zF' zN'; (try k_lt zl1)))
  k_with "z OneP" =>
    ((dsimp only [OneP]))
  k_with "z One" =>
    ((k_here; (k_dflt (refine' One.intro (by k_asm) (by k_asm) (by k_upd) (by k_mem) ?_; k_whole)); intro zh' ztk' zF' zN'))
  k_with "z subscriptTail" =>
    ((k_here; (with_reducible show wpAny _ _ (subscriptTail _ _ (Value.ref _) (Value.str _ _)) _ _ _); k_dflt (refine kda_item (knd := PySem.strKind _ _) (by k_asm) (by k_mem) (by k_asm) (strKind_is _ _ _ _) (by first | k_asm | exact vOne_get) ?_)))
  k_with "z call builtin:iter" =>
    ((k_here; (with_reducible show wpAny _ _ (call (Value.builtin "iter") [Value.ref _]) _ _ _); k_dflt (refine' iter_list_call (by k_asm) (by k_asm) (by k_mem) (by exact rfl) (by exact rfl) ?_; k_whole); intro zi' zh' zF' zN' zl1; (try k_lt zl1); (try k_sweep)))
  k_with "z getAttr ref" =>
    ((k_here; (with_reducible show wpAny _ _ (getAttr (Value.ref _) (Str.ofString "__next__") true) _ _ _); k_dflt (refine' next_attr (by k_asm) (by k_asm) (by k_mem) ?_; k_whole); intro zi' zh' zF' zN' zl1; (try k_lt zl1); (try k_sweep)))
  k_with "z callWith ref" =>
    ((k_here; (with_reducible show wpAny _ _ (callWith _ (Value.ref _) [] (backTo _ (starEach [] _)) []) _ _ _); k_dflt (refine' callWith_wrap (News.get (by k_asm) (by k_mem)) ?_; k_whole)))
  k_with "z call ref" =>
    ((k_here; (with_reducible show wpAny _ _ (call (Value.ref _) []) _ _ _); k_dflt (first
  | (refine' wrap_item (by k_asm) (by k_asm) (by k_mem) (by k_upd) (by k_mem) (by exact rfl) (by assumption) ?_; k_whole; intro zh' zF' zN'; (try k_sweep))
  | (refine' wrap_end (by exact rfl) (by k_asm) (by k_asm) (by k_mem) (by k_updF) (by k_mem) (by exact rfl) (by assumption) ?_; k_whole; intro zh₁' zh' ze' zo' zF' zN' ztiX'; (try dsimp only at zN')))))
  k_with "z noteFrame ref" =>
    ((k_here; (with_reducible rename Heap.NewExc _ _ _ _ => ztiX'); k_dflt (refine' caughtT (by exact rfl) (by assumption) ztiX' (by k_asm) (by k_asm) (by assumption) (by k_upd) (by assumption) (by assumption) (by decide +kernel) (by decide +kernel) (by decide +kernel) (by decide +kernel) (by decide +kernel) (by exact rfl) (by exact rfl) (by passes_own) ?_; k_whole); clear ztiX'; intro zh' zfrs' zsu' zfr' zhR' zh0' zF' zN'; (try dsimp only at zN')))
  k_with "z compareOp In str ref" =>
    ((k_here; k_dflt (first
  | (refine' set_in_b (by k_asm) (by k_updF) (by k_asm) (by first | assumption | exact Nat.lt_of_succ_lt (by assumption) | kse_small) _ (by assumption) ?_)
  | (refine' kda_in (knd := PySem.strKind _ _) (by k_asm) (by k_mem) (by k_asm) (by k_asm) (strKind_is _ _ _ _) _ (by first | assumption | exact vOne_self | exact vOne_ne (by assumption) | rfl) ?_))))
  k_with "z delItem ref str" =>
    ((k_here; k_dflt (refine' kob_del (knd := PySem.strKind _ _) (by k_asm) (by k_asm) (by k_updF) (by k_asm) (strKind_is _ _ _ _) (by first | exact vOne_self | exact vTwo_self | assumption) (by (rw [sizeLine_eq]; exact Nat.le_of_ble_eq_true rfl)) ?_); intro zh' zo' zF' zN' zhd'; (try dsimp only at zN'); (first | rw [wOne] at zhd' | rw [wTwo (by assumption)] at zhd')))
  k_with "z WhlRest" =>
    (((with_reducible show WhlRest _ _ _ _ _ (PySem.Expr.Constant _ _ _) _ _ _ _ _); refine parked ?_))
  k_with "z truthy ref" =>
    ((k_here; (with_reducible show wpAny _ _ (truthy (Value.ref _)) _ _ _); k_dflt (first
  | (refine' truthyPush (by k_asm) (by k_mem) (by first | exact Nat.zero_le _ | size_fits) ?_)
  | (refine' truthyNil (by k_asm) (by k_mem) ?_)
  | (refine' truthyCons (by k_asm) (by k_mem) (by size_fits) ?_))))
  k_with "z call type:bool" =>
    ((k_here; (with_reducible show wpAny _ _ (call _ [Value.ref _]) _ _ _); k_dflt (refine' boolList (by k_asm) (by k_mem) (by (simp only [List.size_toArray]; assumption)) ?_)))
  k_with "z call type:tuple" =>
    ((k_here; (with_reducible show wpAny _ _ (call (Value.type _) [Value.ref _]) _ _ _); k_dflt (refine' kde_tupleOf (by k_asm) (by k_asm) (by exact News.isList (by k_asm) (by k_mem)) (by first | omega | (simp only [List.size_toArray]; omega)) rfl ?_); intro zD' zh' zF' zN' zl1; (try k_lt zl1)))
  k_with "z call builtin:len" =>
    ((k_here; (with_reducible show wpAny _ _ (call (Value.builtin "len") [Value.ref _]) _ _ _); k_dflt (refine' kun_lenT (by exact News.isTup (by k_asm) (by k_mem)) rfl (by (simp only [List.size_toArray]; omega)) ?_)))
  k_with "z execs cons" =>
    (((try (k_here; k_made)); (try (with_reducible refine tok_cut1 ?_; intro tk; (try dsimp only))); (try k_fold); (with_reducible refine wpAny_execs_cons ?_); (try dsimp only); (try k_fold)))
  k_with "k_conj" =>
    (first | exact c0 (by assumption) | exact c1 (by assumption) | exact c2 (by assumption) | exact c3 (by assumption) | exact c4 (by assumption) | exact c5 (by assumption) | exact c6 (by assumption) | exact c7 (by assumption) | exact c8 (by assumption) | exact c9 (by assumption) | exact c10 (by assumption) | exact c11 (by assumption))
  k_with "z compareOp NotIn str ref" =>
    ((k_here; (with_reducible show wpAny _ _ (compareOp CmpOp.NotIn (Value.str _ _) (Value.ref _)) _ _ _); (with_unfolding_all refine' notin_list_strs (by exact News.isList (by k_asm) (by k_mem)) (by assumption) ?_; k_whole)))
  trivial
noncomputable def addName (acc : List Str) (n : Str) : List Str := if acc.any (· == n) then acc else acc ++ [n]
noncomputable def namesF (ns : List Str) : List Str := ns.foldl addName []
theorem namesF_snoc (ns : List Str) (n : Str) : namesF (ns ++ [n]) = addName (namesF ns) n := by unfold namesF; rw [List.foldl_append]; rfl
theorem strsSnoc {vs : List Value} {ys : List Str} (h : StrsAre vs ys) (x : Str) (t : Tok) : StrsAre (vs ++ [.str x t]) (ys ++ [x]) := by
  induction h with
  | nil => exact .cons _ _ .nil
  | cons y u _ ih => exact .cons _ _ ih
theorem strsLen {vs : List Value} {ys : List Str} (h : StrsAre vs ys) : vs.length = ys.length := by
  induction h with
  | nil => rfl
  | cons y u _ ih => simp [ih]
theorem addName_len (acc : List Str) (n : Str) : (addName acc n).length ≤ acc.length + 1 := by
  unfold addName
  split
  · omega
  · simp
theorem namesF_len (ns : List Str) : (namesF ns).length ≤ ns.length := by
  have go : ∀ (ns acc : List Str), (ns.foldl addName acc).length ≤ acc.length + ns.length := by
    intro ns
    induction ns with
    | nil => intro acc; simp
    | cons n ns ih =>
      intro acc
      have h1 := ih (addName acc n)
      have h2 := addName_len acc n
      rw [List.foldl_cons, List.length_cons]
      omega
  have := go ns []
  rw [List.length_nil, Nat.zero_add] at this
  exact this
theorem law_names {w : World} {mean : ExcName → Option Value} {mg mb : Str → Option Value} {dp un : Nat} {gd : Option (List Code)} {cn : Str} {cs : Scope} {a : Addr} {ccd : Value} {cl : List (Str × Addr)} {outer : List Env} {A₀ : Around} {base h₀ : Heap} {L : Addr} {m : Str → Option Value}
    {news : List (Addr × Obj)} {s : Shared} {Q E : Value → Shared → Prop} (cx : Cx w mean mg mb dp un cs outer A₀ base h₀) (F : Fr h₀ L s.heap m) {lp : Addr} {ps : List Pr} {e : Nat} (hlen : ps.length ≤ 100)
    (N : News h₀ L s.heap news) (hlp : (lp, W.listOf (ps.map Pr.val).toArray e) ∈ news) (hps : ∀ p ∈ ps, p.obj ∈ news)
    (ret : ∀ (ln : Addr) (vs : List Value) (e' : Nat) h' tk', StrsAre vs (namesF (ps.map (·.n))) → Fr h₀ L h' m → News h₀ L h' ((ln, W.listOf vs.toArray e') :: news) → (∀ p ∈ news, p.1 < ln) → Q (.ref ln) { s with heap := h', toks := tk' }) :
    wpAny (model Challenge.rw_mq0328_01.row.prog w) (ktrTop dp un gd cn cs L a ccd cl outer) (call (.ref 176) [.ref lp]) Q E s := by
  obtain ⟨B, X, T, hk, hdp, hu⟩ := cx
  refine wpAny_call ?_
  k_dflt (refine' code_def ?k1 ?k2 ?k3 ?k4 ?k5 ?kA ?kF ?kK ?k6 ?k7 ?k8 ?k9 ?kB ?_ ?c2 ?c3 ?c4 ?c5; (case kA => exact rfl); (case kF => exact rfl); (case kK => assumption); (case k1 => k_asm); (case k2 => k_asm); (case k3 => k_asm); (case k4 => k_asm); (case k5 => k_asm); (case k6 => k_is); (case k7 => k_is); (case k8 => ktr_room); (case k9 => exact BindsTo.of_eq rfl); (case c5 => decide); (case kB => exact locs rfl); (case c2 => exact rfl); (case c3 => exact rfl); (case c4 => exact rfl); k_whole)
  intro g' L' h' FG' F' N' B' X' T'
  (try dsimp only); (try k_fold)
  k_steps
  (rename Fr _ _ _ _ => lF'); (rename News _ _ _ _ => lN')
  obtain ⟨ln, rfl⟩ := nm1 lN'
  have hln : ∀ p ∈ news, p.1 < ln := by assumption
  obtain ⟨m0, em, F0⟩ := frM lF'
  let J1 : Addr → Nat → (Str → Option Value) → List (Addr × Obj) → Prop := fun _ i m' l => ∃ (o1 o2 : Option Value) (vs : List Value) (e : Nat), m' = (fun y => if y = Str.ofString "line" then o1 else if y = Str.ofString "name" then o2 else m0 y) ∧
    StrsAre vs (namesF ((ps.take i).map (·.n))) ∧ l = (ln, W.listOf vs.toArray e) :: news
  refine iter_listInv (by rfl) F0 lN' (.tail _ hlp) rfl rfl J1 ?_ ?_ ?_ ?_
  · rintro _ _ _ _ ⟨o1, o2, vs, e, _, _, rfl⟩
    exact .tail _ hlp
  · intro I _
    refine ⟨none, none, [], 0, ?_, .nil, rfl⟩
    subst em
    funext y
    by_cases h1 : y = Str.ofString "line"
    · subst h1; rfl
    by_cases h2 : y = Str.ofString "name"
    · subst h2; rfl
    simp only [if_neg h1, if_neg h2]
  · intro I hI oI i v m₁ news₁ h₁ tk₁ hvi hj hne hcI F₁ N₁
    obtain ⟨o1, o2, vs, e, rfl, hvs, rfl⟩ := hj
    rw [List.getElem?_map, Option.map_eq_some_iff] at hvi
    obtain ⟨p, hpi, rfl⟩ := hvi
    have hpm := hps p (List.mem_of_getElem? hpi)
    have hi9 : i < ps.length := (List.getElem?_eq_some_iff.mp hpi).1
    have hvl : vs.length ≤ 100 := by
      have h1 := strsLen hvs
      have h2 := namesF_len ((ps.take i).map (·.n))
      rw [List.length_map, List.length_take] at h2
      omega
    subst em
    clear lN' F0 lF'
    have N₂ := News.sub (l' := (I, oI) :: (ln, W.listOf vs.toArray e) :: (p.ad, ⟨.type "tuple", none, .seq #[.str p.l p.lk, .str p.n p.nk] 0, #[]⟩) :: news) N₁ (consSub (consSub (subC (hpm) (fun _ hq => hq))))
    have hI9 : ln ≠ I := hne _ (.head _)
    have hp9 : p.ad ≠ ln := Nat.ne_of_lt (hln _ hpm)
    have hn9 : ∀ q ∈ news, q.1 ≠ ln := fun q hq => Nat.ne_of_lt (hln q hq)
    have hz5 : vs.toArray.size ≤ 1000 := by rw [List.size_toArray]; omega
    have hnx : namesF ((ps.take (i + 1)).map (·.n)) = addName (namesF ((ps.take i).map (·.n))) p.n := by
      rw [takeN_snoc hpi, List.map_append, ← namesF_snoc]; rfl
    clear N₁
    show wpAny _ _ (assign _ _ (.ref p.ad)) _ _ _
    k_steps
    · rename List.any _ _ = true => hany
      rename News _ _ _ _ => N9
      have e1 : namesF ((ps.take (i + 1)).map (·.n)) = namesF ((ps.take i).map (·.n)) := by rw [hnx]; exact if_pos hany
      refine' unrEnd' (by k_asm) (News.sub N9 (consSub (consSub (fun q hq => .tail _ hq)))) (fun q hq => hne q hq) ⟨some (.str p.l p.lk), some (.str p.n p.nk), vs, e, ?hmA, by rw [e1]; exact hvs, rfl⟩
      case hmA =>
        funext y
        by_cases h1 : y = Str.ofString "line"
        · subst h1; rfl
        by_cases h2 : y = Str.ofString "name"
        · subst h2; rfl
        simp only [if_neg h1, if_neg h2]
    · rename List.any _ _ = false => hany
      rename News _ _ _ _ => N9
      rw [List.push_toArray] at N9
      have e1 : namesF ((ps.take (i + 1)).map (·.n)) = namesF ((ps.take i).map (·.n)) ++ [p.n] := by rw [hnx]; exact if_neg (by rw [hany]; exact Bool.false_ne_true)
      refine' unrEnd' (by k_asm) (News.sub N9 (consSub (consSub (fun q hq => .tail _ hq)))) (fun q hq => ?hoB) ⟨some (.str p.l p.lk), some (.str p.n p.nk), vs ++ [.str p.n p.nk], e + 1, ?hmB, by rw [e1]; exact strsSnoc hvs _ _, rfl⟩
      case hoB =>
        rcases List.mem_cons.mp hq with rfl | hq
        · exact hI9
        · exact hne q (.tail _ hq)
      case hmB =>
        funext y
        by_cases h1 : y = Str.ofString "line"
        · subst h1; rfl
        by_cases h2 : y = Str.ofString "name"
        · subst h2; rfl
        simp only [if_neg h1, if_neg h2]
  · intro I h' tk m' news' F' N' hj
    obtain ⟨o1, o2, vs, e, rfl, hvs, rfl⟩ := hj
    subst em
    clear lN' F0 lF'
    rw [List.length_map, List.take_length] at hvs
    k_steps
    exact ret ln vs e _ _ hvs (by k_asm) (by k_asm) hln
end
section
theorem kw19 : True := by
  w_top off
  k_with_none
  k_with "z getMethod ref" =>
    ((k_here; (with_reducible show wpAny _ _ (getMethod (Value.ref _) (Str.ofString "get") _) _ _ _); k_dflt (refine kdg_method (knd := PySem.strKind _ _) (by k_asm) (by k_mem) (by k_asm) ?_)))
  k_with "z call builtin:dict.get" =>
    ((k_here; k_dflt (refine kdg_get1 (knd := PySem.strKind _ _) (by k_asm) (by k_mem) (by k_asm) (by k_asm) (strKind_is _ _ _ _) _ (by k_asm) ?_); (try dsimp only [Option.getD])))
  k_with "z setItem ref str" =>
    ((k_here; k_dflt (refine' kda_set (knd := PySem.strKind _ _) (by k_asm) (by k_asm) (by k_updF) (by k_asm) (strKind_is _ _ _ _) (by (simp only [List.length_append, List.length_cons, List.length_nil, sizeLine_eq]; omega)) ?_); intro zh' zo' zF' zN' zhd'; (try dsimp only at zN'); (try first | rw [stored_nil] at zhd' | rw [stored_one (by assumption)] at zhd' | rw [stored_new _ _ _ (by assumption)] at zhd')))
  k_with "z exec For Name Name cons nil" =>
    ((k_here; (rename Fr _ _ _ _ => zlF'); (with_unfolding_all refine' For_turns zlF' ?_; k_whole)))
  k_with "z exec For Name Attribute cons nil" =>
    ((k_here; (rename Fr _ _ _ _ => zlF'); (with_unfolding_all refine' For_turns zlF' ?_; k_whole)))
  k_with "z exec For Name Call cons nil" =>
    ((k_here; (rename Fr _ _ _ _ => zlF'); (with_unfolding_all refine' For_turns zlF' ?_; k_whole)))
  k_with "z exec For Tuple Name cons nil" =>
    ((k_here; (rename Fr _ _ _ _ => zlF'); (with_unfolding_all refine' For_turns zlF' ?_; k_whole)))
  k_with "z exec For Name BinOp cons nil" =>
    ((k_here; (rename Fr _ _ _ _ => zlF'); (with_unfolding_all refine' For_turns zlF' ?_; k_whole)))
  k_with "z pyIter ref" =>
    ((k_here; (with_reducible show wpAny _ _ (pyIter (Value.ref _)) (fun it s₂ => TurnsAt _ _ _ _ _ _ _ _ _ it s₂) _ _); (rename Fr _ _ _ _ => zlF'); (rename News _ _ _ _ => zlN'); (with_unfolding_all refine iter_tup1 (by rfl) zlF' zlN' (by k_mem) (by rfl) (by rfl) ?_); clear zlF' zlN'; intro zi' zo' zh' ztk' zl1 zF' zN'; (try k_lt zl1)))
  k_with "z OneP" =>
    ((dsimp only [OneP]))
  k_with "z One" =>
    ((k_here; (k_dflt (refine' One.intro (by k_asm) (by k_asm) (by k_upd) (by k_mem) ?_; k_whole)); intro zh' ztk' zF' zN'))
  k_with "z subscriptTail" =>
    ((k_here; (with_reducible show wpAny _ _ (subscriptTail _ _ (Value.ref _) (Value.str _ _)) _ _ _); k_dflt (refine kda_item (knd := PySem.strKind _ _) (by k_asm) (by k_mem) (by k_asm) (strKind_is _ _ _ _) (by first | k_asm | exact vOne_get) ?_)))
  k_with "z call builtin:iter" =>
    ((k_here; (with_reducible show wpAny _ _ (call (Value.builtin "iter") [Value.ref _]) _ _ _); k_dflt (refine' iter_list_call (by k_asm) (by k_asm) (by k_mem) (by exact rfl) (by exact rfl) ?_; k_whole); intro zi' zh' zF' zN' zl1; (try k_lt zl1); (try k_sweep)))
  k_with "z getAttr ref" =>
    ((k_here; (with_reducible show wpAny _ _ (getAttr (Value.ref _) (Str.ofString "__next__") true) _ _ _); k_dflt (refine' next_attr (by k_asm) (by k_asm) (by k_mem) ?_; k_whole); intro zi' zh' zF' zN' zl1; (try k_lt zl1); (try k_sweep)))
  k_with "z callWith ref" =>
    ((k_here; (with_reducible show wpAny _ _ (callWith _ (Value.ref _) [] (backTo _ (starEach [] _)) []) _ _ _); k_dflt (refine' callWith_wrap (News.get (by k_asm) (by k_mem)) ?_; k_whole)))
  k_with "z call ref" =>
    ((k_here; (with_reducible show wpAny _ _ (call (Value.ref _) []) _ _ _); k_dflt (first
  | (refine' wrap_item (by k_asm) (by k_asm) (by k_mem) (by k_upd) (by k_mem) (by exact rfl) (by assumption) ?_; k_whole; intro zh' zF' zN'; (try k_sweep))
  | (refine' wrap_end (by exact rfl) (by k_asm) (by k_asm) (by k_mem) (by k_updF) (by k_mem) (by exact rfl) (by assumption) ?_; k_whole; intro zh₁' zh' ze' zo' zF' zN' ztiX'; (try dsimp only at zN')))))
  k_with "z noteFrame ref" =>
    ((k_here; (with_reducible rename Heap.NewExc _ _ _ _ => ztiX'); k_dflt (refine' caughtT (by exact rfl) (by assumption) ztiX' (by k_asm) (by k_asm) (by assumption) (by k_upd) (by assumption) (by assumption) (by decide +kernel) (by decide +kernel) (by decide +kernel) (by decide +kernel) (by decide +kernel) (by exact rfl) (by exact rfl) (by passes_own) ?_; k_whole); clear ztiX'; intro zh' zfrs' zsu' zfr' zhR' zh0' zF' zN'; (try dsimp only at zN')))
  k_with "z compareOp In str ref" =>
    ((k_here; k_dflt (first
  | (refine' set_in_b (by k_asm) (by k_updF) (by k_asm) (by first | assumption | exact Nat.lt_of_succ_lt (by assumption) | kse_small) _ (by assumption) ?_)
  | (refine' kda_in (knd := PySem.strKind _ _) (by k_asm) (by k_mem) (by k_asm) (by k_asm) (strKind_is _ _ _ _) _ (by first | assumption | exact vOne_self | exact vOne_ne (by assumption) | rfl) ?_))))
  k_with "z delItem ref str" =>
    ((k_here; k_dflt (refine' kob_del (knd := PySem.strKind _ _) (by k_asm) (by k_asm) (by k_updF) (by k_asm) (strKind_is _ _ _ _) (by first | exact vOne_self | exact vTwo_self | assumption) (by (rw [sizeLine_eq]; exact Nat.le_of_ble_eq_true rfl)) ?_); intro zh' zo' zF' zN' zhd'; (try dsimp only at zN'); (first | rw [wOne] at zhd' | rw [wTwo (by assumption)] at zhd')))
  k_with "z WhlRest" =>
    (((with_reducible show WhlRest _ _ _ _ _ (PySem.Expr.Constant _ _ _) _ _ _ _ _); refine parked ?_))
  k_with "z truthy ref" =>
    ((k_here; (with_reducible show wpAny _ _ (truthy (Value.ref _)) _ _ _); k_dflt (first
  | (refine' truthyPush (by k_asm) (by k_mem) (by first | exact Nat.zero_le _ | size_fits) ?_)
  | (refine' truthyNil (by k_asm) (by k_mem) ?_)
  | (refine' truthyCons (by k_asm) (by k_mem) (by size_fits) ?_))))
  k_with "z call type:bool" =>
    ((k_here; (with_reducible show wpAny _ _ (call _ [Value.ref _]) _ _ _); k_dflt (refine' boolList (by k_asm) (by k_mem) (by (simp only [List.size_toArray]; assumption)) ?_)))
  k_with "z call type:tuple" =>
    ((k_here; (with_reducible show wpAny _ _ (call (Value.type _) [Value.ref _]) _ _ _); k_dflt (refine' kde_tupleOf (by k_asm) (by k_asm) (by exact News.isList (by k_asm) (by k_mem)) (by first | omega | (simp only [List.size_toArray]; omega)) rfl ?_); intro zD' zh' zF' zN' zl1; (try k_lt zl1)))
  k_with "z call builtin:len" =>
    ((k_here; (with_reducible show wpAny _ _ (call (Value.builtin "len") [Value.ref _]) _ _ _); k_dflt (refine' kun_lenT (by exact News.isTup (by k_asm) (by k_mem)) rfl (by (simp only [List.size_toArray]; omega)) ?_)))
  k_with "z execs cons" =>
    (((try (k_here; k_made)); (try (with_reducible refine tok_cut1 ?_; intro tk; (try dsimp only))); (try k_fold); (with_reducible refine wpAny_execs_cons ?_); (try dsimp only); (try k_fold)))
  k_with "k_conj" =>
    (first | exact c0 (by assumption) | exact c1 (by assumption) | exact c2 (by assumption) | exact c3 (by assumption) | exact c4 (by assumption) | exact c5 (by assumption) | exact c6 (by assumption) | exact c7 (by assumption) | exact c8 (by assumption) | exact c9 (by assumption) | exact c10 (by assumption) | exact c11 (by assumption))
  k_with "z compareOp Eq ref ref" =>
    ((k_here; (with_reducible show wpAny _ _ (compareOp CmpOp.Eq (Value.ref _) (Value.ref _)) _ _ _); refine parked ?_))
  k_with "z compareOp NotIn ref ref" =>
    ((k_here; (with_reducible show wpAny _ _ (compareOp CmpOp.NotIn (Value.ref _) (Value.ref _)) _ _ _); refine parked ?_))
  k_with "z subscriptTail" =>
    ((k_here; (with_reducible show wpAny _ _ (subscriptTail _ _ (Value.ref _) (Value.int _ _)) _ _ _); (with_unfolding_all refine' itemAt (by k_asm) (by k_mem) (by assumption) (by assumption) ?_; k_whole)))
  trivial
noncomputable def Pr.dat (p : Pr) : Dat := .tuple [.str p.l, .str p.n]
theorem prDat {news : List (Addr × Obj)} {p : Pr} (h : p.obj ∈ news) : DatIn news p.val p.dat := .tuple (vs := [.str p.l p.lk, .str p.n p.nk]) (n := 0) h (.cons (.str _ _) (.cons (.str _ _) .nil))
theorem prDats {news : List (Addr × Obj)} : ∀ {ps : List Pr}, (∀ p ∈ ps, p.obj ∈ news) → DatAll news (ps.map Pr.val) (ps.map Pr.dat)
  | [], _ => .nil
  | p :: ps, h => .cons (prDat (h p (.head _))) (prDats fun q hq => h q (.tail _ hq))
theorem strsDat {news : List (Addr × Obj)} {vs : List Value} {ys : List Str} (h : StrsAre vs ys) : DatAll news vs (ys.map Dat.str) := by
  induction h with
  | nil => exact .nil
  | cons y t _ ih => exact .cons (.str _ _) ih
def okS (x : Str) : Prop := PyData.strOk x = true
theorem okDats {ys : List Str} (h : ∀ y ∈ ys, okS y) : ∀ d ∈ ys.map Dat.str, kqdOk 8 d = true := fun d hd => by
  obtain ⟨y, hy, rfl⟩ := List.mem_map.mp hd
  exact h y hy
theorem okPr {p : Pr} (h1 : okS p.l) (h2 : okS p.n) : kqdOk 8 p.dat = true := by
  unfold okS at h1 h2
  simp [Pr.dat, kqdOk, h1, h2]
section
variable {prog : Program} {w : World} {A : Around} {E : Value → Shared → Prop} {s : Shared} {env : Env} {h₀ : Heap} {body : List Stmt} {Q : Flow → Shared → Prop}
theorem iter_rangeInv {tx : Str} {tpos : Pos} {ax r : Addr} {lo : Obj} {n : Nat} {t u v₁ : Tok} {m₀ : Str → Option Value} {news : List (Addr × Obj)}
    (hh : A.handled = none) (F : Fr h₀ env.locals s.heap m₀) (N : News h₀ env.locals s.heap news) (hm : (ax, lo) ∈ news) (hr : IsRange s.heap r 0 (n : Int) 1 t u v₁) (hn : n ≤ 1000)
    (J : Addr → Nat → (Str → Option Value) → List (Addr × Obj) → Prop) (hJ : ∀ I i m l, J I i m l → (ax, lo) ∈ l) (h0 : ∀ I, (∀ p ∈ news, p.1 < I) → J I 0 m₀ news)
    (step : ∀ I, (∀ p ∈ news, p.1 < I) → ∀ oI i tk m₁ news₁ h₁ tk₁, i < n → J I i m₁ news₁ → (∀ p ∈ news₁, p.1 ≠ I) → oI.cls = .type "range_iterator" → Fr h₀ env.locals h₁ m₁ → News h₀ env.locals h₁ ((I, oI) :: news₁) →
      wpAny (model prog w) A (assign (.Name tx tpos) env (.int (i : Int) tk)) (fun _ s₃ => wpAny (model prog w) A (execs body env) (UnrPost h₀ env.locals { s with heap := h₁, toks := tk₁ } I oI (J I (i + 1)) Q) E s₃) E { s with heap := h₁, toks := tk₁ })
    (fin : ∀ I h' tk m' news', Fr h₀ env.locals h' m' → News h₀ env.locals h' news' → J I n m' news' → Q .next { s with heap := h', toks := tk }) :
    wpAny (model prog w) A (pyIter (.ref r)) (fun it s₂ => TurnsAt prog w A h₀ env (.Name tx tpos) body Q E it s₂) E s := by
  have hax := N _ hm
  have hlts : ∀ p ∈ news, p.1 < s.heap.objs.size := fun p hp => Heap.lt_size (N p hp).1
  have hsz : Builtin.Range.rangeSize 0 (n : Int) 1 = (n : Int) := by
    unfold Builtin.Range.rangeSize
    simp
    omega
  refine wpAny_pyIter_range hr (small_one (by omega) (by omega) (by omega) (by omega)) ?_
  refine turns_inv (T := "range_iterator") (ax := ax) (n := n) (tk0 := s.toks) (lo := lo) (KTurns.ofWalks (target := .Name tx tpos) (Walks.mono_fp (Walks.range (prog := prog) (w := w) hh s.heap.objs.size 0 1 n) (fun b hb => by rw [List.mem_singleton.mp hb]; exact .head _)) fun i v s Q E st q => wpAny_pure q) ?_ (next_is_new F) (fun e => absurd F.ns.lt (e ▸ Nat.lt_irrefl _)) hax.2.1.symm (fun p hp => Nat.ne_of_lt (hlts p hp)) ?_ (F.push _) (fun p hp => ⟨Heap.get?_push_of_some _ (N p hp).1, (N p hp).2⟩) (J s.heap.objs.size) (hJ _) (h0 _ hlts) ?_ (fin _)
  · intro i h st
    exact ⟨_, st, rfl⟩
  · rw [hsz]
    simpa using Heap.get?_push_size _ rfl
  · intro oI i v m₁ news₁ h₁ tk₁ hin hPi
    obtain ⟨tk, rfl⟩ := hPi
    rw [show (0 : Int) + (i : Int) * 1 = (i : Int) by omega]
    exact step _ hlts oI i tk m₁ news₁ h₁ tk₁ hin
end
theorem itemAt {prog : Program} {w : World} {A : Around} {E : Value → Shared → Prop} {s : Shared} {value slice : PySem.Expr} {l : Addr} {h₀ : Heap} {L : Addr} {news : List (Addr × Obj)} {n i : Nat} {u : Tok} {vs : List Value} {v : Value} {Q : Value → Shared → Prop}
    (N : News h₀ L s.heap news) (hm : (l, W.listOf vs.toArray n) ∈ news) (hx : vs[i]? = some v) (hi : i < 2 ^ 62) (h : Q v s)
    (hs : subscripted slice false (.ref l) (.int (i : Int) u) = operate [.ref l, .int (i : Int) u] (getItem (.ref l) (.int (i : Int) u)) := by with_unfolding_all rfl) : wpAny (model prog w) A (subscriptTail value slice (.ref l) (.int (i : Int) u)) Q E s := by
  have hl : s.heap.IsList l vs.toArray := ⟨_, (N _ hm).1, rfl, n, rfl⟩
  exact tail_any hl.typeIs slot_list_getitem.lookup (wpAny_getItem_list hl (by omega) (by omega) (by simpa using hx) h) hs
/-- what the place k gives for the name n -/
noncomputable def dueAt (n : Str) (ps : List Pr) (k : Nat) : List Str := match ps[k]? with
  | some p => if p.n = n ∧ p.two ∉ (ps.drop (k + 1)).map Pr.two then [p.l] else []
  | none => []
noncomputable def dueUp (n : Str) (ps : List Pr) : Nat → List Str
  | 0 => []
  | k + 1 => dueUp n ps k ++ dueAt n ps k
noncomputable def dueF (fs : List Str) (ps : List Pr) : List Str := fs.flatMap fun n => dueUp n ps ps.length
theorem dueAt_yes {n : Str} {ps : List Pr} {k : Nat} {p : Pr} (hk : ps[k]? = some p) (h1 : p.n = n) (h2 : p.two ∉ (ps.drop (k + 1)).map Pr.two) : dueAt n ps k = [p.l] := by
  unfold dueAt
  rw [hk]
  exact if_pos ⟨h1, h2⟩
theorem dueAt_no1 {n : Str} {ps : List Pr} {k : Nat} {p : Pr} (hk : ps[k]? = some p) (h1 : ¬ p.n = n) : dueAt n ps k = [] := by
  unfold dueAt
  rw [hk]
  exact if_neg fun h => h1 h.1
theorem dueAt_no2 {n : Str} {ps : List Pr} {k : Nat} {p : Pr} (hk : ps[k]? = some p) (h2 : p.two ∈ (ps.drop (k + 1)).map Pr.two) : dueAt n ps k = [] := by
  unfold dueAt
  rw [hk]
  exact if_neg fun h => h.2 h2
theorem dat_in {p : Pr} {qs : List Pr} : p.dat ∈ qs.map Pr.dat ↔ p.two ∈ qs.map Pr.two := by
  simp only [List.mem_map]
  constructor
  · rintro ⟨q, hq, e⟩
    refine ⟨q, hq, ?_⟩
    simp [Pr.dat] at e
    simp [Pr.two, e]
  · rintro ⟨q, hq, e⟩
    refine ⟨q, hq, ?_⟩
    simp [Pr.two] at e
    simp [Pr.dat, e]
theorem strsGet {vs : List Value} {ys : List Str} (h : StrsAre vs ys) : ∀ {i : Nat} {v : Value}, vs[i]? = some v → ∃ y t, ys[i]? = some y ∧ v = .str y t := by
  induction h with
  | nil => intro i v h; simp at h
  | cons y t _ ih =>
    intro i v hv
    cases i with
    | zero => simp at hv; exact ⟨y, t, rfl, hv.symm⟩
    | succ i => simpa using ih (i := i) (v := v) (by simpa using hv)
/-- a string at a place of the strings' values -/
inductive StrAt (ys : List Str) (i : Nat) : Value → Prop
  | mk (y : Str) (t : Tok) (hy : ys[i]? = some y) : StrAt ys i (.str y t)
theorem strAt {vs : List Value} {ys : List Str} (h : StrsAre vs ys) {i : Nat} {v : Value} (hv : vs[i]? = some v) : StrAt ys i v := by
  obtain ⟨y, t, hy, rfl⟩ := strsGet h hv
  exact ⟨y, t, hy⟩
/-- a pair at a place of the pairs' values -/
inductive PrAt (ps : List Pr) (i : Nat) : Value → Prop
  | mk (p : Pr) (hp : ps[i]? = some p) : PrAt ps i (.ref p.ad)
theorem prAt {ps : List Pr} {i : Nat} {v : Value} (h : (ps.map Pr.val)[i]? = some v) : PrAt ps i v := by
  rw [List.getElem?_map, Option.map_eq_some_iff] at h
  obtain ⟨p, hp, rfl⟩ := h
  exact ⟨p, hp⟩
theorem dueUp_len (n : Str) (ps : List Pr) : ∀ k, (dueUp n ps k).length ≤ k
  | 0 => Nat.le_refl _
  | k + 1 => by
    have h1 := dueUp_len n ps k
    have h2 : (dueAt n ps k).length ≤ 1 := by
      unfold dueAt
      split
      · split <;> simp
      · simp
    show (dueUp n ps k ++ dueAt n ps k).length ≤ k + 1
    rw [List.length_append]
    omega
theorem dueF_len (ps : List Pr) : ∀ fs : List Str, (dueF fs ps).length ≤ fs.length * ps.length
  | [] => by simp [dueF]
  | n :: fs => by
    have h1 := dueF_len ps fs
    have h2 := dueUp_len n ps ps.length
    show (dueUp n ps ps.length ++ dueF fs ps).length ≤ _
    rw [List.length_append, List.length_cons, Nat.succ_mul]
    omega
theorem dueF_snoc (fs : List Str) (n : Str) (ps : List Pr) : dueF (fs ++ [n]) ps = dueF fs ps ++ dueUp n ps ps.length := by unfold dueF; rw [List.flatMap_append]; simp
theorem law_due {w : World} {mean : ExcName → Option Value} {mg mb : Str → Option Value} {dp un : Nat} {gd : Option (List Code)} {cn : Str} {cs : Scope} {a : Addr} {ccd : Value} {cl : List (Str × Addr)} {outer : List Env} {A₀ : Around} {base h₀ : Heap} {L : Addr} {m : Str → Option Value}
    {news : List (Addr × Obj)} {s : Shared} {Q E : Value → Shared → Prop} (cx : Cx w mean mg mb dp un cs outer A₀ base h₀) (F : Fr h₀ L s.heap m) {lp lf : Addr} {ps : List Pr} {fv : List Value} {fs : List Str} {e ef : Nat} (hlen : ps.length ≤ 20) (hfl : fs.length ≤ 20) (hfs : StrsAre fv fs)
    (hok1 : ∀ p ∈ ps, okS p.l ∧ okS p.n) (hok2 : ∀ y ∈ fs, okS y)
    (N : News h₀ L s.heap news) (hlp : (lp, W.listOf (ps.map Pr.val).toArray e) ∈ news) (hlf : (lf, W.listOf fv.toArray ef) ∈ news) (hps : ∀ p ∈ ps, p.obj ∈ news)
    (ret0 : fs = [] → ∀ (R : Addr) (e' : Nat) h' tk', Fr h₀ L h' m → News h₀ L h' ((R, W.listOf #[] e') :: news) → Q (.ref R) { s with heap := h', toks := tk' })
    (ret1 : fs ≠ [] → ∀ (R T1 T2 : Addr) (sv : List Value) (e' : Nat) h' tk', StrsAre sv (dueF fs ps) → Fr h₀ L h' m → News h₀ L h' ((R, W.listOf #[.ref T1, .ref T2] e') :: (T2, ⟨.type "tuple", none, .seq sv.toArray 0, #[]⟩) :: (T1, ⟨.type "tuple", none, .seq fv.toArray 0, #[]⟩) :: news) → Q (.ref R) { s with heap := h', toks := tk' }) :
    wpAny (model Challenge.rw_mq0328_01.row.prog w) (ktrTop dp un gd cn cs L a ccd cl outer) (call (.ref 183) [.ref lp, .ref lf]) Q E s := by
  obtain ⟨B, X, T, hk, hdp, hu⟩ := cx
  refine wpAny_call ?_
  k_dflt (refine' code_def ?k1 ?k2 ?k3 ?k4 ?k5 ?kA ?kF ?kK ?k6 ?k7 ?k8 ?k9 ?kB ?_ ?c2 ?c3 ?c4 ?c5; (case kA => exact rfl); (case kF => exact rfl); (case kK => assumption); (case k1 => k_asm); (case k2 => k_asm); (case k3 => k_asm); (case k4 => k_asm); (case k5 => k_asm); (case k6 => k_is); (case k7 => k_is); (case k8 => ktr_room); (case k9 => exact BindsTo.of_eq rfl); (case c5 => decide); (case kB => exact locs rfl); (case c2 => exact rfl); (case c3 => exact rfl); (case c4 => exact rfl); k_whole)
  intro g' L' h' FG' F' N' B' X' T'
  (try dsimp only); (try k_fold)
  k_steps
  unfold Parked
  (rename Fr _ _ _ _ => lF'); (rename News _ _ _ _ => lN')
  have hhu : un + 3 + 64 < cLine := by omega
  refine kqd_eq lN' (.tail _ hlf) rfl rfl (strsDat hfs) (fun _ h => h) (.head _) rfl rfl .nil (fun _ h => h) (okDats hok2) (fun d hd => nomatch hd) hhu ?_
  by_cases hf0 : fs = []
  · subst hf0
    simp only [List.map_nil, decide_true]
    k_steps
    exact ret0 rfl _ _ _ _ (by k_asm) (News.sub (by k_asm) (consSub fun q hq => .tail _ hq))
  · rw [show decide (fs.map Dat.str = []) = false from decide_eq_false fun h => hf0 (List.map_eq_nil_iff.mp h)]
    k_steps
    (rename Fr _ _ _ _ => lF2); (rename News _ _ _ _ => lN2)
    obtain ⟨sc, rfl⟩ := nm1 lN2
    obtain ⟨m0, em, F0⟩ := frM lF2
    rename (∀ p ∈ news, p.1 < _) => hR0
    have hsc : ∀ p ∈ news, p.1 < sc := fun p hp => by
      have h1 := ltN (hR0 p hp)
      refine ltN ?_
      omega
    have hf20 : fv.length ≤ 20 := by rw [strsLen hfs]; exact hfl
    have lN3 := News.sub lN2 (consSub (fun q hq => .tail _ hq))
    let J1 : Addr → Nat → (Str → Option Value) → List (Addr × Obj) → Prop := fun _ i m' l => ∃ (o1 o2 : Option Value) (sv : List Value) (e : Nat), m' = (fun y => if y = Str.ofString "name" then o1 else if y = Str.ofString "k" then o2 else m0 y) ∧
      StrsAre sv (dueF (fs.take i) ps) ∧ l = (sc, W.listOf sv.toArray e) :: news
    refine iter_listInv (by rfl) F0 lN3 (.tail _ hlf) rfl rfl J1 ?_ ?_ ?_ ?_
    · rintro _ _ _ _ ⟨o1, o2, vs, e, _, _, rfl⟩
      exact .tail _ hlf
    · intro I _
      refine ⟨none, none, [], 0, ?_, .nil, rfl⟩
      subst em
      funext y
      by_cases h1 : y = Str.ofString "name"
      · subst h1; rfl
      by_cases h2 : y = Str.ofString "k"
      · subst h2; rfl
      simp only [if_neg h1, if_neg h2]
    · intro I hI oI i v m₁ news₁ h₁ tk₁ hvi hj hne hcI F₁ N₁
      obtain ⟨o1, o2, sv, e2, rfl, hsv, rfl⟩ := hj
      obtain ⟨fn, ft, hfi, rfl⟩ : ∃ x t, fs[i]? = some x ∧ v = .str x t := strsGet hfs hvi
      subst em
      clear lF2 lN2 lN3 F0
      have hi20 : i < fs.length := (List.getElem?_eq_some_iff.mp hfi).1
      have hIsc : sc ≠ I := hne _ (.head _)
      have hlpsc : lp ≠ sc := Nat.ne_of_lt (hsc _ hlp)
      have hnsc : ∀ q ∈ news, q.1 ≠ sc := fun q hq => Nat.ne_of_lt (hsc q hq)
      have N₂ := News.sub (l' := (I, oI) :: (sc, W.listOf sv.toArray e2) :: (lp, W.listOf (ps.map Pr.val).toArray e) :: news) N₁ (consSub (consSub (subC (hlp) (fun _ hq => hq))))
      clear N₁
      have hz5 : (ps.map Pr.val).toArray.size ≤ 1000 := by simp only [List.size_toArray, List.length_map]; omega
      k_steps
      rename IsRange _ _ _ _ _ _ _ _ => hR
      (rename Fr _ _ _ _ => F3); (rename News _ _ _ _ => N3)
      simp only [List.size_toArray, List.length_map] at hR
      obtain ⟨m1, em1, F4⟩ := frM F3
      have hps20 : ps.length ≤ 1000 := by omega
      let J2 : Addr → Nat → (Str → Option Value) → List (Addr × Obj) → Prop := fun _ k m' l => ∃ (o2 : Option Value) (sv2 : List Value) (e3 : Nat), m' = (fun y => if y = Str.ofString "k" then o2 else m1 y) ∧
        StrsAre sv2 (dueF (fs.take i) ps ++ dueUp fn ps k) ∧ l = (I, oI) :: (sc, W.listOf sv2.toArray e3) :: (lp, W.listOf (ps.map Pr.val).toArray e) :: news
      refine iter_rangeInv (n := ps.length) (by rfl) F4 N3 (.tail _ (.tail _ (.head _))) hR hps20 J2 ?_ ?_ ?_ ?_
      · rintro _ _ _ _ ⟨o2, sv2, e3, _, _, rfl⟩
        exact .tail _ (.tail _ (.head _))
      · intro I2 _
        refine ⟨o2, sv, e2, ?_, by rw [show dueUp fn ps 0 = [] from rfl, List.append_nil]; exact hsv, rfl⟩
        subst em1
        funext y
        by_cases h2 : y = Str.ofString "k"
        · subst h2; rfl
        simp only [if_neg h2]
      · intro I2 hI2 oI2 kk tk2 m₂ news₂ h₂ tk₂ hkk hj2 hne2 hcI2 F₂ N₂
        obtain ⟨o2', sv2, e3, rfl, hsv2, rfl⟩ := hj2
        subst em1
        clear F3 N3 F4 hR F₁
        obtain ⟨p, hpk⟩ : ∃ p, ps[kk]? = some p := ⟨ps[kk], List.getElem?_eq_getElem hkk⟩
        have hpm := hps p (List.mem_of_getElem? hpk)
        have hx9 : (ps.map Pr.val)[kk]? = some (.ref p.ad) := by rw [List.getElem?_map, hpk]; rfl
        have hk62 : kk < 2 ^ 62 := by omega
        have N₄ := News.sub (l' := (I2, oI2) :: (I, oI) :: (sc, W.listOf sv2.toArray e3) :: (lp, W.listOf (ps.map Pr.val).toArray e) :: (p.ad, ⟨.type "tuple", none, .seq #[.str p.l p.lk, .str p.n p.nk] 0, #[]⟩) :: news) N₂ (consSub (consSub (consSub (consSub (subC (hpm) (fun _ hq => hq))))))
        clear N₂
        have hI2sc : sc ≠ I2 := hne2 _ (.tail _ (.head _))
        have hpsc : p.ad ≠ sc := Nat.ne_of_lt (hsc _ hpm)
        have hsv400 : sv2.toArray.size ≤ 1000 := by
          rw [List.size_toArray, strsLen hsv2, List.length_append]
          have h1 := dueF_len ps (fs.take i)
          have h2 := dueUp_len fn ps kk
          have h3 : (fs.take i).length ≤ 20 := by rw [List.length_take]; omega
          have h4 : (fs.take i).length * ps.length ≤ 20 * 20 := Nat.mul_le_mul h3 hlen
          omega
        have hhu2 : un + 3 + 64 < cLine := by omega
        have esl : slicePick (ps.map Pr.val).toArray (some ((kk : Int) + 1)) none none = ((ps.drop (kk + 1)).map Pr.val).toArray := by
          rw [show ((kk : Int) + 1) = ((kk + 1 : Nat) : Int) by omega, slicePick_from']
          simp [List.map_drop]
        k_steps
        · unfold Parked
          rename (p.n == fn) = true => hpn
          have hpn' : p.n = fn := by simpa using hpn
          (rename Fr _ _ _ _ => F5); (rename News _ _ _ _ => N5)
          simp only [esl] at N5
          refine kqd_notIn N5 (.head _) rfl rfl (prDats (news := news) (ps := ps.drop (kk + 1)) fun q hq => hps q (List.mem_of_mem_drop hq)) (fun _ h => .tail _ (.tail _ (.tail _ (.tail _ (.tail _ (.tail _ h)))))) (prDat hpm) (fun _ h => .tail _ (.tail _ (.tail _ (.tail _ (.tail _ (.tail _ h)))))) (fun d hd => ?_) (okPr (hok1 p (List.mem_of_getElem? hpk)).1 (hok1 p (List.mem_of_getElem? hpk)).2) hhu2 ?_
          · obtain ⟨q, hq, rfl⟩ := List.mem_map.mp hd
            have := hok1 q (List.mem_of_mem_drop hq)
            exact okPr this.1 this.2
          have N6 := News.sub N5 (fun q hq => .tail _ hq)
          clear N5
          by_cases hin : p.two ∈ (ps.drop (kk + 1)).map Pr.two
          · simp only [dat_in.mpr hin, decide_true, Bool.not_true]
            k_steps
            rename News _ _ _ _ => N9
            refine' unrEnd' (by k_asm) (News.sub N9 (consSub (consSub (consSub (consSub (fun q hq => .tail _ hq)))))) (fun q hq => hne2 q hq) ⟨some (.int (kk : Int) tk2), sv2, e3, ?hmA, ?hsA, rfl⟩
            case hsA =>
              show StrsAre sv2 (_ ++ (dueUp fn ps kk ++ dueAt fn ps kk))
              rw [dueAt_no2 hpk hin, List.append_nil]; exact hsv2
            case hmA =>
              funext y
              by_cases h2 : y = Str.ofString "k"
              · subst h2; rfl
              simp only [if_neg h2]

          · simp only [show ¬ p.dat ∈ (ps.drop (kk + 1)).map Pr.dat from fun h => hin (dat_in.mp h), decide_false, Bool.not_false]
            k_steps
            rename News _ _ _ _ => N9
            rw [List.push_toArray] at N9
            refine' unrEnd' (by k_asm) (News.sub N9 (consSub (consSub (consSub (consSub (fun q hq => .tail _ hq)))))) (fun q hq => ?hoB) ⟨some (.int (kk : Int) tk2), sv2 ++ [.str p.l p.lk], e3 + 1, ?hmB, ?hsB, rfl⟩
            case hoB =>
              rcases List.mem_cons.mp hq with rfl | hq
              · exact hne2 _ (.head _)
              rcases List.mem_cons.mp hq with rfl | hq
              · exact hI2sc
              · exact hne2 q (.tail _ (.tail _ hq))
            case hsB =>
              show StrsAre _ (_ ++ (dueUp fn ps kk ++ dueAt fn ps kk))
              rw [dueAt_yes hpk hpn' hin, ← List.append_assoc]; exact strsSnoc hsv2 _ _
            case hmB =>
              funext y
              by_cases h2 : y = Str.ofString "k"
              · subst h2; rfl
              simp only [if_neg h2]

        · rename (p.n == fn) = false => hpn
          have hpn' : ¬ p.n = fn := by simpa using hpn
          rename News _ _ _ _ => N9
          refine' unrEnd' (by k_asm) (News.sub N9 (consSub (consSub (consSub (consSub (fun q hq => .tail _ hq)))))) (fun q hq => hne2 q hq) ⟨some (.int (kk : Int) tk2), sv2, e3, ?hmC, ?hsC, rfl⟩
          case hsC =>
            show StrsAre sv2 (_ ++ (dueUp fn ps kk ++ dueAt fn ps kk))
            rw [dueAt_no1 hpk hpn', List.append_nil]; exact hsv2
          case hmC =>
            funext y
            by_cases h2 : y = Str.ofString "k"
            · subst h2; rfl
            simp only [if_neg h2]

      · intro I2 h3 tk3 m3 news3 F3' N3' hj3
        obtain ⟨o2', sv2, e3, rfl, hsv2, rfl⟩ := hj3
        subst em1
        clear F3 N3 F4 hR F₁
        k_steps
        rename News _ _ _ _ => N9
        refine' unrEnd' (by k_asm) (News.sub N9 (consSub (consSub (fun q hq => .tail _ hq)))) (fun q hq => ?hoD) ⟨some (.str fn ft), o2', sv2, e3, ?hmD, ?hsD, rfl⟩
        case hoD =>
          rcases List.mem_cons.mp hq with rfl | hq
          · exact hIsc
          · exact hne q (.tail _ hq)
        case hsD => rw [takeN_snoc hfi, dueF_snoc]; exact hsv2
        case hmD =>
          funext y
          by_cases h1 : y = Str.ofString "name"
          · subst h1; rfl
          by_cases h2 : y = Str.ofString "k"
          · subst h2; rfl
          simp only [if_neg h1, if_neg h2]
    · intro I h9 tk9 m9 news9 F9 N9 hj
      obtain ⟨o1, o2, sv, e2, rfl, hsv, rfl⟩ := hj
      subst em
      clear lF2 lN2 lN3 F0
      rw [strsLen hfs, List.take_length] at hsv
      have hsv400 : sv.length ≤ 1000 := by
        rw [strsLen hsv]
        have h1 := dueF_len ps fs
        have h4 : fs.length * ps.length ≤ 20 * 20 := Nat.mul_le_mul hfl hlen
        omega
      have N₂ := News.sub (l' := (sc, W.listOf sv.toArray e2) :: (lf, W.listOf fv.toArray ef) :: news) N9 (consSub (subC (hlf) (fun _ hq => hq)))
      clear N9
      k_steps
      exact ret1 hf0 _ _ _ sv _ _ _ hsv (by k_asm) (News.sub (by k_asm) (consSub (consSub (consSub fun q hq => .tail _ (.tail _ hq)))))
end
section
-- plain
noncomputable def keysF (ps : List (Str × Str)) : List Str := ps.foldl (fun acc p => addName (addName acc p.1) p.2) []
theorem keysF_snoc (ps : List (Str × Str)) (p : Str × Str) : keysF (ps ++ [p]) = addName (addName (keysF ps) p.1) p.2 := by unfold keysF; rw [List.foldl_append]; rfl
theorem mem_addName {acc : List Str} {n k : Str} : k ∈ addName acc n ↔ k ∈ acc ∨ k = n := by
  unfold addName
  by_cases h : acc.any (· == n) = true
  · rw [if_pos h]
    rw [List.any_eq_true] at h
    obtain ⟨y, hy, e⟩ := h
    have e' : y = n := by simpa using e
    constructor
    · exact .inl
    · rintro (h | rfl)
      · exact h
      · exact e' ▸ hy
  · rw [if_neg h]; simp
theorem addName_mem {acc : List Str} {n : Str} (h : n ∈ acc) : addName acc n = acc := if_pos (List.any_eq_true.mpr ⟨n, h, by simp⟩)
theorem addName_not {acc : List Str} {n : Str} (h : n ∉ acc) : addName acc n = acc ++ [n] := if_neg fun e => by
  obtain ⟨y, hy, e'⟩ := List.any_eq_true.mp e
  have : y = n := by simpa using e'
  exact h (this ▸ hy)
theorem addName_nodup {acc : List Str} {n : Str} (h : acc.Nodup) : (addName acc n).Nodup := by
  by_cases hm : n ∈ acc
  · rw [addName_mem hm]; exact h
  · rw [addName_not hm, List.nodup_append]
    exact ⟨h, by simp, fun a ha b hb e => hm (by rw [List.mem_singleton] at hb; rw [← hb, ← e]; exact ha)⟩
theorem fold_nodup : ∀ (ps : List (Str × Str)) (acc : List Str), acc.Nodup → (ps.foldl (fun acc p => addName (addName acc p.1) p.2) acc).Nodup
  | [], _, h => h
  | p :: ps, acc, h => fold_nodup ps _ (addName_nodup (addName_nodup h))
theorem keysF_nodup (ps : List (Str × Str)) : (keysF ps).Nodup := fold_nodup ps [] List.nodup_nil
theorem mem_fold : ∀ (ps : List (Str × Str)) (acc : List Str) (k : Str), k ∈ ps.foldl (fun acc p => addName (addName acc p.1) p.2) acc ↔ k ∈ acc ∨ ∃ p ∈ ps, p.1 = k ∨ p.2 = k
  | [], acc, k => by simp
  | p :: ps, acc, k => by
    rw [List.foldl_cons, mem_fold ps, mem_addName, mem_addName]
    constructor
    · rintro (((h | h) | h) | ⟨q, hq, h⟩)
      · exact .inl h
      · exact .inr ⟨p, .head _, .inl h.symm⟩
      · exact .inr ⟨p, .head _, .inr h.symm⟩
      · exact .inr ⟨q, .tail _ hq, h⟩
    · rintro (h | ⟨q, hq, h⟩)
      · exact .inl (.inl (.inl h))
      · rcases List.mem_cons.mp hq with rfl | hq
        · rcases h with h | h
          · exact .inl (.inl (.inr h.symm))
          · exact .inl (.inr h.symm)
        · exact .inr ⟨q, hq, h⟩
theorem mem_keysF {ps : List (Str × Str)} {k : Str} : k ∈ keysF ps ↔ ∃ p ∈ ps, p.1 = k ∨ p.2 = k := by
  unfold keysF
  rw [mem_fold]
  simp
theorem keysF_len (ps : List (Str × Str)) : (keysF ps).length ≤ 2 * ps.length := by
  have go : ∀ (ps : List (Str × Str)) (acc : List Str), (ps.foldl (fun acc p => addName (addName acc p.1) p.2) acc).length ≤ acc.length + 2 * ps.length := by
    intro ps
    induction ps with
    | nil => intro acc; simp
    | cons p ps ih =>
      intro acc
      have h1 := ih (addName (addName acc p.1) p.2)
      have h2 := addName_len (addName acc p.1) p.2
      have h3 := addName_len acc p.1
      rw [List.foldl_cons, List.length_cons]
      omega
  have := go ps []
  rw [List.length_nil, Nat.zero_add] at this
  exact this
noncomputable def cnt (ps : List (Str × Str)) (k : Str) : Nat := (ps.filter fun p => decide (p.1 = k)).length
noncomputable def linesOf (ps : List (Str × Str)) (k : Str) : List Str := (ps.filter fun p => decide (p.2 = k)).map (·.1)
theorem cnt_snoc (ps : List (Str × Str)) (p : Str × Str) (k : Str) : cnt (ps ++ [p]) k = cnt ps k + if p.1 = k then 1 else 0 := by
  unfold cnt
  rw [List.filter_append, List.length_append]
  by_cases h : p.1 = k <;> simp [h]
theorem linesOf_snoc (ps : List (Str × Str)) (p : Str × Str) (k : Str) : linesOf (ps ++ [p]) k = linesOf ps k ++ if p.2 = k then [p.1] else [] := by
  unfold linesOf
  rw [List.filter_append, List.map_append]
  by_cases h : p.2 = k <;> simp [h]
theorem cnt_zero {ps : List (Str × Str)} {k : Str} (h : k ∉ keysF ps) : cnt ps k = 0 := by
  unfold cnt
  rw [List.length_eq_zero_iff, List.filter_eq_nil_iff]
  intro p hp e
  exact h (mem_keysF.mpr ⟨p, hp, .inl (by simpa using e)⟩)
theorem linesOf_nil {ps : List (Str × Str)} {k : Str} (h : k ∉ keysF ps) : linesOf ps k = [] := by
  unfold linesOf
  rw [List.map_eq_nil_iff, List.filter_eq_nil_iff]
  intro p hp e
  exact h (mem_keysF.mpr ⟨p, hp, .inr (by simpa using e)⟩)
/-- the nodes are the graph of the pairs -/
structure G (ps : List (Str × Str)) (ns : List Nd) : Prop where
  keys : ns.map (·.key) = keysF ps
  np : ∀ nd ∈ ns, nd.np = (cnt ps nd.key : Int)
  su : ∀ nd ∈ ns, StrsAre nd.su (linesOf ps nd.key)
theorem led_in {ns : List Nd} {rest : List (Addr × Obj)} (hs : Sep (ledN ns ++ rest)) {nd : Nd} (h : nd ∈ ns) : nd.a ≠ nd.d ∧ nd.a ≠ nd.s ∧ nd.d ≠ nd.s ∧ ∀ p ∈ nd.led, ∀ q ∈ rest, q.1 ≠ p.1 := by
  obtain ⟨pre, post, rfl⟩ := List.append_of_mem h
  unfold Sep at hs
  rw [ledN_app, ledN_cons, List.append_assoc, List.map_append, List.nodup_append] at hs
  obtain ⟨_, h2, _⟩ := hs
  simp only [List.cons_append, List.map_cons, List.nodup_cons, List.mem_cons, not_or] at h2
  obtain ⟨⟨h3, h4, h5⟩, ⟨h6, h7⟩, h8, _⟩ := h2
  refine ⟨h3, h4, h6, fun p hp q hq e => ?_⟩
  have hq' : p.1 ∈ List.map (fun x => x.1) (ledN post ++ rest) := by
    rw [← e, List.map_append]
    exact List.mem_append_right _ (List.mem_map_of_mem (f := (·.1)) hq)
  rcases List.mem_cons.mp hp with rfl | hp
  · exact h5 hq'
  rcases List.mem_cons.mp hp with rfl | hp
  · exact h7 hq'
  rcases List.mem_cons.mp hp with rfl | hp
  · exact h8 hq'
  · exact nomatch hp
theorem valueAt_none {ns : List Nd} {k : Str} (h : k ∉ ns.map (·.key)) : valueAt (kvsN ns) k = none := by
  unfold valueAt
  rw [Option.map_eq_none_iff, List.find?_eq_none]
  intro p hp e
  obtain ⟨nd, hm, rfl⟩ := List.mem_map.mp hp
  exact h (List.mem_map.mpr ⟨nd, hm, by simpa using e⟩)
theorem Sep.ins {l1 l2 e : List (Addr × Obj)} (h : Sep (l1 ++ l2)) (he : Sep e) (hn : ∀ p ∈ l1 ++ l2, ∀ q ∈ e, p.1 ≠ q.1) : Sep (l1 ++ (e ++ l2)) := by
  have h2 : ((e ++ (l1 ++ l2)).map (·.1)).Nodup := by
    rw [List.map_append, List.nodup_append]
    refine ⟨he, h, fun a ha b hb => ?_⟩
    obtain ⟨q, hq, rfl⟩ := List.mem_map.mp ha
    obtain ⟨p, hp, rfl⟩ := List.mem_map.mp hb
    exact (hn p hp q hq).symm
  have hp : (e ++ (l1 ++ l2)).Perm (l1 ++ (e ++ l2)) := by
    rw [← List.append_assoc, ← List.append_assoc]
    exact List.Perm.append_right _ List.perm_append_comm
  exact (hp.map _).nodup_iff.mp h2
end
section
theorem kw21 : True := by
  w_top off
  k_with_none
  k_with "z getMethod ref" =>
    ((k_here; (with_reducible show wpAny _ _ (getMethod (Value.ref _) (Str.ofString "get") _) _ _ _); k_dflt (refine kdg_method (knd := PySem.strKind _ _) (by k_asm) (by k_mem) (by k_asm) ?_)))
  k_with "z call builtin:dict.get" =>
    ((k_here; k_dflt (refine kdg_get1 (knd := PySem.strKind _ _) (by k_asm) (by k_mem) (by k_asm) (by k_asm) (strKind_is _ _ _ _) _ (by k_asm) ?_); (try dsimp only [Option.getD])))
  k_with "z setItem ref str" =>
    ((k_here; k_dflt (refine' kda_set (knd := PySem.strKind _ _) (by k_asm) (by k_asm) (by k_updF) (by k_asm) (strKind_is _ _ _ _) (by (simp only [List.length_append, List.length_cons, List.length_nil, sizeLine_eq]; omega)) ?_); intro zh' zo' zF' zN' zhd'; (try dsimp only at zN'); (try first | rw [stored_nil] at zhd' | rw [stored_one (by assumption)] at zhd' | rw [stored_new _ _ _ (by assumption)] at zhd')))
  k_with "z exec For Name Name cons nil" =>
    ((k_here; (rename Fr _ _ _ _ => zlF'); (with_unfolding_all refine' For_turns zlF' ?_; k_whole)))
  k_with "z exec For Name Attribute cons nil" =>
    ((k_here; (rename Fr _ _ _ _ => zlF'); (with_unfolding_all refine' For_turns zlF' ?_; k_whole)))
  k_with "z exec For Name Call cons nil" =>
    ((k_here; (rename Fr _ _ _ _ => zlF'); (with_unfolding_all refine' For_turns zlF' ?_; k_whole)))
  k_with "z exec For Tuple Name cons nil" =>
    ((k_here; (rename Fr _ _ _ _ => zlF'); (with_unfolding_all refine' For_turns zlF' ?_; k_whole)))
  k_with "z exec For Name BinOp cons nil" =>
    ((k_here; (rename Fr _ _ _ _ => zlF'); (with_unfolding_all refine' For_turns zlF' ?_; k_whole)))
  k_with "z pyIter ref" =>
    ((k_here; (with_reducible show wpAny _ _ (pyIter (Value.ref _)) (fun it s₂ => TurnsAt _ _ _ _ _ _ _ _ _ it s₂) _ _); (rename Fr _ _ _ _ => zlF'); (rename News _ _ _ _ => zlN'); (with_unfolding_all refine iter_tup1 (by rfl) zlF' zlN' (by k_mem) (by rfl) (by rfl) ?_); clear zlF' zlN'; intro zi' zo' zh' ztk' zl1 zF' zN'; (try k_lt zl1)))
  k_with "z OneP" =>
    ((dsimp only [OneP]))
  k_with "z One" =>
    ((k_here; (k_dflt (refine' One.intro (by k_asm) (by k_asm) (by k_upd) (by k_mem) ?_; k_whole)); intro zh' ztk' zF' zN'))
  k_with "z subscriptTail" =>
    ((k_here; (with_reducible show wpAny _ _ (subscriptTail _ _ (Value.ref _) (Value.str _ _)) _ _ _); k_dflt (refine kda_item (knd := PySem.strKind _ _) (by k_asm) (by k_mem) (by k_asm) (strKind_is _ _ _ _) (by first | k_asm | exact vOne_get) ?_)))
  k_with "z call builtin:iter" =>
    ((k_here; (with_reducible show wpAny _ _ (call (Value.builtin "iter") [Value.ref _]) _ _ _); k_dflt (refine' iter_list_call (by k_asm) (by k_asm) (by k_mem) (by exact rfl) (by exact rfl) ?_; k_whole); intro zi' zh' zF' zN' zl1; (try k_lt zl1); (try k_sweep)))
  k_with "z getAttr ref" =>
    ((k_here; (with_reducible show wpAny _ _ (getAttr (Value.ref _) (Str.ofString "__next__") true) _ _ _); k_dflt (refine' next_attr (by k_asm) (by k_asm) (by k_mem) ?_; k_whole); intro zi' zh' zF' zN' zl1; (try k_lt zl1); (try k_sweep)))
  k_with "z callWith ref" =>
    ((k_here; (with_reducible show wpAny _ _ (callWith _ (Value.ref _) [] (backTo _ (starEach [] _)) []) _ _ _); k_dflt (refine' callWith_wrap (News.get (by k_asm) (by k_mem)) ?_; k_whole)))
  k_with "z call ref" =>
    ((k_here; (with_reducible show wpAny _ _ (call (Value.ref _) []) _ _ _); k_dflt (first
  | (refine' wrap_item (by k_asm) (by k_asm) (by k_mem) (by k_upd) (by k_mem) (by exact rfl) (by assumption) ?_; k_whole; intro zh' zF' zN'; (try k_sweep))
  | (refine' wrap_end (by exact rfl) (by k_asm) (by k_asm) (by k_mem) (by k_updF) (by k_mem) (by exact rfl) (by assumption) ?_; k_whole; intro zh₁' zh' ze' zo' zF' zN' ztiX'; (try dsimp only at zN')))))
  k_with "z noteFrame ref" =>
    ((k_here; (with_reducible rename Heap.NewExc _ _ _ _ => ztiX'); k_dflt (refine' caughtT (by exact rfl) (by assumption) ztiX' (by k_asm) (by k_asm) (by assumption) (by k_upd) (by assumption) (by assumption) (by decide +kernel) (by decide +kernel) (by decide +kernel) (by decide +kernel) (by decide +kernel) (by exact rfl) (by exact rfl) (by passes_own) ?_; k_whole); clear ztiX'; intro zh' zfrs' zsu' zfr' zhR' zh0' zF' zN'; (try dsimp only at zN')))
  k_with "z compareOp In str ref" =>
    ((k_here; k_dflt (first
  | (refine' set_in_b (by k_asm) (by k_updF) (by k_asm) (by first | assumption | exact Nat.lt_of_succ_lt (by assumption) | kse_small) _ (by assumption) ?_)
  | (refine' kda_in (knd := PySem.strKind _ _) (by k_asm) (by k_mem) (by k_asm) (by k_asm) (strKind_is _ _ _ _) _ (by first | assumption | exact vOne_self | exact vOne_ne (by assumption) | rfl) ?_))))
  k_with "z delItem ref str" =>
    ((k_here; k_dflt (refine' kob_del (knd := PySem.strKind _ _) (by k_asm) (by k_asm) (by k_updF) (by k_asm) (strKind_is _ _ _ _) (by first | exact vOne_self | exact vTwo_self | assumption) (by (rw [sizeLine_eq]; exact Nat.le_of_ble_eq_true rfl)) ?_); intro zh' zo' zF' zN' zhd'; (try dsimp only at zN'); (first | rw [wOne] at zhd' | rw [wTwo (by assumption)] at zhd')))
  k_with "z WhlRest" =>
    (((with_reducible show WhlRest _ _ _ _ _ (PySem.Expr.Constant _ _ _) _ _ _ _ _); refine parked ?_))
  k_with "z truthy ref" =>
    ((k_here; (with_reducible show wpAny _ _ (truthy (Value.ref _)) _ _ _); k_dflt (first
  | (refine' truthyPush (by k_asm) (by k_mem) (by first | exact Nat.zero_le _ | size_fits) ?_)
  | (refine' truthyNil (by k_asm) (by k_mem) ?_)
  | (refine' truthyCons (by k_asm) (by k_mem) (by size_fits) ?_))))
  k_with "z call type:bool" =>
    ((k_here; (with_reducible show wpAny _ _ (call _ [Value.ref _]) _ _ _); k_dflt (refine' boolList (by k_asm) (by k_mem) (by (simp only [List.size_toArray]; assumption)) ?_)))
  k_with "z call type:tuple" =>
    ((k_here; (with_reducible show wpAny _ _ (call (Value.type _) [Value.ref _]) _ _ _); k_dflt (refine' kde_tupleOf (by k_asm) (by k_asm) (by exact News.isList (by k_asm) (by k_mem)) (by first | omega | (simp only [List.size_toArray]; omega)) rfl ?_); intro zD' zh' zF' zN' zl1; (try k_lt zl1)))
  k_with "z call builtin:len" =>
    ((k_here; (with_reducible show wpAny _ _ (call (Value.builtin "len") [Value.ref _]) _ _ _); k_dflt (refine' kun_lenT (by exact News.isTup (by k_asm) (by k_mem)) rfl (by (simp only [List.size_toArray]; omega)) ?_)))
  k_with "z execs cons" =>
    (((try (k_here; k_made)); (try (with_reducible refine tok_cut1 ?_; intro tk; (try dsimp only))); (try k_fold); (with_reducible refine wpAny_execs_cons ?_); (try dsimp only); (try k_fold)))
  k_with "k_conj" =>
    (first | exact c0 (by assumption) | exact c1 (by assumption) | exact c2 (by assumption) | exact c3 (by assumption) | exact c4 (by assumption) | exact c5 (by assumption) | exact c6 (by assumption) | exact c7 (by assumption) | exact c8 (by assumption) | exact c9 (by assumption) | exact c10 (by assumption) | exact c11 (by assumption))
  k_with "z call ref" =>
    ((k_here; (with_reducible show wpAny _ _ (call (Value.ref 80) _) _ _ _); refine parked ?_))
  trivial
theorem sep3 {x dx d : Addr} {o1 o2 o3 : Obj} {l : List (Addr × Obj)} (h : Sep ((x, o1) :: (dx, o2) :: (d, o3) :: l)) :
    x ≠ dx ∧ x ≠ d ∧ dx ≠ d ∧ (∀ p ∈ l, p.1 ≠ x) ∧ (∀ p ∈ l, p.1 ≠ dx) ∧ (∀ p ∈ l, p.1 ≠ d) ∧ Sep l := by
  obtain ⟨a1, h⟩ := Sep.cons_iff.mp h
  obtain ⟨a2, h⟩ := Sep.cons_iff.mp h
  obtain ⟨a3, h⟩ := Sep.cons_iff.mp h
  exact ⟨Ne.symm (a1 _ (.head _)), Ne.symm (a1 _ (.tail _ (.head _))), Ne.symm (a2 _ (.head _)), fun p hp => a1 p (.tail _ (.tail _ hp)), fun p hp => a2 p (.tail _ hp), a3, h⟩
theorem node_of {ps : List (Str × Str)} {ns : List Nd} (g : G ps ns) {k : Str} (h : k ∈ keysF ps) : ∃ nd ∈ ns, nd.key = k := by
  rw [← g.keys] at h
  obtain ⟨nd, hm, e⟩ := List.mem_map.mp h
  exact ⟨nd, hm, e⟩
theorem key_ne {ps : List (Str × Str)} {ns : List Nd} (g : G ps ns) {k : Str} (h : k ∉ keysF ps) : ∀ nd ∈ ns, nd.key ≠ k := fun nd hm e => h (by rw [← g.keys]; exact List.mem_map.mpr ⟨nd, hm, e⟩)
theorem G.nodup {ps : List (Str × Str)} {ns : List Nd} (g : G ps ns) : (ns.map (·.key)).Nodup := by rw [g.keys]; exact keysF_nodup ps
theorem sep_add {x dx d : Addr} {o1 o2 o3 o4 : Obj} {A B new : List Nd} {rest : List (Addr × Obj)} (h : Sep ((x, o1) :: (dx, o2) :: (d, o3) :: (ledN A ++ rest))) (e : (ledN B).map (·.1) = (ledN A).map (·.1)) (hn : Sep (ledN new)) {b : Addr} (hb : ∀ q ∈ ledN new, b ≤ q.1)
    (hl : ∀ p ∈ (x, o1) :: (dx, o2) :: (d, o3) :: (ledN A ++ rest), p.1 < b) : Sep ((x, o1) :: (dx, o2) :: (d, o4) :: (ledN (B ++ new) ++ rest)) := by
  have eq1 : ((x, o1) :: (dx, o2) :: (d, o4) :: (ledN B ++ rest)).map (·.1) = ((x, o1) :: (dx, o2) :: (d, o3) :: (ledN A ++ rest)).map (·.1) := by
    simp only [List.map_cons, List.map_append, e]
  have h1 : Sep (((x, o1) :: (dx, o2) :: (d, o4) :: ledN B) ++ rest) := h.of_eq eq1
  rw [ledN_app, List.append_assoc]
  exact Sep.ins (l1 := (x, o1) :: (dx, o2) :: (d, o4) :: ledN B) (l2 := rest) h1 hn fun p hp q hq => Nat.ne_of_lt (Nat.lt_of_lt_of_le (below_of hl eq1 p hp) (hb q hq))
theorem sep_one {k : Str} {kt : Tok} {a d s : Addr} {np : Int} {nt : Tok} {su : List Value} {ep : Nat} (h1 : d < a) (h2 : a < s) : Sep (ledN [⟨k, kt, a, d, s, np, nt, su, ep⟩]) := by
  have h3 : d < s := Nat.lt_trans h1 h2
  unfold Sep ledN Nd.led
  simp only [List.flatMap_cons, List.flatMap_nil, List.append_nil, List.map_cons, List.map_nil, List.nodup_cons, List.mem_cons, List.not_mem_nil, or_false, not_or, not_false_eq_true, List.nodup_nil, and_true]
  exact ⟨⟨Nat.ne_of_gt h1, Nat.ne_of_lt h2⟩, Nat.ne_of_lt h3⟩
theorem linesOf_len (ps : List (Str × Str)) (k : Str) : (linesOf ps k).length ≤ ps.length := by
  unfold linesOf
  rw [List.length_map]
  exact List.length_filter_le _ _
theorem cnt_le (ps : List (Str × Str)) (k : Str) : cnt ps k ≤ ps.length := List.length_filter_le _ _
theorem focusA {pre post : List Nd} {nd : Nd} {rest : List (Addr × Obj)} (hs : Sep (ledN (pre ++ nd :: post) ++ rest)) :
    ∃ R : List (Addr × Obj), (∀ p ∈ R, p.1 ≠ nd.a) ∧ (nd.d, dictOf [] 0) ∈ R ∧ (∀ p ∈ rest, p ∈ R) ∧ (∀ p ∈ (nd.a, nd.info) :: R, p ∈ ledN (pre ++ nd :: post) ++ rest) ∧ ∀ z t, ∀ p ∈ ledN (pre ++ nd.set z t :: post) ++ rest, p ∈ (nd.a, infoO nd.d nd.s z t nd.key nd.kt) :: R := by
  obtain ⟨R, h1, _, _, h4, _, h6, h7⟩ := focus hs
  refine ⟨R, h1, h4, fun p hp => ?_, h6, h7⟩
  rcases List.mem_cons.mp (h7 nd.np nd.nt p (List.mem_append_right _ hp)) with rfl | h
  · exact absurd rfl ((led_in hs (List.mem_append_right _ (.head _) : nd ∈ pre ++ nd :: post)).2.2.2 (nd.a, nd.info) (.head _) _ hp)
  · exact h
noncomputable def Nd.lay (nd : Nd) (su : List Value) (ep : Nat) : Nd := { nd with su := su, ep := ep }
theorem focusS {pre post : List Nd} {nd : Nd} {rest : List (Addr × Obj)} (hs : Sep (ledN (pre ++ nd :: post) ++ rest)) :
    ∃ R : List (Addr × Obj), (∀ p ∈ R, p.1 ≠ nd.s) ∧ (nd.a, nd.info) ∈ R ∧ (nd.d, dictOf [] 0) ∈ R ∧ (∀ p ∈ (nd.s, nd.lst) :: R, p ∈ ledN (pre ++ nd :: post) ++ rest) ∧ ∀ su ep, ∀ p ∈ ledN (pre ++ nd.lay su ep :: post) ++ rest, p ∈ (nd.s, W.listOf su.toArray ep) :: R := by
  refine ⟨ledN pre ++ ((nd.a, nd.info) :: (nd.d, dictOf [] 0) :: (ledN post ++ rest)), ?_, List.mem_append_right _ (.head _), List.mem_append_right _ (.tail _ (.head _)), ?_, ?_⟩
  · intro p hp e
    have hm : nd ∈ pre ++ nd :: post := List.mem_append_right _ (.head _)
    have h2 : Sep ((nd.s, nd.lst) :: (ledN pre ++ ((nd.a, nd.info) :: (nd.d, dictOf [] 0) :: (ledN post ++ rest)))) := by
      unfold Sep at *
      refine (List.Perm.nodup_iff ?_).mp hs
      rw [ledN_app, ledN_cons]
      refine List.Perm.map _ ?_
      rw [List.append_assoc]
      have h3 : ∀ (A : List (Addr × Obj)) (u v w : Addr × Obj) (B : List (Addr × Obj)), (A ++ (u :: v :: w :: B)).Perm (w :: (A ++ (u :: v :: B))) := fun A u v w B => by
        have h4 : (A ++ (u :: v :: w :: B)).Perm (A ++ (w :: u :: v :: B)) := List.Perm.append_left _ (((List.Perm.swap w v B).cons u).trans (List.Perm.swap w u (v :: B)))
        exact h4.trans List.perm_middle
      exact h3 _ _ _ _ _
    exact (Sep.cons_iff.mp h2).1 p hp e
  · intro p hp
    rw [ledN_app, ledN_cons, List.append_assoc]
    rcases List.mem_cons.mp hp with rfl | hp
    · exact List.mem_append_right _ (.tail _ (.tail _ (.head _)))
    rcases List.mem_append.mp hp with hp | hp
    · exact List.mem_append_left _ hp
    rcases List.mem_cons.mp hp with rfl | hp
    · exact List.mem_append_right _ (.head _)
    rcases List.mem_cons.mp hp with rfl | hp
    · exact List.mem_append_right _ (.tail _ (.head _))
    · exact List.mem_append_right _ (.tail _ (.tail _ (.tail _ hp)))
  · intro su ep p hp
    rw [ledN_app, ledN_cons, List.append_assoc] at hp
    rcases List.mem_append.mp hp with hp | hp
    · exact .tail _ (List.mem_append_left _ hp)
    rcases List.mem_cons.mp hp with rfl | hp
    · exact .tail _ (List.mem_append_right _ (.head _))
    rcases List.mem_cons.mp hp with rfl | hp
    · exact .tail _ (List.mem_append_right _ (.tail _ (.head _)))
    rcases List.mem_cons.mp hp with rfl | hp
    · exact .head _
    · exact .tail _ (List.mem_append_right _ (.tail _ (.tail _ hp)))
/-- what the nodes say: the keys, the counts, the lists -/
structure GF (ns : List Nd) (ks : List Str) (c : Str → Nat) (l : Str → List Str) : Prop where
  keys : ns.map (·.key) = ks
  np : ∀ nd ∈ ns, nd.np = (c nd.key : Int)
  su : ∀ nd ∈ ns, StrsAre nd.su (l nd.key)
/-- a call of _get_nodeinfo leaves the old nodes, or one more -/
def Got (ns new : List Nd) (nd : Nd) : Prop := new = [] ∨ (nd.key ∉ ns.map (·.key) ∧ new = [nd] ∧ nd.np = 0 ∧ nd.su = [])
theorem GF.got {ns new : List Nd} {nd : Nd} {ks : List Str} {c : Str → Nat} {l : Str → List Str} (g : GF ns ks c l) (hm : nd ∈ ns ++ new) (h : Got ns new nd) (h0 : nd.key ∉ ks → c nd.key = 0 ∧ l nd.key = []) : GF (ns ++ new) (addName ks nd.key) c l := by
  rcases h with rfl | ⟨h1, rfl, h2, h3⟩
  · rw [List.append_nil] at *
    have : nd.key ∈ ks := by rw [← g.keys]; exact List.mem_map_of_mem hm
    rw [addName_mem this]
    exact g
  · rw [g.keys] at h1
    obtain ⟨hc, hl⟩ := h0 h1
    refine ⟨by rw [List.map_append, g.keys, addName_not h1]; rfl, fun x hx => ?_, fun x hx => ?_⟩
    · rcases List.mem_append.mp hx with hx | hx
      · exact g.np x hx
      · rw [List.mem_singleton.mp hx, h2, hc]; rfl
    · rcases List.mem_append.mp hx with hx | hx
      · exact g.su x hx
      · rw [List.mem_singleton.mp hx, h3, hl]; exact .nil
theorem GF.inc {pre post : List Nd} {nd : Nd} {ks : List Str} {c : Str → Nat} {l : Str → List Str} (g : GF (pre ++ nd :: post) ks c l) (hn : ks.Nodup) (t : Tok) : GF (pre ++ nd.set (nd.np + 1) t :: post) ks (fun k => c k + if nd.key = k then 1 else 0) l := by
  have hk : ((pre ++ nd :: post).map (·.key)).Nodup := by rw [g.keys]; exact hn
  rw [List.map_append, List.map_cons, List.nodup_append] at hk
  obtain ⟨_, k2, k3⟩ := hk
  rw [List.nodup_cons] at k2
  have e : (pre ++ nd.set (nd.np + 1) t :: post).map (·.key) = (pre ++ nd :: post).map (·.key) := by rw [List.map_append, List.map_append]; rfl
  have old : ∀ x ∈ pre ++ nd :: post, nd.key ≠ x.key → x.np = ((c x.key + if nd.key = x.key then 1 else 0 : Nat) : Int) := fun x hx h => by rw [if_neg h, Nat.add_zero]; exact g.np x hx
  refine ⟨e.trans g.keys, fun x hx => ?_, fun x hx => ?_⟩
  · rcases List.mem_append.mp hx with hx | hx
    · exact old x (List.mem_append_left _ hx) (fun h => k3 _ (List.mem_map_of_mem hx) _ (.head _) h.symm)
    rcases List.mem_cons.mp hx with rfl | hx
    · have := g.np nd (List.mem_append_right _ (.head _))
      show nd.np + 1 = ((c nd.key + if nd.key = nd.key then 1 else 0 : Nat) : Int)
      rw [if_pos rfl, this]; rfl
    · exact old x (List.mem_append_right _ (.tail _ hx)) (fun h => k2.1 (h ▸ List.mem_map_of_mem (f := (·.key)) hx))
  · rcases List.mem_append.mp hx with hx | hx
    · exact g.su x (List.mem_append_left _ hx)
    rcases List.mem_cons.mp hx with rfl | hx
    · exact g.su nd (List.mem_append_right _ (.head _))
    · exact g.su x (List.mem_append_right _ (.tail _ hx))
theorem GF.lay {pre post : List Nd} {nd : Nd} {ks : List Str} {c : Str → Nat} {l : Str → List Str} (g : GF (pre ++ nd :: post) ks c l) (hn : ks.Nodup) (y : Str) (t : Tok) (ep : Nat) : GF (pre ++ nd.lay (nd.su ++ [.str y t]) ep :: post) ks c (fun k => l k ++ if nd.key = k then [y] else []) := by
  have hk : ((pre ++ nd :: post).map (·.key)).Nodup := by rw [g.keys]; exact hn
  rw [List.map_append, List.map_cons, List.nodup_append] at hk
  obtain ⟨_, k2, k3⟩ := hk
  rw [List.nodup_cons] at k2
  have e : (pre ++ nd.lay (nd.su ++ [.str y t]) ep :: post).map (·.key) = (pre ++ nd :: post).map (·.key) := by rw [List.map_append, List.map_append]; rfl
  have old : ∀ x ∈ pre ++ nd :: post, nd.key ≠ x.key → StrsAre x.su (l x.key ++ if nd.key = x.key then [y] else []) := fun x hx h => by rw [if_neg h, List.append_nil]; exact g.su x hx
  refine ⟨e.trans g.keys, fun x hx => ?_, fun x hx => ?_⟩
  · rcases List.mem_append.mp hx with hx | hx
    · exact g.np x (List.mem_append_left _ hx)
    rcases List.mem_cons.mp hx with rfl | hx
    · exact g.np nd (List.mem_append_right _ (.head _))
    · exact g.np x (List.mem_append_right _ (.tail _ hx))
  · rcases List.mem_append.mp hx with hx | hx
    · exact old x (List.mem_append_left _ hx) (fun h => k3 _ (List.mem_map_of_mem hx) _ (.head _) h.symm)
    rcases List.mem_cons.mp hx with rfl | hx
    · show StrsAre (nd.su ++ [.str y t]) (l nd.key ++ if nd.key = nd.key then [y] else [])
      rw [if_pos rfl]
      exact strsSnoc (g.su nd (List.mem_append_right _ (.head _))) y t
    · exact old x (List.mem_append_right _ (.tail _ hx)) (fun h => k2.1 (h ▸ List.mem_map_of_mem (f := (·.key)) hx))
section
variable {w : World} {mean : ExcName → Option Value} {mg mb : Str → Option Value} {dp un : Nat} {gd : Option (List Code)} {cn : Str} {cs : Scope} {a : Addr} {ccd : Value} {cl : List (Str × Addr)} {outer : List Env} {A₀ : Around} {base h₀ : Heap} {L : Addr} {m : Str → Option Value}
    {rest : List (Addr × Obj)} {s : Shared} {Q E : Value → Shared → Prop}
theorem gn_ (cx : Cx w mean mg mb dp un cs outer A₀ base h₀) (F : Fr h₀ L s.heap m)
    {x dx d : Addr} {t1 t2 t3 t4 tk1 : Tok} {np nf : Value} {od : Obj} {ns : List Nd} {line : Str}
    (N : News h₀ L s.heap ((x, instObj 137 dx) :: (dx, sortD w t1 t2 t3 t4 d .none np nf) :: (d, od) :: (ledN ns ++ rest)))
    (hod : od.IsDictOf (strKind Challenge.rw_mq0328_01.row.prog w) (kvsN ns)) (lo : (d == sysModules) = false) (hnd : (ns.map (·.key)).Nodup) (hlen : ns.length ≤ 1000)
    (hs : Sep ((x, instObj 137 dx) :: (dx, sortD w t1 t2 t3 t4 d .none np nf) :: (d, od) :: (ledN ns ++ rest)))
    (ret : ∀ new nd od' h' tk', nd ∈ ns ++ new → nd.key = line → Got ns new nd → od'.IsDictOf (strKind Challenge.rw_mq0328_01.row.prog w) (kvsN (ns ++ new)) →
      Sep ((x, instObj 137 dx) :: (dx, sortD w t1 t2 t3 t4 d .none np nf) :: (d, od') :: (ledN (ns ++ new) ++ rest)) → Fr h₀ L h' m →
      News h₀ L h' ((x, instObj 137 dx) :: (dx, sortD w t1 t2 t3 t4 d .none np nf) :: (d, od') :: (ledN (ns ++ new) ++ rest)) → Q (.ref nd.a) { s with heap := h', toks := tk' }) :
    wpAny (model Challenge.rw_mq0328_01.row.prog w) (ktrTop dp un gd cn cs L a ccd cl outer) (call (.ref 80) [.ref x, .str line tk1]) Q E s := by
  obtain ⟨g1, g2, g3, gx, gdx, gd', hs'⟩ := sep3 hs
  by_cases hl : line ∈ ns.map (·.key)
  · obtain ⟨nd, hm, el⟩ := List.mem_map.mp hl
    have hvl : valueAt (kvsN ns) line = some (.ref nd.a) := by rw [← el]; exact kvsN_at hnd hm
    refine gn_old cx F N hod lo hvl ?_
    intro h' tk' F' N'
    refine ret [] nd od h' tk' (by rw [List.append_nil]; exact hm) el (.inl rfl) ?_ ?_ F' ?_
    · rw [List.append_nil]; exact hod
    · rw [List.append_nil]; exact hs
    · rw [List.append_nil]; exact N'
  · have hkl : (kvsN ns).length ≤ 1000 := by unfold kvsN; rw [List.length_map]; exact hlen
    refine gn_new cx F N hod lo hkl (valueAt_none hl) g2 g3 gd' ?_
    intro d1 a1 s1 n1 od' h' tk' b1 b2 b3 b4 b6 b7 hod' F' N'
    refine ret [⟨line, tk1, a1, d1, s1, 0, n1, [], 0⟩] ⟨line, tk1, a1, d1, s1, 0, n1, [], 0⟩ od' h' tk' (List.mem_append_right _ (.head _)) rfl (.inr ⟨hl, rfl, rfl, rfl⟩) ?_ ?_ F' ?_
    · rw [show kvsN (ns ++ _) = kvsN ns ++ [(line, .ref a1)] by simp [kvsN]]; exact hod'
    · refine sep_add hs rfl (sep_one b6 b7) (b := d1) (fun q hq => ?_) (fun p hp => ?_)
      · rcases List.mem_cons.mp hq with rfl | hq
        · exact Nat.le_of_lt b6
        rcases List.mem_cons.mp hq with rfl | hq
        · exact Nat.le_refl _
        rcases List.mem_cons.mp hq with rfl | hq
        · exact Nat.le_of_lt (Nat.lt_trans b6 b7)
        · exact nomatch hq
      · rcases List.mem_cons.mp hp with rfl | hp
        · exact b1
        rcases List.mem_cons.mp hp with rfl | hp
        · exact b2
        rcases List.mem_cons.mp hp with rfl | hp
        · exact b3
        · exact b4 p hp
    · refine News.sub N' (consSub (consSub (consSub (fun q hq => ?_))))
      rw [ledN_app, List.append_assoc] at hq
      rcases List.mem_append.mp hq with hq | hq
      · exact .tail _ (.tail _ (.tail _ (List.mem_append_left _ hq)))
      rcases List.mem_append.mp hq with hq | hq
      · rcases List.mem_cons.mp hq with rfl | hq
        · exact .head _
        rcases List.mem_cons.mp hq with rfl | hq
        · exact .tail _ (.head _)
        rcases List.mem_cons.mp hq with rfl | hq
        · exact .tail _ (.tail _ (.head _))
        · exact nomatch hq
      · exact .tail _ (.tail _ (.tail _ (List.mem_append_right _ hq)))
end
theorem Sep.out {a : Addr} {o : Obj} {l1 l2 : List (Addr × Obj)} (h : Sep (l1 ++ (a, o) :: l2)) : (∀ p ∈ l1 ++ l2, p.1 ≠ a) ∧ Sep (l1 ++ l2) := by
  have h2 : Sep ((a, o) :: (l1 ++ l2)) := by
    unfold Sep at *
    exact ((List.perm_middle (a := (a, o)) (l₁ := l1) (l₂ := l2)).map (·.1)).nodup_iff.mp h
  exact Sep.cons_iff.mp h2
theorem nmT {h₀ h : Heap} {L I na a b : Addr} {oI : Obj} {p1 p2 p3 p4 : Addr × Obj} {z : Int} {t kt : Tok} {k : Str} {r : List (Addr × Obj)} (N : News h₀ L h ((I, oI) :: p1 :: p2 :: p3 :: p4 :: (na, infoO a b z t k kt) :: r)) :
    ∃ I' oI' t', I' = I ∧ oI' = oI ∧ News h₀ L h ((I, oI) :: p1 :: p2 :: p3 :: p4 :: (na, infoO a b z t' k kt) :: r) := ⟨I, oI, t, rfl, rfl, N⟩
theorem add_all {w : World} {mean : ExcName → Option Value} {mg mb : Str → Option Value} {dp un : Nat} {gd : Option (List Code)} {cn : Str} {cs : Scope} {a : Addr} {ccd : Value} {cl : List (Str × Addr)} {outer : List Env} {A₀ : Around} {base h₀ : Heap} {L : Addr} {m : Str → Option Value}
    {rest : List (Addr × Obj)} {s : Shared} {Q E : Value → Shared → Prop} (cx : Cx w mean mg mb (dp + 10) (un + 100) cs outer A₀ base h₀) (F : Fr h₀ L s.heap m)
    {x dx d : Addr} {t1 t2 t3 t4 tk1 tk2 : Tok} {np nf : Value} {od : Obj} {ns : List Nd} {ps : List (Str × Str)} {line name : Str}
    (N : News h₀ L s.heap ((x, instObj 137 dx) :: (dx, sortD w t1 t2 t3 t4 d .none np nf) :: (d, od) :: (ledN ns ++ rest)))
    (hod : od.IsDictOf (strKind Challenge.rw_mq0328_01.row.prog w) (kvsN ns)) (lo : (d == sysModules) = false) (g : G ps ns) (hlen : ps.length ≤ 30)
    (hs : Sep ((x, instObj 137 dx) :: (dx, sortD w t1 t2 t3 t4 d .none np nf) :: (d, od) :: (ledN ns ++ rest)))
    (ret : ∀ ns' od' h' tk', G (ps ++ [(line, name)]) ns' → od'.IsDictOf (strKind Challenge.rw_mq0328_01.row.prog w) (kvsN ns') → Fr h₀ L h' m →
      News h₀ L h' ((x, instObj 137 dx) :: (dx, sortD w t1 t2 t3 t4 d .none np nf) :: (d, od') :: (ledN ns' ++ rest)) →
      Sep ((x, instObj 137 dx) :: (dx, sortD w t1 t2 t3 t4 d .none np nf) :: (d, od') :: (ledN ns' ++ rest)) → Q .none { s with heap := h', toks := tk' }) :
    wpAny (model Challenge.rw_mq0328_01.row.prog w) (ktrTop dp un gd cn cs L a ccd cl outer) (call (.ref 87) [.ref x, .str line tk1, .str name tk2]) Q E s := by
  obtain ⟨B, X, T, hk, hdp, hu⟩ := cx
  have kn : (keysF ps).Nodup := keysF_nodup ps
  have hnl : ns.length ≤ 60 := by
    have h1 := congrArg List.length g.keys
    have h2 := keysF_len ps
    rw [List.length_map] at h1
    omega
  refine wpAny_call ?_
  k_dflt (refine' kp_star (vs := [.str name tk2]) (bnd := fun t => [(Str.ofString "self", .ref x), (Str.ofString "node", .str line tk1), (Str.ofString "predecessors", t)]) ?k1 ?k2 ?k3 ?k4 ?k5 ?kA ?kF ?kK ?k6 ?k7 ?k8 ?kb ?kz ?kB ?_ ?c2 ?c3 ?c4 ?c5; (case kA => exact rfl); (case kF => exact rfl); (case kK => assumption); (case k1 => k_asm); (case k2 => k_asm); (case k3 => k_asm); (case k4 => k_asm); (case k5 => k_asm); (case k6 => k_is); (case k7 => k_is); (case k8 => k_room); (case kb => exact rfl); (case kz => exact Nat.le_of_ble_eq_true rfl); (case kB => exact fun _ => locs rfl); (case c5 => decide); (case c2 => exact rfl); (case c3 => exact rfl); (case c4 => exact rfl); k_whole)
  intro D g' L' h' l1 FG' F' N' B' X' T'
  have hDa := l1
  clear l1
  (try dsimp only); (try k_fold)
  k_steps
  unfold Parked
  (rename Fr _ _ _ _ => F1); (rename News _ _ _ _ => N1)
  have cx' : ∀ cs' : Scope, cs'.kind = .function → Cx w mean mg mb (dp + 1) (un + 3) cs' (envX cn cs L a ccd cl :: outer) (ktrTop dp un gd cn cs L a ccd cl outer) base g' := fun cs' hk' => ⟨B', X', T', hk', by omega, by omega⟩
  have S1 : Sep ((x, instObj 137 dx) :: (dx, sortD w t1 t2 t3 t4 d .none np nf) :: (d, od) :: (ledN ns ++ ((D, ⟨.type "tuple", none, .seq #[.str name tk2] 0, #[]⟩) :: rest))) :=
    Sep.insert (l1 := (x, instObj 137 dx) :: (dx, sortD w t1 t2 t3 t4 d .none np nf) :: (d, od) :: ledN ns) (l2 := rest) hs (fun p hp => Nat.ne_of_lt (hDa p hp))
  have N2 : News g' L' h' ((x, instObj 137 dx) :: (dx, sortD w t1 t2 t3 t4 d .none np nf) :: (d, od) :: (ledN ns ++ ((D, ⟨.type "tuple", none, .seq #[.str name tk2] 0, #[]⟩) :: rest))) :=
    News.sub N1 (subC (.tail _ (.head _)) (subC (.tail _ (.tail _ (.head _))) (subC (.tail _ (.tail _ (.tail _ (.head _)))) (subA (fun _ hp => .tail _ (.tail _ (.tail _ (.tail _ (List.mem_append_left _ hp))))) (subC (.head _) (fun _ hp => .tail _ (.tail _ (.tail _ (.tail _ (List.mem_append_right _ hp))))))))))
  k_dflt (refine gn_ (cx' _ rfl) F1 N2 hod lo g.nodup (by omega) S1 ?_)
  intro new nd od1 h2 tk3 hm kk1 hgot hod1 S2 F2 N3
  clear N1 N2 F1
  have gf0 : GF ns (keysF ps) (cnt ps) (linesOf ps) := ⟨g.keys, g.np, g.su⟩
  have gf1 := gf0.got hm hgot (fun h => ⟨cnt_zero h, linesOf_nil h⟩)
  have hl1 : (ns ++ new).length ≤ 70 := by
    rcases hgot with rfl | ⟨_, rfl, _⟩ <;> simp only [List.length_append, List.length_nil, List.length_cons] <;> omega
  have np1 : 0 ≤ nd.np ∧ nd.np ≤ 1000 := by
    have h1 := gf1.np nd hm
    have h3 := cnt_le ps nd.key
    omega
  obtain ⟨pre, post, e1⟩ := List.append_of_mem hm
  rw [e1] at N3 S2 hod1 gf1 hl1
  rw [kk1] at gf1
  obtain ⟨g1, g2, g3, gx, gdx, gd', hs2⟩ := sep3 S2
  obtain ⟨R, hR1, rd, rr, hR2, hRm⟩ := focusA hs2
  have ain := hR2 _ (.head _)
  have c1 : x ≠ nd.a := (gx _ ain).symm
  have c2 : dx ≠ nd.a := (gdx _ ain).symm
  have c3 : d ≠ nd.a := (gd' _ ain).symm
  have c4 : D ≠ nd.a := hR1 _ (rr _ (.head _))
  have c5 : nd.d ≠ nd.a := hR1 _ rd
  have N4 : News g' L' h2 ((D, ⟨.type "tuple", none, .seq #[.str name tk2] 0, #[]⟩) :: (x, instObj 137 dx) :: (dx, sortD w t1 t2 t3 t4 d .none np nf) :: (d, od1) :: (nd.a, infoO nd.d nd.s nd.np nd.nt nd.key nd.kt) :: (nd.d, dictOf [] 0) :: R) :=
    News.sub N3 (subC (.tail _ (.tail _ (.tail _ (List.mem_append_right _ (.head _))))) (subC (.head _) (subC (.tail _ (.head _)) (subC (.tail _ (.tail _ (.head _))) (subC (.tail _ (.tail _ (.tail _ ain))) (subC (.tail _ (.tail _ (.tail _ (hR2 _ (.tail _ rd))))) (fun q hq => .tail _ (.tail _ (.tail _ (hR2 _ (.tail _ hq)))))))))))
  obtain ⟨na, ena⟩ : ∃ b, b = nd.a := ⟨_, rfl⟩
  rw [← ena] at N4 c1 c2 c3 c4 c5 hR1 hRm ⊢
  clear N3
  k_steps
  unfold Parked
  (rename Fr _ _ _ _ => F3); (rename News _ _ _ _ => N5)
  rename (∀ p ∈ R, p.1 < _) => hRI
  rename (_ ∧ _ ∧ _ ∧ _ ∧ _ ∧ _ ∧ _) => hrow
  obtain ⟨I, oI, tz, rfl, rfl, N6⟩ := nmT N5
  clear N5
  obtain ⟨i1, i2, i3, i4, i5, i6, _⟩ := hrow
  have gf2 := gf1.inc (addName_nodup kn) tz
  have eadr : (ledN (pre ++ nd.set (nd.np + 1) tz :: post)).map (·.1) = (ledN (pre ++ nd :: post)).map (·.1) := by
    rw [ledN_app, ledN_app, List.map_append, List.map_append]; rfl
  have ekvs : kvsN (pre ++ nd.set (nd.np + 1) tz :: post) = kvsN (pre ++ nd :: post) := by
    unfold kvsN; rw [List.map_append, List.map_append]; rfl
  have hm1 := hRm (nd.np + 1) tz
  have hlen2 : (pre ++ nd.set (nd.np + 1) tz :: post).length ≤ 1000 := by
    rw [List.length_append, List.length_cons] at *; omega
  rw [← ekvs] at hod1
  have S2' := S2.of_eq (l' := (x, instObj 137 dx) :: (dx, sortD w t1 t2 t3 t4 d .none np nf) :: (d, od1) :: (ledN (pre ++ nd.set (nd.np + 1) tz :: post) ++ ((D, ⟨.type "tuple", none, .seq #[.str name tk2] 0, #[]⟩) :: rest))) (by simp only [List.map_cons, List.map_append, eadr])
  obtain ⟨ns2, ens⟩ : ∃ v, v = pre ++ nd.set (nd.np + 1) tz :: post := ⟨_, rfl⟩
  rw [← ens] at gf2 eadr hm1 hlen2 hod1 S2'
  have hltI : ∀ p ∈ ledN ns2 ++ ((D, (⟨.type "tuple", none, .seq #[.str name tk2] 0, #[]⟩ : Obj)) :: rest), p.1 < I := fun p hp => by
    rcases List.mem_cons.mp (hm1 p hp) with rfl | h
    · exact i5
    · exact hRI p h
  have S3 : Sep ((x, instObj 137 dx) :: (dx, sortD w t1 t2 t3 t4 d .none np nf) :: (d, od1) :: (ledN ns2 ++ ((I, oI) :: (D, ⟨.type "tuple", none, .seq #[.str name tk2] 0, #[]⟩) :: rest))) :=
    Sep.insert (l1 := (x, instObj 137 dx) :: (dx, sortD w t1 t2 t3 t4 d .none np nf) :: (d, od1) :: ledN ns2) (l2 := (D, ⟨.type "tuple", none, .seq #[.str name tk2] 0, #[]⟩) :: rest) S2' (List.forall_mem_cons.mpr ⟨Nat.ne_of_lt i2, List.forall_mem_cons.mpr ⟨Nat.ne_of_lt i3, List.forall_mem_cons.mpr ⟨Nat.ne_of_lt i4, fun p hp => Nat.ne_of_lt (hltI p hp)⟩⟩⟩)
  have up : ∀ p, p ∈ (na, infoO nd.d nd.s (nd.np + 1) tz nd.key nd.kt) :: R → p ∈ (I, oI) :: (D, (⟨.type "tuple", none, .seq #[.str name tk2] 0, #[]⟩ : Obj)) :: (x, instObj 137 dx) :: (dx, sortD w t1 t2 t3 t4 d .none np nf) :: (d, od1) :: (na, infoO nd.d nd.s (nd.np + 1) tz nd.key nd.kt) :: (nd.d, dictOf [] 0) :: R := fun p hp => by
    rcases List.mem_cons.mp hp with rfl | hp
    · exact .tail _ (.tail _ (.tail _ (.tail _ (.tail _ (.head _)))))
    · exact .tail _ (.tail _ (.tail _ (.tail _ (.tail _ (.tail _ (.tail _ hp))))))
  have N7 := News.sub (l' := (x, instObj 137 dx) :: (dx, sortD w t1 t2 t3 t4 d .none np nf) :: (d, od1) :: (ledN ns2 ++ ((I, oI) :: (D, ⟨.type "tuple", none, .seq #[.str name tk2] 0, #[]⟩) :: rest))) N6
    (subC (.tail _ (.tail _ (.head _))) (subC (.tail _ (.tail _ (.tail _ (.head _)))) (subC (.tail _ (.tail _ (.tail _ (.tail _ (.head _))))) (subA (fun p hp => up p (hm1 p (List.mem_append_left _ hp))) (subC (.head _) (fun p hp => up p (hm1 p (List.mem_append_right _ hp))))))))
  clear N6 up
  k_dflt (refine gn_ (cx' _ rfl) F3 N7 hod1 lo (by rw [gf2.keys]; exact addName_nodup kn) hlen2 S3 ?_)
  intro new2 nd2 od2 h6 tk6 hm2 kk2 hgot2 hod2 S4 F4 N8
  clear N7 F3 S3 S2'
  have gf3 := gf2.got hm2 hgot2 (fun h => by
    have h1 : nd2.key ∉ keysF ps := fun z => h (mem_addName.mpr (.inl z))
    have h2 : nd.key ≠ nd2.key := fun z => h (mem_addName.mpr (.inr (by rw [← z, kk1])))
    exact ⟨by rw [if_neg h2, cnt_zero h1], linesOf_nil h1⟩)
  have sul : nd2.su.toArray.size ≤ 1000 := by
    have h1 := strsLen (gf3.su nd2 hm2)
    have h3 := linesOf_len ps nd2.key
    rw [List.size_toArray]
    omega
  obtain ⟨pre2, post2, e2⟩ := List.append_of_mem hm2
  rw [e2] at N8 S4 hod2 gf3
  rw [kk2] at gf3
  obtain ⟨oI1, S5⟩ := Sep.out (l1 := (x, instObj 137 dx) :: (dx, sortD w t1 t2 t3 t4 d .none np nf) :: (d, od2) :: ledN (pre2 ++ nd2 :: post2)) (l2 := (D, ⟨.type "tuple", none, .seq #[.str name tk2] 0, #[]⟩) :: rest) S4
  obtain ⟨oD1, S6⟩ := Sep.out (l1 := (x, instObj 137 dx) :: (dx, sortD w t1 t2 t3 t4 d .none np nf) :: (d, od2) :: ledN (pre2 ++ nd2 :: post2)) (l2 := rest) S5
  obtain ⟨v1, v2, v3, vx, vdx, vd, hs6⟩ := sep3 S6
  obtain ⟨R2, hQ1, q1, q2, hQ2, hQm⟩ := focusS hs6
  have sin := hQ2 _ (.head _)
  have ain2 := hQ2 _ (.tail _ q1)
  have din2 := hQ2 _ (.tail _ q2)
  have toI : ∀ p ∈ ledN (pre2 ++ nd2 :: post2) ++ rest, p ∈ (x, instObj 137 dx) :: (dx, sortD w t1 t2 t3 t4 d .none np nf) :: (d, od2) :: (ledN (pre2 ++ nd2 :: post2) ++ ((D, (⟨.type "tuple", none, .seq #[.str name tk2] 0, #[]⟩ : Obj)) :: rest)) := fun p hp => by
    rcases List.mem_append.mp hp with h | h
    · exact .tail _ (.tail _ (.tail _ (List.mem_append_left _ h)))
    · exact .tail _ (.tail _ (.tail _ (List.mem_append_right _ (.tail _ h))))
  have to4 : ∀ p ∈ ledN (pre2 ++ nd2 :: post2) ++ rest, p ∈ (x, instObj 137 dx) :: (dx, sortD w t1 t2 t3 t4 d .none np nf) :: (d, od2) :: (ledN (pre2 ++ nd2 :: post2) ++ ((I, oI) :: (D, (⟨.type "tuple", none, .seq #[.str name tk2] 0, #[]⟩ : Obj)) :: rest)) := fun p hp => by
    rcases List.mem_append.mp hp with h | h
    · exact .tail _ (.tail _ (.tail _ (List.mem_append_left _ h)))
    · exact .tail _ (.tail _ (.tail _ (List.mem_append_right _ (.tail _ (.tail _ h)))))
  have w1 : D ≠ I := oI1 _ (.tail _ (.tail _ (.tail _ (List.mem_append_right _ (.head _)))))
  have w2 : nd2.a ≠ I := oI1 _ (toI _ ain2)
  have w3 : nd2.d ≠ I := oI1 _ (toI _ din2)
  have w4 : nd2.s ≠ I := oI1 _ (toI _ sin)
  have w5 : x ≠ I := oI1 _ (.head _)
  have w6 : dx ≠ I := oI1 _ (.tail _ (.head _))
  have w7 : d ≠ I := oI1 _ (.tail _ (.tail _ (.head _)))
  have w8 : ∀ p ∈ R2, p.1 ≠ I := fun p hp => oI1 _ (toI _ (hQ2 _ (.tail _ hp)))
  have y1 : I ≠ nd2.s := w4.symm
  have y2 : D ≠ nd2.s := (oD1 _ (.tail _ (.tail _ (.tail _ sin)))).symm
  have y3 : nd2.a ≠ nd2.s := hQ1 _ q1
  have y4 : nd2.d ≠ nd2.s := hQ1 _ q2
  have y5 : x ≠ nd2.s := (vx _ sin).symm
  have y6 : dx ≠ nd2.s := (vdx _ sin).symm
  have y7 : d ≠ nd2.s := (vd _ sin).symm
  have N9 : News g' L' h6 ((I, oI) :: (D, ⟨.type "tuple", none, .seq #[.str name tk2] 0, #[]⟩) :: (nd2.a, infoO nd2.d nd2.s nd2.np nd2.nt nd2.key nd2.kt) :: (nd2.d, dictOf [] 0) :: (nd2.s, W.listOf nd2.su.toArray nd2.ep) :: (x, instObj 137 dx) :: (dx, sortD w t1 t2 t3 t4 d .none np nf) :: (d, od2) :: R2) :=
    News.sub N8 (subC (.tail _ (.tail _ (.tail _ (List.mem_append_right _ (.head _))))) (subC (.tail _ (.tail _ (.tail _ (List.mem_append_right _ (.tail _ (.head _)))))) (subC (to4 _ ain2) (subC (to4 _ din2) (subC (to4 _ sin) (subC (.head _) (subC (.tail _ (.head _)) (subC (.tail _ (.tail _ (.head _))) (fun p hp => to4 _ (hQ2 _ (.tail _ hp)))))))))))
  clear N8 toI to4
  k_steps
  have gf4 := gf3.lay (addName_nodup (addName_nodup kn)) line tk1 (nd2.ep + 1)
  have eadr4 : (ledN (pre2 ++ nd2.lay (nd2.su ++ [.str line tk1]) (nd2.ep + 1) :: post2)).map (·.1) = (ledN (pre2 ++ nd2 :: post2)).map (·.1) := by
    rw [ledN_app, ledN_app, List.map_append, List.map_append]; rfl
  have hq := hQm (nd2.su ++ [.str line tk1]) (nd2.ep + 1)
  rename News _ _ _ _ => N10
  refine ret (pre2 ++ nd2.lay (nd2.su ++ [.str line tk1]) (nd2.ep + 1) :: post2) od2 _ _ ⟨?_, ?_, ?_⟩ ?_ (by k_asm) (News.sub N10 ?_) ?_
  · rw [keysF_snoc]; exact gf4.keys
  · intro y hy
    have := gf4.np y hy
    rw [kk1] at this
    rw [cnt_snoc]; exact this
  · intro y hy
    have := gf4.su y hy
    rw [kk2] at this
    rw [linesOf_snoc]; exact this
  · rw [show kvsN (pre2 ++ nd2.lay (nd2.su ++ [.str line tk1]) (nd2.ep + 1) :: post2) = kvsN (pre2 ++ nd2 :: post2) by unfold kvsN; rw [List.map_append, List.map_append]; rfl]
    exact hod2
  · rw [← List.push_toArray] at hq
    refine subC (.tail _ (.tail _ (.tail _ (.tail _ (.head _))))) (subC (.tail _ (.tail _ (.tail _ (.tail _ (.tail _ (.head _)))))) (subC (.tail _ (.tail _ (.tail _ (.tail _ (.tail _ (.tail _ (.head _))))))) (fun p hp => ?_)))
    rcases List.mem_cons.mp (hq p hp) with rfl | h
    · exact .tail _ (.tail _ (.tail _ (.head _)))
    · exact .tail _ (.tail _ (.tail _ (.tail _ (.tail _ (.tail _ (.tail _ h))))))
  · exact S6.of_eq (by simp only [List.map_cons, List.map_append, List.cons_append, eadr4])
end
section
-- plain
noncomputable def factB (l n : Str) : Bool := decide (stripF l = n) && decide (stripF n = n) && decide (l.length ≤ 100) && PyData.strOk l && PyData.strOk n
theorem factT : ∀ (a : Fin 4) (b : Fin 3) (c : Fin 5), factB (wayI (a.val : Int) ++ nameI (b.val : Int) ++ tailI (c.val : Int)) (nameI (b.val : Int)) = true := by decide +kernel
structure Good (l n : Str) : Prop where
  s1 : stripF l = n
  s2 : stripF n = n
  len : l.length ≤ 100
  o1 : okS l
  o2 : okS n
theorem good_of {l n : Str} (h : factB l n = true) : Good l n := by
  unfold factB at h
  simp only [Bool.and_eq_true, decide_eq_true_eq] at h
  obtain ⟨⟨⟨⟨h1, h2⟩, h3⟩, h4⟩, h5⟩ := h
  exact ⟨h1, h2, h3, h4, h5⟩
theorem fin_of {k : Int} {m : Nat} (h0 : 0 ≤ k) (h1 : k < m) : ∃ a : Fin m, k = (a.val : Int) := ⟨⟨k.toNat, by omega⟩, by simp; omega⟩
theorem good_pair (n : Int) : Good (pairI n).1 (pairI n).2 := by
  obtain ⟨a, ha⟩ := fin_of (k := n.fmod 4) (m := 4) (Int.fmod_nonneg_of_pos _ (by decide)) (Int.fmod_lt_of_pos _ (by decide))
  obtain ⟨b, hb⟩ := fin_of (k := (n.fdiv 4).fmod 3) (m := 3) (Int.fmod_nonneg_of_pos _ (by decide)) (Int.fmod_lt_of_pos _ (by decide))
  obtain ⟨c, hc⟩ := fin_of (k := (n.fdiv 12).fmod 5) (m := 5) (Int.fmod_nonneg_of_pos _ (by decide)) (Int.fmod_lt_of_pos _ (by decide))
  unfold pairI
  rw [ha, hb, hc]
  exact good_of (factT a b c)
theorem good_all {ps : List Pr} {zs : List Int} (h : ps.map Pr.two = zs.map pairI) : ∀ p ∈ ps, Good p.l p.n := fun p hp => by
  have : p.two ∈ zs.map pairI := by rw [← h]; exact List.mem_map_of_mem hp
  obtain ⟨n, _, e⟩ := List.mem_map.mp this
  have g := good_pair n
  rw [e] at g
  exact g
/-- every line's name is its own -/
def Names (P : List (Str × Str)) : Prop := ∀ p ∈ P, stripF p.1 = p.2 ∧ stripF p.2 = p.2
theorem strsMem {vs : List Value} {ys : List Str} (h : StrsAre vs ys) : ∀ v ∈ vs, ∃ y ∈ ys, ∃ t, v = .str y t := by
  induction h with
  | nil => exact fun _ h => nomatch h
  | cons y t _ ih =>
    intro v hv
    rcases List.mem_cons.mp hv with rfl | hv
    · exact ⟨y, .head _, t, rfl⟩
    · obtain ⟨z, hz, r⟩ := ih v hv
      exact ⟨z, .tail _ hz, r⟩
theorem strsNil {vs : List Value} (h : StrsAre vs []) : vs = [] := by cases h; rfl
theorem su_ok {P : List (Str × Str)} {ns : List Nd} (g : G P ns) (hN : Names P) : ∀ nd ∈ ns, ∀ v ∈ nd.su, ∃ nd' ∈ ns, ∃ t, v = .str nd'.key t ∧ (nd'.key = nd.key ∨ nd'.su = []) := by
  intro nd hm v hv
  obtain ⟨l, hl, t, rfl⟩ := strsMem (g.su nd hm) v hv
  unfold linesOf at hl
  obtain ⟨p, hp, e1⟩ := List.mem_map.mp hl
  rw [List.mem_filter] at hp
  obtain ⟨hp, e2⟩ := hp
  have e2' : p.2 = nd.key := by simpa using e2
  obtain ⟨nd', hm', e3⟩ := node_of g (mem_keysF.mpr ⟨p, hp, .inl e1⟩)
  refine ⟨nd', hm', t, by rw [e3], ?_⟩
  by_cases q : nd'.key = nd.key
  · exact .inl q
  · refine .inr (strsNil ?_)
    have h1 := g.su nd' hm'
    have h2 : linesOf P nd'.key = [] := by
      unfold linesOf
      rw [List.map_eq_nil_iff, List.filter_eq_nil_iff]
      intro r hr e4
      have e4' : r.2 = nd'.key := by simpa using e4
      apply q
      rw [← e4', ← (hN r hr).2, e4', e3, ← e1, (hN p hp).1, e2']
    rw [h2] at h1
    exact h1
theorem su_len {P : List (Str × Str)} {ns : List Nd} (g : G P ns) (hP : P.length ≤ 16) : ∀ nd ∈ ns, nd.su.length ≤ 40 := fun nd hm => by
  have h1 := strsLen (g.su nd hm)
  have h2 := linesOf_len P nd.key
  omega
theorem ns_len {P : List (Str × Str)} {ns : List Nd} (g : G P ns) (hP : P.length ≤ 16) : ns.length ≤ 40 := by
  have h1 := congrArg List.length g.keys
  have h2 := keysF_len P
  rw [List.length_map] at h1
  omega
noncomputable def freeF (P : List (Str × Str)) : List Str := (namesF (P.map (·.2))).filter fun n => decide (n ∉ P.map (·.1))
noncomputable def heldF (P : List (Str × Str)) : List Str := (namesF (P.map (·.2))).filter fun n => decide (n ∈ P.map (·.1))
end
section
-- plain
/-- each string once, at its last place -/
noncomputable def lastF : List Str → List Str
  | [] => []
  | x :: l => if x ∈ l then lastF l else x :: lastF l
theorem lastF_in {x : Str} {l : List Str} (h : x ∈ l) : lastF (x :: l) = lastF l := if_pos h
theorem lastF_out {x : Str} {l : List Str} (h : x ∉ l) : lastF (x :: l) = x :: lastF l := if_neg h
theorem lastF_mem {y : Str} : ∀ {l : List Str}, y ∈ lastF l ↔ y ∈ l
  | [] => Iff.rfl
  | x :: l => by
    have ih := @lastF_mem y l
    by_cases h : x ∈ l
    · rw [lastF_in h, ih, List.mem_cons]
      exact ⟨.inr, fun e => e.elim (fun q => q ▸ h) id⟩
    · rw [lastF_out h, List.mem_cons, List.mem_cons, ih]
theorem lastF_nodup : ∀ l : List Str, (lastF l).Nodup
  | [] => List.nodup_nil
  | x :: l => by
    by_cases h : x ∈ l
    · rw [lastF_in h]; exact lastF_nodup l
    · rw [lastF_out h, List.nodup_cons, lastF_mem]; exact ⟨h, lastF_nodup l⟩
theorem lastF_len : ∀ l : List Str, (lastF l).length ≤ l.length
  | [] => Nat.le_refl _
  | x :: l => by
    have ih := lastF_len l
    by_cases h : x ∈ l
    · rw [lastF_in h, List.length_cons]; omega
    · rw [lastF_out h, List.length_cons, List.length_cons]; omega
noncomputable def occ (l : List Str) (k : Str) : Nat := (l.filter fun x => decide (x = k)).length
theorem occ_self (l : List Str) (k : Str) : occ (k :: l) k = occ l k + 1 := by unfold occ; simp
theorem occ_ne {l : List Str} {k x : Str} (h : k ≠ x) : occ (x :: l) k = occ l k := by
  unfold occ
  rw [List.filter_cons_of_neg (by simpa using fun e : x = k => h e.symm)]
theorem occ_zero {l : List Str} {k : Str} (h : k ∉ l) : occ l k = 0 := by
  unfold occ
  rw [List.length_eq_zero_iff, List.filter_eq_nil_iff]
  intro x hx e
  have e' : x = k := by simpa using e
  exact h (e' ▸ hx)
theorem occ_pos {l : List Str} {k : Str} (h : k ∈ l) : 0 < occ l k := by
  unfold occ
  exact List.length_pos_of_mem (List.mem_filter.mpr ⟨h, by simp⟩)
theorem foldDec_cnt {vs : List Value} {ws : List Str} (h : StrsAre vs ws) : ∀ (p : (Str → Int) × List Value) (k : Str), (vs.foldl stepDec p).1 k = p.1 k - (occ ws k : Int) := by
  induction h with
  | nil => intro p k; show p.1 k = p.1 k - ((0 : Nat) : Int); omega
  | cons y t _ ih =>
    intro p k
    rw [List.foldl_cons, ih]
    show upd p.1 y (p.1 y - 1) k - _ = _
    unfold upd
    by_cases e : k = y
    · subst e
      rw [if_pos rfl, occ_self]; omega
    · rw [if_neg e, occ_ne e]
theorem foldDec_last {vs : List Value} {ws : List Str} (h : StrsAre vs ws) : ∀ (p : (Str → Int) × List Value) (ys : List Str), StrsAre p.2 ys → (∀ x ∈ ws, p.1 x = (occ ws x : Int)) → StrsAre (vs.foldl stepDec p).2 (ys ++ lastF ws) := by
  induction h with
  | nil => intro p ys h _; rw [show lastF [] = [] from rfl, List.append_nil]; exact h
  | @cons y t vs ws _ ih =>
    intro p ys hp hf
    rw [List.foldl_cons]
    have h1 : p.1 y = ((occ (y :: ws) y : Nat) : Int) := hf y (.head _)
    rw [occ_self] at h1
    have hf2 : ∀ x ∈ ws, (stepDec p (.str y t)).1 x = (occ ws x : Int) := fun x hx => by
      show upd p.1 y (p.1 y - 1) x = _
      unfold upd
      by_cases e : x = y
      · subst e; rw [if_pos rfl]; omega
      · rw [if_neg e, hf x (.tail _ hx), occ_ne e]
    by_cases e : y ∈ ws
    · have := occ_pos e
      have e2 : (stepDec p (.str y t)).2 = p.2 := if_neg (by show ¬ p.1 y - 1 = 0; omega)
      rw [lastF_in e]
      exact ih _ ys (by rw [e2]; exact hp) hf2
    · have := occ_zero e
      have e2 : (stepDec p (.str y t)).2 = p.2 ++ [.str y t] := if_pos (by show p.1 y - 1 = 0; omega)
      have := ih (stepDec p (.str y t)) (ys ++ [y]) (by rw [e2]; exact strsSnoc hp _ _) hf2
      rw [lastF_out e]
      rw [List.append_assoc] at this
      exact this
theorem doneAll_off {su : Str → List Value} {k : Str} : ∀ (vs : List Value) (p : (Str → Int) × List Value), (∀ v ∈ vs, strOf v ≠ k) → (∀ v ∈ vs, ∃ ws, StrsAre (su (strOf v)) ws ∧ k ∉ ws) → (doneAll su p vs).1 k = p.1 k
  | [], _, _, _ => rfl
  | v :: vs, p, h1, h2 => by
    show (doneAll su (doneOne su p v) vs).1 k = _
    rw [doneAll_off vs _ (fun x hx => h1 x (.tail _ hx)) (fun x hx => h2 x (.tail _ hx))]
    obtain ⟨ws, hw, hk⟩ := h2 v (.head _)
    unfold doneOne
    rw [foldDec_cnt hw, occ_zero hk]
    show upd p.1 (strOf v) (-2) k - ((0 : Nat) : Int) = _
    unfold upd
    rw [if_neg (Ne.symm (h1 v (.head _)))]
    omega
theorem mem_lines {P : List (Str × Str)} {l n : Str} : l ∈ linesOf P n ↔ (l, n) ∈ P := by
  unfold linesOf
  rw [List.mem_map]
  constructor
  · rintro ⟨p, hp, e⟩
    rw [List.mem_filter] at hp
    have e2 : p.2 = n := by simpa using hp.2
    rw [← e, ← e2]; exact hp.1
  · intro h
    exact ⟨(l, n), List.mem_filter.mpr ⟨h, by simp⟩, rfl⟩
theorem mem_pair {P : List (Str × Str)} (hN : Names P) {l : Str} (h : l ∈ P.map (·.1)) : (l, stripF l) ∈ P := by
  obtain ⟨p, hp, rfl⟩ := List.mem_map.mp h
  show (p.1, stripF p.1) ∈ P
  rw [(hN p hp).1]; exact hp
theorem name_self {P : List (Str × Str)} (hN : Names P) {n : Str} (h : n ∈ P.map (·.2)) : stripF n = n := by
  obtain ⟨p, hp, rfl⟩ := List.mem_map.mp h
  exact (hN p hp).2
theorem occ_lines {P : List (Str × Str)} (hN : Names P) {l n : Str} (h : stripF l = n) : occ (linesOf P n) l = cnt P l := by
  unfold occ linesOf cnt
  rw [List.filter_map, List.length_map, List.filter_filter]
  congr 1
  refine List.filter_congr fun p hp => ?_
  by_cases e : p.1 = l
  · have e2 : p.2 = n := by rw [← (hN p hp).1, e, h]
    simp [e, e2]
  · simp [e]
theorem doneAll_last {P : List (Str × Str)} (hN : Names P) {su : Str → List Value} {vs : List Value} {fs : List Str} (h : StrsAre vs fs) : ∀ (p : (Str → Int) × List Value) (ys : List Str), fs.Nodup → (∀ n ∈ fs, n ∉ P.map (·.1)) → (∀ n ∈ fs, StrsAre (su n) (linesOf P n)) →
    StrsAre p.2 ys → (∀ q ∈ P, q.2 ∈ fs → p.1 q.1 = (cnt P q.1 : Int)) → StrsAre (doneAll su p vs).2 (ys ++ fs.flatMap fun n => lastF (linesOf P n)) := by
  induction h with
  | nil => intro p ys _ _ _ h _; rw [List.flatMap_nil, List.append_nil]; exact h
  | @cons n t vs fs _ ih =>
    intro p ys hd hfree hsu hp hf
    show StrsAre (doneAll su (doneOne su p (.str n t)) vs).2 _
    rw [List.nodup_cons] at hd
    rw [List.flatMap_cons, ← List.append_assoc]
    have hne : ∀ q ∈ P, q.1 ≠ n := fun q hq e => hfree n (.head _) (List.mem_map.mpr ⟨q, hq, e⟩)
    have hl := hsu n (.head _)
    refine ih (doneOne su p (.str n t)) _ hd.2 (fun m hm => hfree m (.tail _ hm)) (fun m hm => hsu m (.tail _ hm)) (foldDec_last hl _ ys hp ?_) ?_
    · intro x hx
      have hx' := mem_lines.mp hx
      show upd p.1 n (-2) x = _
      unfold upd
      rw [if_neg (hne _ hx'), hf (x, n) hx' (.head _), occ_lines hN (hN _ hx').1]
    · intro q hq hm
      show ((su n).foldl stepDec (upd p.1 n (-2), p.2)).1 q.1 = _
      have h0 : q.1 ∉ linesOf P n := fun e => by
        have h1 := (hN _ (mem_lines.mp e)).1
        have h2 := (hN q hq).1
        have h3 : q.2 = n := by rw [← h2]; exact h1
        exact hd.1 (h3 ▸ hm)
      rw [foldDec_cnt hl, occ_zero h0]
      show upd p.1 n (-2) q.1 - ((0 : Nat) : Int) = _
      unfold upd
      rw [if_neg (hne q hq), hf q hq (.tail _ hm)]
      omega
theorem dueUp_cons (n : Str) (p : Pr) (ps : List Pr) : ∀ k, dueUp n (p :: ps) (k + 1) = dueAt n (p :: ps) 0 ++ dueUp n ps k
  | 0 => by show [] ++ dueAt n (p :: ps) 0 = dueAt n (p :: ps) 0 ++ []; rw [List.nil_append, List.append_nil]
  | k + 1 => by
    show dueUp n (p :: ps) (k + 1) ++ dueAt n (p :: ps) (k + 1) = dueAt n (p :: ps) 0 ++ (dueUp n ps k ++ dueAt n ps k)
    rw [dueUp_cons n p ps k, List.append_assoc]; rfl
theorem linesOf_yes {p : Str × Str} {P : List (Str × Str)} {n : Str} (h : p.2 = n) : linesOf (p :: P) n = p.1 :: linesOf P n := by
  unfold linesOf
  rw [List.filter_cons_of_pos (by simpa using h), List.map_cons]
theorem linesOf_no {p : Str × Str} {P : List (Str × Str)} {n : Str} (h : p.2 ≠ n) : linesOf (p :: P) n = linesOf P n := by
  unfold linesOf
  rw [List.filter_cons_of_neg (by simpa using h)]
theorem dueUp_last (n : Str) : ∀ ps : List Pr, dueUp n ps ps.length = lastF (linesOf (ps.map Pr.two) n)
  | [] => rfl
  | p :: ps => by
    rw [List.length_cons, dueUp_cons, dueUp_last n ps, List.map_cons]
    show (if p.n = n ∧ p.two ∉ ps.map Pr.two then [p.l] else []) ++ _ = _
    by_cases e : p.n = n
    · have e1 : p.two = (p.l, n) := by unfold Pr.two; rw [e]
      rw [linesOf_yes (show p.two.2 = n from e), e1]
      by_cases h : (p.l, n) ∈ ps.map Pr.two
      · rw [if_neg (fun q => q.2 h), lastF_in (mem_lines.mpr h)]; rfl
      · rw [if_pos ⟨e, h⟩, lastF_out (fun q => h (mem_lines.mp q))]; rfl
    · rw [if_neg (fun q => e q.1), linesOf_no (show p.two.2 ≠ n from e)]; rfl
theorem dueF_last (fs : List Str) (ps : List Pr) : dueF fs ps = fs.flatMap fun n => lastF (linesOf (ps.map Pr.two) n) := by
  unfold dueF
  congr 1
  funext n
  exact dueUp_last n ps
theorem lines_sum (P : List (Str × Str)) : ∀ fs : List Str, fs.Nodup → (fs.flatMap fun n => linesOf P n).length ≤ P.length := by
  induction P with
  | nil => intro fs _; rw [show (fs.flatMap fun n => linesOf [] n) = [] from List.flatMap_eq_nil_iff.mpr fun _ _ => rfl]; exact Nat.le_refl _
  | cons p P ih =>
    have same : ∀ fs : List Str, p.2 ∉ fs → (fs.flatMap fun n => linesOf (p :: P) n) = fs.flatMap fun n => linesOf P n := by
      intro fs
      induction fs with
      | nil => intro _; rfl
      | cons n fs ih2 =>
        intro h
        rw [List.mem_cons, not_or] at h
        rw [List.flatMap_cons, List.flatMap_cons, linesOf_no h.1, ih2 h.2]
    have one : ∀ fs : List Str, fs.Nodup → (fs.flatMap fun n => linesOf (p :: P) n).length ≤ (fs.flatMap fun n => linesOf P n).length + 1 := by
      intro fs
      induction fs with
      | nil => intro _; exact Nat.zero_le _
      | cons n fs ih2 =>
        intro h
        rw [List.nodup_cons] at h
        rw [List.flatMap_cons, List.flatMap_cons, List.length_append, List.length_append]
        by_cases e : p.2 = n
        · rw [linesOf_yes e, same fs (by rw [e]; exact h.1), List.length_cons]; omega
        · have := ih2 h.2
          rw [linesOf_no e]; omega
    intro fs h
    have h1 := ih fs h
    have h2 := one fs h
    rw [List.length_cons]; omega
theorem due_len {fs : List Str} {ps : List Pr} (h : fs.Nodup) : (dueF fs ps).length ≤ ps.length := by
  have h1 := lines_sum (ps.map Pr.two) fs h
  rw [List.length_map] at h1
  rw [dueF_last]
  refine Nat.le_trans ?_ h1
  clear h1 h
  induction fs with
  | nil => exact Nat.le_refl _
  | cons n fs ih =>
    have := lastF_len (linesOf (ps.map Pr.two) n)
    rw [List.flatMap_cons, List.flatMap_cons, List.length_append, List.length_append]
    omega
theorem mem_due {fs : List Str} {ps : List Pr} {y : Str} (h : y ∈ dueF fs ps) : ∃ n ∈ fs, (y, n) ∈ ps.map Pr.two := by
  rw [dueF_last] at h
  obtain ⟨n, hn, hy⟩ := List.mem_flatMap.mp h
  exact ⟨n, hn, mem_lines.mp (lastF_mem.mp hy)⟩
theorem due_nodup {ps : List Pr} (hN : Names (ps.map Pr.two)) : ∀ {fs : List Str}, fs.Nodup → (dueF fs ps).Nodup
  | [], _ => List.nodup_nil
  | n :: fs, h => by
    rw [List.nodup_cons] at h
    have ih := due_nodup hN h.2
    have e : dueF (n :: fs) ps = lastF (linesOf (ps.map Pr.two) n) ++ dueF fs ps := by rw [dueF_last, dueF_last, List.flatMap_cons]
    rw [e, List.nodup_append]
    refine ⟨lastF_nodup _, ih, fun a ha b hb q => ?_⟩
    subst q
    obtain ⟨m, hm, h2⟩ := mem_due hb
    have h1 := (hN _ (mem_lines.mp (lastF_mem.mp ha))).1
    have h3 := (hN _ h2).1
    have : m = n := h3.symm.trans h1
    exact h.1 (this ▸ hm)
theorem filter_add (q : Str → Bool) (acc : List Str) (n : Str) : (addName acc n).filter q = if q n then addName (acc.filter q) n else acc.filter q := by
  by_cases hm : n ∈ acc
  · rw [addName_mem hm]
    by_cases hq : q n = true
    · rw [if_pos hq, addName_mem (List.mem_filter.mpr ⟨hm, hq⟩)]
    · rw [if_neg hq]
  · rw [addName_not hm, List.filter_append]
    by_cases hq : q n = true
    · rw [if_pos hq, addName_not (fun h => hm (List.mem_filter.mp h).1), List.filter_cons_of_pos hq]; rfl
    · rw [if_neg hq, List.filter_cons_of_neg hq, List.filter_nil, List.append_nil]
theorem filter_keys (q : Str → Bool) (P : List (Str × Str)) (h : ∀ p ∈ P, q p.1 = true → p.1 = p.2) : (keysF P).filter q = (namesF (P.map (·.2))).filter q := by
  have go : ∀ (P : List (Str × Str)) (a b : List Str), (∀ p ∈ P, q p.1 = true → p.1 = p.2) → a.filter q = b.filter q → (P.foldl (fun acc p => addName (addName acc p.1) p.2) a).filter q = ((P.map (·.2)).foldl addName b).filter q := by
    intro P
    induction P with
    | nil => intro a b _ e; exact e
    | cons p P ih =>
      intro a b h e
      rw [List.map_cons, List.foldl_cons, List.foldl_cons]
      refine ih _ _ (fun r hr => h r (.tail _ hr)) ?_
      rw [filter_add, filter_add, filter_add, e]
      by_cases hq : q p.1 = true
      · have e2 := h p (.head _) hq
        rw [if_pos hq, ← e2, if_pos hq, if_pos hq, addName_mem (mem_addName.mpr (.inr rfl))]
      · rw [if_neg hq]
  exact go P [] [] h rfl
theorem names_in {y : Str} {l : List Str} (h : y ∈ namesF l) : y ∈ l := by
  have go : ∀ (l acc : List Str), y ∈ l.foldl addName acc → y ∈ acc ∨ y ∈ l := by
    intro l
    induction l with
    | nil => intro acc h; exact .inl h
    | cons x l ih =>
      intro acc h
      rcases ih _ h with h | h
      · rcases mem_addName.mp h with h | h
        · exact .inl h
        · exact .inr (h ▸ .head _)
      · exact .inr (.tail _ h)
  exact (go l [] h).resolve_left (fun h => nomatch h)
theorem names_nodup (l : List Str) : (namesF l).Nodup := by
  have go : ∀ (l acc : List Str), acc.Nodup → (l.foldl addName acc).Nodup := by
    intro l
    induction l with
    | nil => intro acc h; exact h
    | cons x l ih => intro acc h; exact ih _ (addName_nodup h)
  exact go l [] List.nodup_nil
theorem outsAre : ∀ l : List Nd, StrsAre (l.map Nd.out) (l.map (·.key))
  | [] => .nil
  | nd :: l => .cons nd.key nd.kt (outsAre l)
theorem cnt_none {P : List (Str × Str)} {k : Str} : cnt P k = 0 ↔ k ∉ P.map (·.1) := by
  unfold cnt
  rw [List.length_eq_zero_iff, List.filter_eq_nil_iff]
  constructor
  · intro h hm
    obtain ⟨p, hp, e⟩ := List.mem_map.mp hm
    exact h p hp (by simpa using e)
  · intro h p hp e
    exact h (List.mem_map.mpr ⟨p, hp, by simpa using e⟩)
theorem ready_free {P : List (Str × Str)} {ns : List Nd} (g : G P ns) : StrsAre (readyV ns) (freeF P) := by
  have e : (ns.filter fun nd => decide (nd.np = 0)).map (·.key) = freeF P := by
    have e1 : (ns.filter fun nd => decide (nd.np = 0)) = ns.filter ((fun k => decide (k ∉ P.map (·.1))) ∘ fun nd : Nd => nd.key) := by
      refine List.filter_congr fun nd hm => ?_
      show decide (nd.np = 0) = decide (nd.key ∉ P.map (·.1))
      rw [decide_eq_decide, g.np nd hm, ← cnt_none]
      omega
    rw [e1, ← List.filter_map, g.keys]
    refine filter_keys _ P fun p hp hq => ?_
    exact absurd (List.mem_map_of_mem (f := (·.1)) hp) (of_decide_eq_true hq)
  rw [← e]
  exact outsAre _
theorem free_nodup (P : List (Str × Str)) : (freeF P).Nodup := (names_nodup _).filter _
theorem mem_free {P : List (Str × Str)} {n : Str} (h : n ∈ freeF P) : n ∈ P.map (·.2) ∧ n ∉ P.map (·.1) := by
  obtain ⟨h1, h2⟩ := List.mem_filter.mp h
  exact ⟨names_in h1, of_decide_eq_true h2⟩
theorem outF_off {k : Str} : ∀ (ks : List Str) (f : Str → Int), k ∉ ks → outF ks f k = f k
  | [], _, _ => rfl
  | x :: ks, f, h => by
    rw [List.mem_cons, not_or] at h
    show outF ks (upd f x (-1)) k = f k
    rw [outF_off ks _ h.2]
    exact if_neg h.1
theorem outF_on {k : Str} : ∀ (ks : List Str) (f : Str → Int), k ∈ ks → outF ks f k = -1
  | x :: ks, f, h => by
    show outF ks (upd f x (-1)) k = -1
    by_cases e : k ∈ ks
    · exact outF_on ks _ e
    · rw [outF_off ks _ e]
      rcases List.mem_cons.mp h with rfl | h
      · exact if_pos rfl
      · exact absurd h e
theorem strsMap {vs : List Value} {ys : List Str} (h : StrsAre vs ys) : vs.map strOf = ys := by
  induction h with
  | nil => rfl
  | cons y t _ ih => rw [List.map_cons, ih]; rfl
theorem out_take {vs : List Value} {ys : List Str} (h : StrsAre vs ys) (hd : ys.Nodup) {i : Nat} {v : Value} (hi : vs[i]? = some v) : ∀ x ∈ vs.take i, strOf x ≠ strOf v := by
  rw [← strsMap h] at hd
  intro x hx e
  obtain ⟨j, hj, ex⟩ := List.mem_take_iff_getElem.mp hx
  obtain ⟨hi', ev⟩ := List.getElem?_eq_some_iff.mp hi
  have hj' : j < i := by omega
  have h1 := (List.nodup_iff_pairwise_ne.mp hd)
  rw [List.pairwise_iff_getElem] at h1
  refine h1 j i (by rw [List.length_map]; omega) (by rw [List.length_map]; omega) hj' ?_
  rw [List.getElem_map, List.getElem_map, ex, ev]
  exact e
theorem doneAll_nil {su : Str → List Value} : ∀ (vs : List Value) (p : (Str → Int) × List Value), (∀ v ∈ vs, su (strOf v) = []) → (doneAll su p vs).2 = p.2
  | [], _, _ => rfl
  | v :: vs, p, h => by
    show (doneAll su (doneOne su p v) vs).2 = _
    rw [doneAll_nil vs _ (fun x hx => h x (.tail _ hx))]
    unfold doneOne
    rw [h v (.head _)]
    rfl
noncomputable def suOf (ns : List Nd) (k : Str) : List Value := ((ns.find? fun nd => decide (nd.key = k)).map (·.su)).getD []
theorem suOf_at {ns : List Nd} (hnd : (ns.map (·.key)).Nodup) {nd : Nd} (hm : nd ∈ ns) : suOf ns nd.key = nd.su := by
  unfold suOf
  cases h : ns.find? fun x => decide (x.key = nd.key) with
  | none =>
    rw [List.find?_eq_none] at h
    exact absurd (decide_eq_true rfl) (h nd hm)
  | some x =>
    have h1 := List.find?_some h
    have h2 := List.mem_of_find?_eq_some h
    rw [key_inj hnd hm h2 (of_decide_eq_true h1)]
    rfl
theorem suOf_len {P : List (Str × Str)} {ns : List Nd} (g : G P ns) (hP : P.length ≤ 16) (k : Str) : (suOf ns k).length ≤ 40 := by
  unfold suOf
  cases h : ns.find? fun x => decide (x.key = k) with
  | none => exact Nat.zero_le _
  | some x => exact su_len g hP x (List.mem_of_find?_eq_some h)
theorem suOf_lines {P : List (Str × Str)} {ns : List Nd} (g : G P ns) {k : Str} (h : k ∈ keysF P) : StrsAre (suOf ns k) (linesOf P k) := by
  obtain ⟨nd, hm, rfl⟩ := node_of g h
  rw [suOf_at g.nodup hm]
  exact g.su nd hm
theorem str_in {vs : List Value} {ys : List Str} (h : StrsAre vs ys) {v : Value} (hv : v ∈ vs) : strOf v ∈ ys := by
  rw [← strsMap h]
  exact List.mem_map_of_mem hv
theorem run_ex {ps : List Pr} {ns : List Nd} (g : G (ps.map Pr.two) ns) (hN : Names (ps.map Pr.two)) (hP : ps.length ≤ 16) : ∃ su f' rds, (∀ nd ∈ ns, su nd.key = nd.su) ∧ (∀ k, (su k).length ≤ 40) ∧ Run ns su (fun k => (cnt (ps.map Pr.two) k : Int)) (readyV ns) rds f' ∧
    ((freeF (ps.map Pr.two) = [] ∧ rds = []) ∨ (freeF (ps.map Pr.two) ≠ [] ∧ ∃ a b, rds = [a, b] ∧ StrsAre a (freeF (ps.map Pr.two)) ∧ StrsAre b (dueF (freeF (ps.map Pr.two)) ps))) := by
  have hA := ready_free g
  have hd := free_nodup (ps.map Pr.two)
  have hmf := @mem_free (ps.map Pr.two)
  have hfl : (freeF (ps.map Pr.two)).length ≤ 16 := by
    have h1 := List.length_filter_le (fun n => decide (n ∉ (ps.map Pr.two).map (·.1))) (namesF ((ps.map Pr.two).map (·.2)))
    have h2 := namesF_len ((ps.map Pr.two).map (·.2))
    rw [List.length_map, List.length_map] at h2
    show (List.filter (fun n => decide (n ∉ (ps.map Pr.two).map (·.1))) (namesF ((ps.map Pr.two).map (·.2)))).length ≤ 16
    omega
  have hPl : (ps.map Pr.two).length ≤ 16 := by rw [List.length_map]; exact hP
  have hs1 : ∀ nd ∈ ns, suOf ns nd.key = nd.su := fun nd hm => suOf_at g.nodup hm
  have hs2 := suOf_len g hPl
  have hdn := due_nodup hN hd
  have hdl := due_len (ps := ps) hd
  have hdm : ∀ {y : Str}, y ∈ dueF (freeF (ps.map Pr.two)) ps → y ∈ keysF (ps.map Pr.two) ∧ suOf ns y = [] := fun {y} hy => by
    obtain ⟨n, hn, hyn⟩ := mem_due hy
    have hk : y ∈ keysF (ps.map Pr.two) := mem_keysF.mpr ⟨_, hyn, .inl rfl⟩
    refine ⟨hk, strsNil ?_⟩
    have h1 := suOf_lines g hk
    have h2 : linesOf (ps.map Pr.two) y = [] := by
      cases h3 : linesOf (ps.map Pr.two) y with
      | nil => rfl
      | cons l r =>
        have h4 : (l, y) ∈ ps.map Pr.two := mem_lines.mp (by rw [h3]; exact .head _)
        have h5 : stripF y = y := (hN _ h4).2
        have h6 : stripF y = n := (hN _ hyn).1
        have h7 : n = y := h6.symm.trans h5
        exact absurd (List.mem_map_of_mem (f := (·.1)) hyn) (h7 ▸ (hmf hn).2)
    rw [h2] at h1
    exact h1
  generalize hfs : freeF (ps.map Pr.two) = fs at *
  generalize readyV ns = A at *
  by_cases e : fs = []
  · subst e
    rw [strsNil hA]
    exact ⟨suOf ns, _, [], hs1, hs2, .stop _, .inl ⟨rfl, rfl⟩⟩
  · have hkA : ∀ {n : Str}, n ∈ fs → n ∈ keysF (ps.map Pr.two) := fun {n} hn => by
      obtain ⟨p, hp, ep⟩ := List.mem_map.mp (hmf hn).1
      exact mem_keysF.mpr ⟨p, hp, .inr ep⟩
    have node : ∀ {vs : List Value} {ys : List Str}, StrsAre vs ys → (∀ y ∈ ys, y ∈ keysF (ps.map Pr.two)) → ∀ v ∈ vs, ∃ nd ∈ ns, ∃ t, v = .str nd.key t := fun {vs ys} h hy v hv => by
      obtain ⟨y, hm, t, rfl⟩ := strsMem h v hv
      obtain ⟨nd, hn, ek⟩ := node_of g (hy y hm)
      exact ⟨nd, hn, t, by rw [ek]⟩
    have hB : StrsAre (doneAll (suOf ns) (outF (A.map strOf) (fun k => (cnt (ps.map Pr.two) k : Int)), []) A).2 (dueF fs ps) := by
      have h1 := doneAll_last hN (su := suOf ns) hA (outF (A.map strOf) (fun k => (cnt (ps.map Pr.two) k : Int)), []) [] hd (fun n hn => (hmf hn).2) (fun n hn => suOf_lines g (hkA hn)) .nil (fun q hq _ => by
        show outF (A.map strOf) (fun k => (cnt (ps.map Pr.two) k : Int)) q.1 = _
        rw [outF_off _ _ (by rw [strsMap hA]; exact fun hm => (hmf hm).2 (List.mem_map_of_mem (f := (·.1)) hq))])
      rw [dueF_last]
      exact h1
    have hA0 : ∀ i v, A[i]? = some v → (doneAll (suOf ns) (outF (A.map strOf) (fun k => (cnt (ps.map Pr.two) k : Int)), []) (A.take i)).1 (strOf v) = -1 := fun i v hi => by
      have hv := List.mem_of_getElem? hi
      rw [doneAll_off _ _ (out_take hA hd hi) (fun x hx => ⟨_, suOf_lines g (hkA (str_in hA (List.mem_of_mem_take hx))), fun hl => (hmf (str_in hA hv)).2 (List.mem_map_of_mem (f := (·.1)) (mem_lines.mp hl))⟩)]
      exact outF_on _ _ (List.mem_map_of_mem hv)
    generalize hdA : doneAll (suOf ns) (outF (A.map strOf) (fun k => (cnt (ps.map Pr.two) k : Int)), []) A = D at *
    obtain ⟨f1, B⟩ := D
    have hBk : ∀ y ∈ dueF fs ps, y ∈ keysF (ps.map Pr.two) := fun y hy => (hdm hy).1
    have hB0 : ∀ i v, B[i]? = some v → (doneAll (suOf ns) (outF (B.map strOf) f1, []) (B.take i)).1 (strOf v) = -1 := fun i v hi => by
      have hv := List.mem_of_getElem? hi
      rw [doneAll_off _ _ (out_take hB hdn hi) (fun x hx => ⟨[], by rw [(hdm (str_in hB (List.mem_of_mem_take hx))).2]; exact .nil, fun h => nomatch h⟩)]
      exact outF_on _ _ (List.mem_map_of_mem hv)
    have hC : (doneAll (suOf ns) (outF (B.map strOf) f1, []) B).2 = [] := doneAll_nil B _ fun v hv => (hdm (str_in hB hv)).2
    have hlA := strsLen hA
    have hlB := strsLen hB
    have hBne : B ≠ [] := by
      intro hb
      cases fs with
      | nil => exact e rfl
      | cons n fs =>
        obtain ⟨p, hp, ep⟩ := List.mem_map.mp (hmf (n := n) (.head _)).1
        have h1 : p.1 ∈ dueF (n :: fs) ps := by
          rw [dueF_last]
          exact List.mem_flatMap.mpr ⟨n, .head _, lastF_mem.mpr (mem_lines.mpr (by rw [← ep]; exact hp))⟩
        have h2 := List.length_pos_of_mem h1
        rw [hb, List.length_nil] at hlB
        omega
    have hAne : A ≠ [] := fun ha => e (List.length_eq_zero_iff.mp (by rw [← hlA, ha]; rfl))
    refine ⟨suOf ns, (doneAll (suOf ns) (outF (B.map strOf) f1, []) B).1, [A, B], hs1, hs2, .turn _ A [B] _ hAne (by omega) (node hA fun y hy => hkA hy) hA0 ?_, .inr ⟨e, A, B, rfl, hA, hB⟩⟩
    rw [hdA]
    refine .turn _ B [] _ hBne (by simp only at hlB; omega) (node hB hBk) hB0 ?_
    rw [hC]
    exact .stop _
theorem any_str {vs : List Value} {ys : List Str} (h : StrsAre vs ys) (k : Str) : vs.any (·.isStr k) = decide (k ∈ ys) := by
  induction h with
  | nil => rfl
  | cons y t _ ih =>
    rw [List.any_cons, ih]
    show ((y == k) || _) = _
    by_cases e : y = k
    · subst e; simp
    · have e' : ¬ k = y := fun q => e q.symm
      simp [e, e']
theorem first_held {P : List (Str × Str)} {ns : List Nd} (g : G P ns) (hN : Names P) : firstHeld ns = (heldF P).head? := by
  have e1 : heldF P = (namesF (P.map (·.2))).filter fun k => decide ((k, k) ∈ P) := by
    unfold heldF
    refine List.filter_congr fun n hn => ?_
    rw [decide_eq_decide]
    have hs := name_self hN (names_in hn)
    constructor
    · intro h
      have := mem_pair hN h
      rw [hs] at this
      exact this
    · intro h
      exact List.mem_map_of_mem (f := (·.1)) h
  have e2 : (keysF P).filter (fun k => decide ((k, k) ∈ P)) = (namesF (P.map (·.2))).filter fun k => decide ((k, k) ∈ P) := by
    refine filter_keys _ P fun p hp hq => ?_
    have h1 := of_decide_eq_true hq
    exact (hN _ h1).1.symm.trans (hN p hp).1
  have e3 : (ns.filter fun nd => nd.held).map (·.key) = (keysF P).filter fun k => decide ((k, k) ∈ P) := by
    rw [← g.keys, List.filter_map]
    congr 1
    refine List.filter_congr fun nd hm => ?_
    show nd.su.any (·.isStr nd.key) = decide ((nd.key, nd.key) ∈ P)
    rw [any_str (g.su nd hm), decide_eq_decide]
    exact mem_lines
  rw [e1, ← e2, ← e3, List.head?_map, List.head?_filter]
  rfl
theorem run_exK {ps : List Pr} {ns : List Nd} {G' : Prop} (g : G (ps.map Pr.two) ns) (hN : Names (ps.map Pr.two)) (hP : ps.length ≤ 16) (k : ∀ su f' rds, (∀ nd ∈ ns, su nd.key = nd.su) → (∀ k, (su k).length ≤ 40) → Run ns su (fun k => (cnt (ps.map Pr.two) k : Int)) (readyV ns) rds f' →
    ((freeF (ps.map Pr.two) = [] ∧ rds = []) ∨ (freeF (ps.map Pr.two) ≠ [] ∧ ∃ a b, rds = [a, b] ∧ StrsAre a (freeF (ps.map Pr.two)) ∧ StrsAre b (dueF (freeF (ps.map Pr.two)) ps))) → G') : G' := by
  obtain ⟨su, f', rds, h1, h2, h3, h4⟩ := run_ex g hN hP
  exact k su f' rds h1 h2 h3 h4
end
section
theorem kw24 : True := by
  w_top off
  k_with_none
  k_with "z getMethod ref" =>
    ((k_here; (with_reducible show wpAny _ _ (getMethod (Value.ref _) (Str.ofString "get") _) _ _ _); k_dflt (refine kdg_method (knd := PySem.strKind _ _) (by k_asm) (by k_mem) (by k_asm) ?_)))
  k_with "z call builtin:dict.get" =>
    ((k_here; k_dflt (refine kdg_get1 (knd := PySem.strKind _ _) (by k_asm) (by k_mem) (by k_asm) (by k_asm) (strKind_is _ _ _ _) _ (by k_asm) ?_); (try dsimp only [Option.getD])))
  k_with "z setItem ref str" =>
    ((k_here; k_dflt (refine' kda_set (knd := PySem.strKind _ _) (by k_asm) (by k_asm) (by k_updF) (by k_asm) (strKind_is _ _ _ _) (by (simp only [List.length_append, List.length_cons, List.length_nil, sizeLine_eq]; omega)) ?_); intro zh' zo' zF' zN' zhd'; (try dsimp only at zN'); (try first | rw [stored_nil] at zhd' | rw [stored_one (by assumption)] at zhd' | rw [stored_new _ _ _ (by assumption)] at zhd')))
  k_with "z exec For Name Name cons nil" =>
    ((k_here; (rename Fr _ _ _ _ => zlF'); (with_unfolding_all refine' For_turns zlF' ?_; k_whole)))
  k_with "z exec For Name Attribute cons nil" =>
    ((k_here; (rename Fr _ _ _ _ => zlF'); (with_unfolding_all refine' For_turns zlF' ?_; k_whole)))
  k_with "z exec For Name Call cons nil" =>
    ((k_here; (rename Fr _ _ _ _ => zlF'); (with_unfolding_all refine' For_turns zlF' ?_; k_whole)))
  k_with "z exec For Tuple Name cons nil" =>
    ((k_here; (rename Fr _ _ _ _ => zlF'); (with_unfolding_all refine' For_turns zlF' ?_; k_whole)))
  k_with "z exec For Name BinOp cons nil" =>
    ((k_here; (rename Fr _ _ _ _ => zlF'); (with_unfolding_all refine' For_turns zlF' ?_; k_whole)))
  k_with "z pyIter ref" =>
    ((k_here; (with_reducible show wpAny _ _ (pyIter (Value.ref _)) (fun it s₂ => TurnsAt _ _ _ _ _ _ _ _ _ it s₂) _ _); (rename Fr _ _ _ _ => zlF'); (rename News _ _ _ _ => zlN'); (with_unfolding_all refine iter_tup1 (by rfl) zlF' zlN' (by k_mem) (by rfl) (by rfl) ?_); clear zlF' zlN'; intro zi' zo' zh' ztk' zl1 zF' zN'; (try k_lt zl1)))
  k_with "z OneP" =>
    ((dsimp only [OneP]))
  k_with "z One" =>
    ((k_here; (k_dflt (refine' One.intro (by k_asm) (by k_asm) (by k_upd) (by k_mem) ?_; k_whole)); intro zh' ztk' zF' zN'))
  k_with "z subscriptTail" =>
    ((k_here; (with_reducible show wpAny _ _ (subscriptTail _ _ (Value.ref _) (Value.str _ _)) _ _ _); k_dflt (refine kda_item (knd := PySem.strKind _ _) (by k_asm) (by k_mem) (by k_asm) (strKind_is _ _ _ _) (by first | k_asm | exact vOne_get) ?_)))
  k_with "z call builtin:iter" =>
    ((k_here; (with_reducible show wpAny _ _ (call (Value.builtin "iter") [Value.ref _]) _ _ _); k_dflt (refine' iter_list_call (by k_asm) (by k_asm) (by k_mem) (by exact rfl) (by exact rfl) ?_; k_whole); intro zi' zh' zF' zN' zl1; (try k_lt zl1); (try k_sweep)))
  k_with "z getAttr ref" =>
    ((k_here; (with_reducible show wpAny _ _ (getAttr (Value.ref _) (Str.ofString "__next__") true) _ _ _); k_dflt (refine' next_attr (by k_asm) (by k_asm) (by k_mem) ?_; k_whole); intro zi' zh' zF' zN' zl1; (try k_lt zl1); (try k_sweep)))
  k_with "z callWith ref" =>
    ((k_here; (with_reducible show wpAny _ _ (callWith _ (Value.ref _) [] (backTo _ (starEach [] _)) []) _ _ _); k_dflt (refine' callWith_wrap (News.get (by k_asm) (by k_mem)) ?_; k_whole)))
  k_with "z call ref" =>
    ((k_here; (with_reducible show wpAny _ _ (call (Value.ref _) []) _ _ _); k_dflt (first
  | (refine' wrap_item (by k_asm) (by k_asm) (by k_mem) (by k_upd) (by k_mem) (by exact rfl) (by assumption) ?_; k_whole; intro zh' zF' zN'; (try k_sweep))
  | (refine' wrap_end (by exact rfl) (by k_asm) (by k_asm) (by k_mem) (by k_updF) (by k_mem) (by exact rfl) (by assumption) ?_; k_whole; intro zh₁' zh' ze' zo' zF' zN' ztiX'; (try dsimp only at zN')))))
  k_with "z noteFrame ref" =>
    ((k_here; (with_reducible rename Heap.NewExc _ _ _ _ => ztiX'); k_dflt (refine' caughtT (by exact rfl) (by assumption) ztiX' (by k_asm) (by k_asm) (by assumption) (by k_upd) (by assumption) (by assumption) (by decide +kernel) (by decide +kernel) (by decide +kernel) (by decide +kernel) (by decide +kernel) (by exact rfl) (by exact rfl) (by passes_own) ?_; k_whole); clear ztiX'; intro zh' zfrs' zsu' zfr' zhR' zh0' zF' zN'; (try dsimp only at zN')))
  k_with "z compareOp In str ref" =>
    ((k_here; k_dflt (first
  | (refine' set_in_b (by k_asm) (by k_updF) (by k_asm) (by first | assumption | exact Nat.lt_of_succ_lt (by assumption) | kse_small) _ (by assumption) ?_)
  | (refine' kda_in (knd := PySem.strKind _ _) (by k_asm) (by k_mem) (by k_asm) (by k_asm) (strKind_is _ _ _ _) _ (by first | assumption | exact vOne_self | exact vOne_ne (by assumption) | rfl) ?_))))
  k_with "z delItem ref str" =>
    ((k_here; k_dflt (refine' kob_del (knd := PySem.strKind _ _) (by k_asm) (by k_asm) (by k_updF) (by k_asm) (strKind_is _ _ _ _) (by first | exact vOne_self | exact vTwo_self | assumption) (by (rw [sizeLine_eq]; exact Nat.le_of_ble_eq_true rfl)) ?_); intro zh' zo' zF' zN' zhd'; (try dsimp only at zN'); (first | rw [wOne] at zhd' | rw [wTwo (by assumption)] at zhd')))
  k_with "z WhlRest" =>
    (((with_reducible show WhlRest _ _ _ _ _ (PySem.Expr.Constant _ _ _) _ _ _ _ _); refine parked ?_))
  k_with "z truthy ref" =>
    ((k_here; (with_reducible show wpAny _ _ (truthy (Value.ref _)) _ _ _); k_dflt (first
  | (refine' truthyPush (by k_asm) (by k_mem) (by first | exact Nat.zero_le _ | size_fits) ?_)
  | (refine' truthyNil (by k_asm) (by k_mem) ?_)
  | (refine' truthyCons (by k_asm) (by k_mem) (by size_fits) ?_))))
  k_with "z call type:bool" =>
    ((k_here; (with_reducible show wpAny _ _ (call _ [Value.ref _]) _ _ _); k_dflt (refine' boolList (by k_asm) (by k_mem) (by (simp only [List.size_toArray]; assumption)) ?_)))
  k_with "z call type:tuple" =>
    ((k_here; (with_reducible show wpAny _ _ (call (Value.type _) [Value.ref _]) _ _ _); k_dflt (refine' kde_tupleOf (by k_asm) (by k_asm) (by exact News.isList (by k_asm) (by k_mem)) (by first | omega | (simp only [List.size_toArray]; omega)) rfl ?_); intro zD' zh' zF' zN' zl1; (try k_lt zl1)))
  k_with "z call builtin:len" =>
    ((k_here; (with_reducible show wpAny _ _ (call (Value.builtin "len") [Value.ref _]) _ _ _); k_dflt (refine' kun_lenT (by exact News.isTup (by k_asm) (by k_mem)) rfl (by (simp only [List.size_toArray]; omega)) ?_)))
  k_with "z execs cons" =>
    (((try (k_here; k_made)); (try (with_reducible refine tok_cut1 ?_; intro tk; (try dsimp only))); (try k_fold); (with_reducible refine wpAny_execs_cons ?_); (try dsimp only); (try k_fold)))
  k_with "k_conj" =>
    (first | exact c0 (by assumption) | exact c1 (by assumption) | exact c2 (by assumption) | exact c3 (by assumption) | exact c4 (by assumption) | exact c5 (by assumption) | exact c6 (by assumption) | exact c7 (by assumption) | exact c8 (by assumption) | exact c9 (by assumption) | exact c10 (by assumption) | exact c11 (by assumption))
  trivial
theorem dueAt_mem {n : Str} {ps : List Pr} {k : Nat} {y : Str} (h : y ∈ dueAt n ps k) : ∃ p ∈ ps, y = p.l := by
  unfold dueAt at h
  split at h
  · rename_i p hp
    split at h
    · rw [List.mem_singleton] at h
      exact ⟨p, List.mem_of_getElem? hp, h⟩
    · exact nomatch h
  · exact nomatch h
theorem dueUp_mem {n : Str} {ps : List Pr} {y : Str} : ∀ {k : Nat}, y ∈ dueUp n ps k → ∃ p ∈ ps, y = p.l
  | 0, h => nomatch h
  | k + 1, h => by
    rcases List.mem_append.mp (h : y ∈ dueUp n ps k ++ dueAt n ps k) with h | h
    · exact dueUp_mem h
    · exact dueAt_mem h
theorem dueF_mem {fs : List Str} {ps : List Pr} {y : Str} (h : y ∈ dueF fs ps) : ∃ p ∈ ps, y = p.l := by
  unfold dueF at h
  obtain ⟨n, _, h⟩ := List.mem_flatMap.mp h
  exact dueUp_mem h
theorem okTup {ys : List Str} (h : ∀ y ∈ ys, okS y) : kqdOk 8 (.tuple (ys.map Dat.str)) = true := by
  have h' : ∀ y ∈ ys, PyData.strOk y = true := h
  simpa [kqdOk] using h'
theorem due_both {w : World} {mean : ExcName → Option Value} {mg mb : Str → Option Value} {dp un : Nat} {gd : Option (List Code)} {cn : Str} {cs : Scope} {a : Addr} {ccd : Value} {cl : List (Str × Addr)} {outer : List Env} {A₀ : Around} {base h₀ : Heap} {L : Addr} {m : Str → Option Value}
    {news : List (Addr × Obj)} {s : Shared} {Q E : Value → Shared → Prop} (cx : Cx w mean mg mb dp un cs outer A₀ base h₀) (F : Fr h₀ L s.heap m) {lp lf : Addr} {ps : List Pr} {fv : List Value} {fs : List Str} {e ef : Nat} (hlen : ps.length ≤ 20) (hfl : fs.length ≤ 20) (hfs : StrsAre fv fs)
    (hok1 : ∀ p ∈ ps, okS p.l ∧ okS p.n) (hok2 : ∀ y ∈ fs, okS y)
    (N : News h₀ L s.heap news) (hlp : (lp, W.listOf (ps.map Pr.val).toArray e) ∈ news) (hlf : (lf, W.listOf fv.toArray ef) ∈ news) (hps : ∀ p ∈ ps, p.obj ∈ news)
    {rs : List (Addr × List Value)} (hrs : ∀ p ∈ rs, tupOf p ∈ news) (hds : (fs = [] ∧ rs.map Prod.snd = []) ∨ (fs ≠ [] ∧ ∃ a b, rs.map Prod.snd = [a, b] ∧ StrsAre a fs ∧ StrsAre b (dueF fs ps)))
    (ret : ∀ (R : Addr) (oR : Obj) (ys : List Value) (kR : Nat) (ds : List Dat) h' tk' (Z3 : List (Addr × Obj)), Fr h₀ L h' m → News h₀ L h' Z3 → (∀ p ∈ news, p ∈ Z3) → (R, oR) ∈ Z3 → oR.cls = .type "list" → oR.data = .seq ys.toArray kR →
      DatAll Z3 ys ds → DatAll Z3 (rs.map fun p => Value.ref p.1) ds → (∀ d ∈ ds, kqdOk 8 d = true) → Q (.ref R) { s with heap := h', toks := tk' }) :
    wpAny (model Challenge.rw_mq0328_01.row.prog w) (ktrTop dp un gd cn cs L a ccd cl outer) (call (.ref 183) [.ref lp, .ref lf]) Q E s := by
  refine law_due cx F hlen hfl hfs hok1 hok2 N hlp hlf hps (fun h0 R e' h' tk' F' N' => ?_) (fun h0 R T1 T2 sv e' h' tk' hsv F' N' => ?_)
  · rcases hds with ⟨_, h2⟩ | ⟨h1, _⟩
    · have h3 : rs = [] := List.map_eq_nil_iff.mp h2
      subst h3
      exact ret R _ [] _ [] h' tk' _ F' N' (fun p hp => .tail _ hp) (.head _) rfl rfl .nil .nil (fun d hd => nomatch hd)
    · exact absurd h0 h1
  · rcases hds with ⟨h1, _⟩ | ⟨_, a, b, h2, ha, hb⟩
    · exact absurd h1 h0
    · match rs, h2, hrs with
      | [(A1, v1), (A2, v2)], h2, hrs =>
        obtain ⟨rfl, rfl⟩ : v1 = a ∧ v2 = b := by simpa using h2
        have m1 : tupOf (A1, v1) ∈ news := hrs _ (.head _)
        have m2 : tupOf (A2, v2) ∈ news := hrs _ (.tail _ (.head _))
        refine ret R _ [.ref T1, .ref T2] _ [.tuple (fs.map Dat.str), .tuple ((dueF fs ps).map Dat.str)] h' tk' _ F' N' (fun p hp => .tail _ (.tail _ (.tail _ hp))) (.head _) rfl rfl ?_ ?_ ?_
        · exact .cons (.tuple (.tail _ (.tail _ (.head _))) (strsDat hfs)) (.cons (.tuple (.tail _ (.head _)) (strsDat hsv)) .nil)
        · exact .cons (.tuple (.tail _ (.tail _ (.tail _ m1))) (strsDat ha)) (.cons (.tuple (.tail _ (.tail _ (.tail _ m2))) (strsDat hb)) .nil)
        · intro d hd
          rcases List.mem_cons.mp hd with rfl | hd
          · exact okTup hok2
          rcases List.mem_cons.mp hd with rfl | hd
          · exact okTup fun y hy => by
              obtain ⟨p, hp, rfl⟩ := dueF_mem hy
              exact (hok1 p hp).1
          · exact nomatch hd
theorem addFold_mem {y : Str} : ∀ (l : List Str) (acc : List Str), y ∈ l.foldl addName acc → y ∈ acc ∨ y ∈ l
  | [], acc, h => .inl h
  | x :: l, acc, h => by
    rcases addFold_mem l (addName acc x) h with h | h
    · rcases mem_addName.mp h with h | h
      · exact .inl h
      · exact .inr (h ▸ .head _)
    · exact .inr (.tail _ h)
theorem namesF_mem {l : List Str} {y : Str} (h : y ∈ namesF l) : y ∈ l := (addFold_mem l [] h).resolve_left (fun h => nomatch h)
end
section
theorem kw25 : True := by
  w_top off
  k_with_none
  k_with "z getMethod ref" =>
    ((k_here; (with_reducible show wpAny _ _ (getMethod (Value.ref _) (Str.ofString "get") _) _ _ _); k_dflt (refine kdg_method (knd := PySem.strKind _ _) (by k_asm) (by k_mem) (by k_asm) ?_)))
  k_with "z call builtin:dict.get" =>
    ((k_here; k_dflt (refine kdg_get1 (knd := PySem.strKind _ _) (by k_asm) (by k_mem) (by k_asm) (by k_asm) (strKind_is _ _ _ _) _ (by k_asm) ?_); (try dsimp only [Option.getD])))
  k_with "z setItem ref str" =>
    ((k_here; k_dflt (refine' kda_set (knd := PySem.strKind _ _) (by k_asm) (by k_asm) (by k_updF) (by k_asm) (strKind_is _ _ _ _) (by (simp only [List.length_append, List.length_cons, List.length_nil, sizeLine_eq]; omega)) ?_); intro zh' zo' zF' zN' zhd'; (try dsimp only at zN'); (try first | rw [stored_nil] at zhd' | rw [stored_one (by assumption)] at zhd' | rw [stored_new _ _ _ (by assumption)] at zhd')))
  k_with "z exec For Name Name cons nil" =>
    ((k_here; (rename Fr _ _ _ _ => zlF'); (with_unfolding_all refine' For_turns zlF' ?_; k_whole)))
  k_with "z exec For Name Attribute cons nil" =>
    ((k_here; (rename Fr _ _ _ _ => zlF'); (with_unfolding_all refine' For_turns zlF' ?_; k_whole)))
  k_with "z exec For Name Call cons nil" =>
    ((k_here; (rename Fr _ _ _ _ => zlF'); (with_unfolding_all refine' For_turns zlF' ?_; k_whole)))
  k_with "z exec For Tuple Name cons nil" =>
    ((k_here; (rename Fr _ _ _ _ => zlF'); (with_unfolding_all refine' For_turns zlF' ?_; k_whole)))
  k_with "z exec For Name BinOp cons nil" =>
    ((k_here; (rename Fr _ _ _ _ => zlF'); (with_unfolding_all refine' For_turns zlF' ?_; k_whole)))
  k_with "z pyIter ref" =>
    ((k_here; (with_reducible show wpAny _ _ (pyIter (Value.ref _)) (fun it s₂ => TurnsAt _ _ _ _ _ _ _ _ _ it s₂) _ _); (rename Fr _ _ _ _ => zlF'); (rename News _ _ _ _ => zlN'); (with_unfolding_all refine iter_tup1 (by rfl) zlF' zlN' (by k_mem) (by rfl) (by rfl) ?_); clear zlF' zlN'; intro zi' zo' zh' ztk' zl1 zF' zN'; (try k_lt zl1)))
  k_with "z OneP" =>
    ((dsimp only [OneP]))
  k_with "z One" =>
    ((k_here; (k_dflt (refine' One.intro (by k_asm) (by k_asm) (by k_upd) (by k_mem) ?_; k_whole)); intro zh' ztk' zF' zN'))
  k_with "z subscriptTail" =>
    ((k_here; (with_reducible show wpAny _ _ (subscriptTail _ _ (Value.ref _) (Value.str _ _)) _ _ _); k_dflt (refine kda_item (knd := PySem.strKind _ _) (by k_asm) (by k_mem) (by k_asm) (strKind_is _ _ _ _) (by first | k_asm | exact vOne_get) ?_)))
  k_with "z call builtin:iter" =>
    ((k_here; (with_reducible show wpAny _ _ (call (Value.builtin "iter") [Value.ref _]) _ _ _); k_dflt (refine' iter_list_call (by k_asm) (by k_asm) (by k_mem) (by exact rfl) (by exact rfl) ?_; k_whole); intro zi' zh' zF' zN' zl1; (try k_lt zl1); (try k_sweep)))
  k_with "z getAttr ref" =>
    ((k_here; (with_reducible show wpAny _ _ (getAttr (Value.ref _) (Str.ofString "__next__") true) _ _ _); k_dflt (refine' next_attr (by k_asm) (by k_asm) (by k_mem) ?_; k_whole); intro zi' zh' zF' zN' zl1; (try k_lt zl1); (try k_sweep)))
  k_with "z callWith ref" =>
    ((k_here; (with_reducible show wpAny _ _ (callWith _ (Value.ref _) [] (backTo _ (starEach [] _)) []) _ _ _); k_dflt (refine' callWith_wrap (News.get (by k_asm) (by k_mem)) ?_; k_whole)))
  k_with "z call ref" =>
    ((k_here; (with_reducible show wpAny _ _ (call (Value.ref _) []) _ _ _); k_dflt (first
  | (refine' wrap_item (by k_asm) (by k_asm) (by k_mem) (by k_upd) (by k_mem) (by exact rfl) (by assumption) ?_; k_whole; intro zh' zF' zN'; (try k_sweep))
  | (refine' wrap_end (by exact rfl) (by k_asm) (by k_asm) (by k_mem) (by k_updF) (by k_mem) (by exact rfl) (by assumption) ?_; k_whole; intro zh₁' zh' ze' zo' zF' zN' ztiX'; (try dsimp only at zN')))))
  k_with "z noteFrame ref" =>
    ((k_here; (with_reducible rename Heap.NewExc _ _ _ _ => ztiX'); k_dflt (refine' caughtT (by exact rfl) (by assumption) ztiX' (by k_asm) (by k_asm) (by assumption) (by k_upd) (by assumption) (by assumption) (by decide +kernel) (by decide +kernel) (by decide +kernel) (by decide +kernel) (by decide +kernel) (by exact rfl) (by exact rfl) (by passes_own) ?_; k_whole); clear ztiX'; intro zh' zfrs' zsu' zfr' zhR' zh0' zF' zN'; (try dsimp only at zN')))
  k_with "z compareOp In str ref" =>
    ((k_here; k_dflt (first
  | (refine' set_in_b (by k_asm) (by k_updF) (by k_asm) (by first | assumption | exact Nat.lt_of_succ_lt (by assumption) | kse_small) _ (by assumption) ?_)
  | (refine' kda_in (knd := PySem.strKind _ _) (by k_asm) (by k_mem) (by k_asm) (by k_asm) (strKind_is _ _ _ _) _ (by first | assumption | exact vOne_self | exact vOne_ne (by assumption) | rfl) ?_))))
  k_with "z delItem ref str" =>
    ((k_here; k_dflt (refine' kob_del (knd := PySem.strKind _ _) (by k_asm) (by k_asm) (by k_updF) (by k_asm) (strKind_is _ _ _ _) (by first | exact vOne_self | exact vTwo_self | assumption) (by (rw [sizeLine_eq]; exact Nat.le_of_ble_eq_true rfl)) ?_); intro zh' zo' zF' zN' zhd'; (try dsimp only at zN'); (first | rw [wOne] at zhd' | rw [wTwo (by assumption)] at zhd')))
  k_with "z WhlRest" =>
    (((with_reducible show WhlRest _ _ _ _ _ (PySem.Expr.Constant _ _ _) _ _ _ _ _); refine parked ?_))
  k_with "z truthy ref" =>
    ((k_here; (with_reducible show wpAny _ _ (truthy (Value.ref _)) _ _ _); k_dflt (first
  | (refine' truthyPush (by k_asm) (by k_mem) (by first | exact Nat.zero_le _ | size_fits) ?_)
  | (refine' truthyNil (by k_asm) (by k_mem) ?_)
  | (refine' truthyCons (by k_asm) (by k_mem) (by size_fits) ?_))))
  k_with "z call type:bool" =>
    ((k_here; (with_reducible show wpAny _ _ (call _ [Value.ref _]) _ _ _); k_dflt (refine' boolList (by k_asm) (by k_mem) (by (simp only [List.size_toArray]; assumption)) ?_)))
  k_with "z call type:tuple" =>
    ((k_here; (with_reducible show wpAny _ _ (call (Value.type _) [Value.ref _]) _ _ _); k_dflt (refine' kde_tupleOf (by k_asm) (by k_asm) (by exact News.isList (by k_asm) (by k_mem)) (by first | omega | (simp only [List.size_toArray]; omega)) rfl ?_); intro zD' zh' zF' zN' zl1; (try k_lt zl1)))
  k_with "z call builtin:len" =>
    ((k_here; (with_reducible show wpAny _ _ (call (Value.builtin "len") [Value.ref _]) _ _ _); k_dflt (refine' kun_lenT (by exact News.isTup (by k_asm) (by k_mem)) rfl (by (simp only [List.size_toArray]; omega)) ?_)))
  k_with "z execs cons" =>
    (((try (k_here; k_made)); (try (with_reducible refine tok_cut1 ?_; intro tk; (try dsimp only))); (try k_fold); (with_reducible refine wpAny_execs_cons ?_); (try dsimp only); (try k_fold)))
  k_with "k_conj" =>
    (first | exact c0 (by assumption) | exact c1 (by assumption) | exact c2 (by assumption) | exact c3 (by assumption) | exact c4 (by assumption) | exact c5 (by assumption) | exact c6 (by assumption) | exact c7 (by assumption) | exact c8 (by assumption) | exact c9 (by assumption) | exact c10 (by assumption) | exact c11 (by assumption))
  k_with "z compareOp NotEq ref ref" =>
    ((k_here; (with_reducible show wpAny _ _ (compareOp CmpOp.NotEq (Value.ref _) (Value.ref _)) _ _ _); refine parked ?_))
  k_with "z compareOp Eq ref ref" =>
    ((k_here; (with_reducible show wpAny _ _ (compareOp CmpOp.Eq (Value.ref _) (Value.ref _)) _ _ _); refine parked ?_))
  k_with "z exec Assign cons ListComp" =>
    ((k_here; (with_reducible show wpAny _ _ (exec (Stmt.Assign _ (Expr.ListComp _ [⟨_, _, [_], _⟩] _ _) _) _) _ _ _); k_dflt (refine LCt.Assign_ListComp_T (F₀ := by k_asm) (by rfl) (by with_unfolding_all rfl) (by with_unfolding_all rfl) (by decide) (by rfl) (by decide) (by rfl) (by rfl) (by rfl) ?_)))
  k_with "z compareOp NotIn str ref" =>
    ((k_here; (with_reducible show wpAny _ _ (compareOp CmpOp.NotIn (Value.str _ _) (Value.ref _)) _ _ _); (with_unfolding_all refine' notin_list_strs (by exact News.isList (by k_asm) (by k_mem)) (by assumption) ?_; k_whole)))
  k_with "z compareOp In str ref" =>
    ((k_here; (with_reducible show wpAny _ _ (compareOp CmpOp.In (Value.str _ _) (Value.ref _)) _ _ _); (with_unfolding_all refine' in_list_strs (by exact News.isList (by k_asm) (by k_mem)) (by assumption) ?_; k_whole)))
  k_with "z eval ListComp" =>
    ((k_here; first | k_dflt (refine LCg.ListComp_U (by k_asm) (by with_unfolding_all rfl) (by decide) (by rfl) (by decide) (by rfl) ?_) | k_dflt (refine LCt.ListComp_T (by k_asm) (by with_unfolding_all rfl) (by decide) (by rfl) (by decide) (by rfl) ?_)))
  k_with "z call ref" =>
    ((k_here; (with_reducible show wpAny _ _ (call (Value.ref 169) _) _ _ _); refine parked ?_))
  k_with "z call ref" =>
    ((k_here; (with_reducible show wpAny _ _ (call (Value.ref 87) _) _ _ _); refine parked ?_))
  k_with "z call ref" =>
    ((k_here; (with_reducible show wpAny _ _ (call (Value.ref 148) _) _ _ _); refine parked ?_))
  k_with "z call ref" =>
    ((k_here; (with_reducible show wpAny _ _ (call (Value.ref 127) _) _ _ _); refine parked ?_))
  k_with "z call ref" =>
    ((k_here; (with_reducible show wpAny _ _ (call (Value.ref 155) _) _ _ _); refine parked ?_))
  k_with "z call ref" =>
    ((k_here; (with_reducible show wpAny _ _ (call (Value.ref 162) _) _ _ _); refine parked ?_))
  k_with "z call ref" =>
    ((k_here; (with_reducible show wpAny _ _ (call (Value.ref 176) _) _ _ _); refine parked ?_))
  k_with "z call ref" =>
    ((k_here; (with_reducible show wpAny _ _ (call (Value.ref 183) _) _ _ _); refine parked ?_))
  k_with "z call ref" =>
    ((k_here; (with_reducible show wpAny _ _ (call (Value.ref 99) _) _ _ _); refine parked ?_))
  trivial
theorem newsNil {h₀ h : Heap} {L : Addr} {l : List (Addr × Obj)} (N : News h₀ L h l) : News h₀ L h (l ++ []) := by rw [List.append_nil]; exact N
theorem storeX_C {M : Model} {A : Around} {E : Value → Shared → Prop} {s : Shared} {h₀ : Heap} {L a : Addr} {m : Str → Option Value} {cn : Str} {cs : Scope} {ccd : Value} {cl : List (Str × Addr)}
    {x : Str} {v : Value} {news : List (Addr × Obj)} {c : Addr} {o : Obj} {v₀ : Option Value} {Q : Unit → Shared → Prop} (F : Fr h₀ L s.heap m) (N : News h₀ L s.heap ((c, o) :: news)) (hc : cl.lookup x = some c) (off : ∀ p ∈ news, p.1 ≠ c) (hd : o.data = .cell v₀)
    (h : ∀ h' o', Fr h₀ L h' m → News h₀ L h' ((c, o') :: news) → o'.data = .cell (some v) → Q () { s with heap := h' })
    (hk : cs.kind = .function := by rfl) (hx : (envX cn cs L a ccd cl).kindOf x = some .cell := by rfl) : wpAny M A (storeName (envX cn cs L a ccd cl) x v) Q E s := by
  have hmem := N (c, o) (.head _)
  refine wpAny_storeName_cell hk hx hc ⟨o, hmem.1, hd⟩ fun h' hv hs => ?_
  obtain ⟨o', ho', hd'⟩ := hv
  refine h h' o' (F.change hs hmem.2.1 hmem.2.2) (News.setAt (own := []) N (fun _ h => nomatch h) off hs ho') hd'
theorem strsPs : ∀ ps : List Pr, StrsAre (ps.map fun p => Value.str p.l p.lk) (ps.map (·.l))
  | [] => .nil
  | p :: ps => .cons p.l p.lk (strsPs ps)
theorem filt_yes {q : Str → Bool} {nm : List Str} {i : Nat} {y : Str} {ys : List Value} (t : Tok) (h : StrsAre ys ((nm.take i).filter q)) (hi : nm[i]? = some y) (hq : q y = true) : StrsAre (ys ++ [.str y t]) ((nm.take (i + 1)).filter q) := by
  rw [takeN_snoc hi, List.filter_append, List.filter_cons_of_pos hq]
  exact strsSnoc h y t
theorem filt_no {q : Str → Bool} {nm : List Str} {i : Nat} {y : Str} {ys : List Value} (h : StrsAre ys ((nm.take i).filter q)) (hi : nm[i]? = some y) (hq : q y = false) : StrsAre ys ((nm.take (i + 1)).filter q) := by
  rw [takeN_snoc hi, List.filter_append, List.filter_cons_of_neg (by rw [hq]; decide), List.filter_nil, List.append_nil]
  exact h
theorem any_yes {ls : List Str} {y : Str} (h : (ls.any fun x => x == y) = true) : y ∈ ls := by
  obtain ⟨z, hz, e⟩ := List.any_eq_true.mp h
  have : z = y := by simpa using e
  exact this ▸ hz
theorem any_no {ls : List Str} {y : Str} (h : (ls.any fun x => x == y) = false) : y ∉ ls := fun hm => by
  exact Bool.noConfusion (h.symm.trans (List.any_eq_true.mpr ⟨y, hm, (by simp)⟩))
theorem ne_unit {prog : Program} {w : World} {A : Around} {E : Value → Shared → Prop} {s : Shared} {h₀ : Heap} {L a b : Addr} {oa ob : Obj} {ka kb : Nat} {news : List (Addr × Obj)} {Q : Value → Shared → Prop}
    (N : News h₀ L s.heap news) (ma : (a, oa) ∈ news) (ca : oa.cls = .type "tuple") (da : oa.data = .seq #[] ka) (mb : (b, ob) ∈ news) (cb : ob.cls = .type "tuple") (db : ob.data = .seq #[] kb) (hu : A.units + 64 < cLine)
    (h : Q (.bool false) s) : wpAny (model prog w) A (compareOp .NotEq (.ref a) (.ref b)) Q E s :=
  ne_dataH (reads_tuple_at (xs := []) (as := []) (N.get ma) ca da .nil) (reads_tuple_at (xs := []) (as := []) (N.get mb) cb db .nil) (by decide) (by decide) hu h
theorem nm3 {h₀ h : Heap} {L a b c : Addr} {oa ob oc : Obj} {r : List (Addr × Obj)} (_ : News h₀ L h ((a, oa) :: (b, ob) :: (c, oc) :: r)) : ∃ a' b' c', a' = a ∧ b' = b ∧ c' = c := ⟨_, _, _, rfl, rfl, rfl⟩
/-- what holds between the turns over the pairs -/
inductive LawA (w : World) (x dx d : Addr) (u1 u2 u3 u4 up uf : Tok) (P : List (Str × Str)) (rest : List (Addr × Obj)) (m0 : Str → Option Value) (i : Nat) (m' : Str → Option Value) (l : List (Addr × Obj)) : Prop
  | mk (ns : List Nd) (od : Obj) (em : ∀ y, y ≠ Str.ofString "pair" → m' y = m0 y) (g : G (P.take i) ns) (hod : od.IsDictOf (strKind Challenge.rw_mq0328_01.row.prog w) (kvsN ns))
    (hS : Sep ((x, instObj 137 dx) :: (dx, sortD w u1 u2 u3 u4 d .none (.int 0 up) (.int 0 uf)) :: (d, od) :: (ledN ns ++ rest)))
    (el : l = (x, instObj 137 dx) :: (dx, sortD w u1 u2 u3 u4 d .none (.int 0 up) (.int 0 uf)) :: (d, od) :: (ledN ns ++ rest)) : LawA w x dx d u1 u2 u3 u4 up uf P rest m0 i m' l
inductive CompA (f : Nat → List Value) (l0 : List (Addr × Obj)) (i : Nat) : List Value → List (Addr × Obj) → Prop
  | mk : CompA f l0 i (f i) l0
inductive CompB (q : Nat → List Str) (l0 : List (Addr × Obj)) (i : Nat) (ys : List Value) : List (Addr × Obj) → Prop
  | mk (h : StrsAre ys (q i)) : CompB q l0 i ys l0
theorem compA_snoc {ps : List Pr} {i : Nat} {p : Pr} {l : List (Addr × Obj)} (h : ps[i]? = some p) : CompA (fun i => (ps.take i).map (fun p => Value.str p.l p.lk)) l (i + 1) ((ps.take i).map (fun p => Value.str p.l p.lk) ++ [.str p.l p.lk]) l := by
  have e : (ps.take i).map (fun p => Value.str p.l p.lk) ++ [.str p.l p.lk] = (fun i => (ps.take i).map (fun p => Value.str p.l p.lk)) (i + 1) := by
    show _ = (ps.take (i + 1)).map _
    rw [takeN_snoc h, List.map_append]; rfl
  rw [e]; exact .mk
theorem nmSK {w : World} {h₀ h : Heap} {L d x dx : Addr} {od : Obj} {t1 t2 t3 t4 tp tf : Tok} {rd : Value} {r : List (Addr × Obj)} {G' : Prop} (N : News h₀ L h ((d, od) :: (x, instObj 137 dx) :: (dx, sortD w t1 t2 t3 t4 d rd (.int 0 tp) (.int 0 tf)) :: r)) (hod : od.IsDictOf (strKind Challenge.rw_mq0328_01.row.prog w) [])
    (k : ∀ od' u1 u2 u3 u4 up uf, od'.IsDictOf (strKind Challenge.rw_mq0328_01.row.prog w) [] → News h₀ L h ((x, instObj 137 dx) :: (dx, sortD w u1 u2 u3 u4 d rd (.int 0 up) (.int 0 uf)) :: (d, od') :: r) → G') : G' := k od t1 t2 t3 t4 tp tf hod (fun p hp => N p (by
  rcases List.mem_cons.mp hp with rfl | hp
  · exact .tail _ (.head _)
  rcases List.mem_cons.mp hp with rfl | hp
  · exact .tail _ (.tail _ (.head _))
  rcases List.mem_cons.mp hp with rfl | hp
  · exact .head _
  · exact .tail _ (.tail _ (.tail _ hp))))
theorem law_holds : PySem.Challenge.rw_mq0328_01.Holds := hd (by
  k_go0
  rename_i w s0 s1 mg mb GG YY fa oo pm doc ho hg KX X V GL T B TE TW w10 w9 M w8 w7 hcd xs hs hlay0 hL1 hr1 hl2 w5 w4 sa vs w1 hL ra ww r0 hI hr hc1 hc2 K0 hD h1 tk1 F oc right N0 X0
  have K1 : Below callerA s1.heap [] s1.heap := K0
  clear hD hc2 hr r0 ww ra hl2 hr1 hL1 hlay0 hs hcd M TW TE B GL V X K0
  refine genK s1.heap.objs.size fun L eL => ?_
  rw [← eL] at F N0 X0
  rw [← eL]
  have F1 : Fr s1.heap L h1 (fun y => if y = Str.ofString "script" then some (.ref sa) else none) := F
  have hcell : oc.data = Data.cell none := right
  clear F right X0
  show wpAny (model Challenge.rw_mq0328_01.row.prog w) (ktrTop 302 _ _ (Str.ofString "law") _ L fa (.ref w8) [(Str.ofString "lines", L + 1)] []) (execs _ (envX (Str.ofString "law") _ L fa (.ref w8) [(Str.ofString "lines", L + 1)])) _ _ _
  (try k_fold)
  k_steps
  unfold Parked
  have cx : ∀ cs' : Scope, cs'.kind = .function → Cx w (ExcName.means s0.heap) mg mb 302 (callerA.units + 3) cs' [] callerA s1.heap s1.heap := fun cs' hk' => ⟨K1, KX, T, hk', by decide, by decide⟩
  have cx2 : ∀ cs' : Scope, cs'.kind = .function → Cx w (ExcName.means s0.heap) mg mb 312 (callerA.units + 3 + 100) cs' [] callerA s1.heap s1.heap := fun cs' hk' => ⟨K1, KX, T, hk', by decide, by decide⟩
  have hs0 : Sep [(L + 1, oc)] := by unfold Sep; simp
  k_dflt (refine law_pairs (cx _ rfl) F1 hL hI (by omega) N0 hs0 ?_)
  intro lp ps e1 h2 tk2 hps F2 N2 hS2
  clear F1 N0
  k_steps
  rename (News s1.heap L _ _) => N3
  rename (Fr s1.heap L _ (fun y => if y = Str.ofString "sorter" then _ else _)) => F3
  obtain ⟨d, x, dx, rfl, rfl, rfl⟩ := nm3 N3
  rename Obj.IsDictOf (strKind _ _) _ _ => hod
  rename ((d == sysModules) = false) => lod
  have hSx : ∀ p ∈ (lp, W.listOf (ps.map Pr.val).toArray e1) :: ((ps.map Pr.obj).reverse ++ [(L + 1, oc)]), p.1 < dx := by
    rename (Nat.lt lp dx ∧ _) => hq
    rename (∀ p ∈ (ps.map Pr.obj).reverse ++ [(L + 1, oc)], p.1 < dx) => hq2
    intro p hp
    rcases List.mem_cons.mp hp with rfl | hp
    · exact hq.1
    · exact hq2 p hp
  have l1 : dx < x := ltN (by omega)
  have l2 : x < d := ltN (by omega)
  have l3 : dx < d := ltN (by omega)
  refine nmSK N3 hod fun od0 u1 u2 u3 u4 up uf hod N4 => ?_
  refine genK ((lp, W.listOf (ps.map Pr.val).toArray e1) :: ((ps.map Pr.obj).reverse ++ [(L + 1, oc)])) fun rest hrest => ?_
  rw [← hrest] at N4 hS2 hSx
  have hS4 : Sep ((x, instObj 137 dx) :: (dx, sortD w u1 u2 u3 u4 d .none (.int 0 up) (.int 0 uf)) :: (d, od0) :: (ledN [] ++ rest)) := by
    refine Sep.cons_iff.mpr ⟨?_, Sep.cons_iff.mpr ⟨?_, Sep.cons_iff.mpr ⟨?_, hS2⟩⟩⟩
    · exact List.forall_mem_cons.mpr ⟨Nat.ne_of_lt l1, List.forall_mem_cons.mpr ⟨Nat.ne_of_gt l2, fun p hp => Nat.ne_of_lt (Nat.lt_trans (hSx p hp) l1)⟩⟩
    · exact List.forall_mem_cons.mpr ⟨Nat.ne_of_gt l3, fun p hp => Nat.ne_of_lt (hSx p hp)⟩
    · exact fun p hp => Nat.ne_of_lt (Nat.lt_trans (hSx p hp) l3)
  clear N3
  have hgood := good_all hps
  have hpl : ps.length ≤ 16 := by
    have := congrArg List.length hps
    simp only [List.length_map, List.length_append, List.length_take, List.length_cons, List.length_nil] at this
    omega
  have hlpr : (lp, W.listOf (ps.map Pr.val).toArray e1) ∈ rest := by rw [hrest]; exact .head _
  have hpsr : ∀ p ∈ ps, p.obj ∈ rest := fun p hp => by rw [hrest]; exact .tail _ (List.mem_append_left _ (List.mem_reverse.mpr (List.mem_map_of_mem hp)))
  refine frMK F3 fun m0 em F4 => ?_
  refine iter_listInv (by rfl) F4 N4 (.tail _ (.tail _ (.tail _ hlpr))) rfl rfl (fun _ i m' l => LawA w x dx d u1 u2 u3 u4 up uf (ps.map Pr.two) rest m0 i m' l) ?_ ?_ ?_ ?_
  · intro _ _ _ _ hj
    cases hj with | mk _ _ _ _ _ _ el =>
    rw [el]; exact .tail _ (.tail _ (.tail _ (List.mem_append_right _ hlpr)))
  · intro I _
    exact .mk [] _ (fun _ _ => rfl) ⟨rfl, (fun _ h => nomatch h), (fun _ h => nomatch h)⟩ hod hS4 rfl
  · intro I hI oI i v m₁ news₁ h₁ tk₁ hvi hj hne hcI F₁ N₁
    have hpa := prAt hvi
    clear hvi hcI
    cases hpa with | mk p hpi =>
    cases hj with | mk ns od e1' g hod1 hS1 e2' =>
    replace F₁ := frTo F₁ (off1 e1')
    rw [em] at F₁
    replace N₁ := newsTo1 N₁ e2'
    rw [e2'] at hne
    have hpm := hpsr p (List.mem_of_getElem? hpi)
    have hgp := hgood p (List.mem_of_getElem? hpi)
    have hp100 : p.l.length ≤ 100 := hgp.len
    clear N4 F4 F3
    have N₂ := News.sub (l' := (p.ad, ⟨.type "tuple", none, .seq #[.str p.l p.lk, .str p.n p.nk] 0, #[]⟩) :: (I, oI) :: (x, instObj 137 dx) :: (dx, sortD w u1 u2 u3 u4 d .none (.int 0 up) (.int 0 uf)) :: (d, od) :: (ledN ns ++ rest)) N₁ (subC (.tail _ (.tail _ (.tail _ (.tail _ (List.mem_append_right _ hpm))))) (fun _ hq => hq))
    clear N₁
    show wpAny _ _ (assign _ _ (.ref p.ad)) _ _ _
    k_steps
    unfold Parked
    rename Fr _ _ _ _ => F5
    rename News _ _ _ _ => N5
    k_dflt (refine strip_ (cx _ rfl) F5 hp100 N5 ?_)
    intro ts h6 tk6 F6 N6
    rw [hgp.s1]
    clear F5 N5
    k_steps
    unfold Parked
    rename Fr _ _ _ _ => F7
    rename News _ _ _ _ => N7
    have hI3 : Sep ((x, instObj 137 dx) :: (dx, sortD w u1 u2 u3 u4 d .none (.int 0 up) (.int 0 uf)) :: (d, od) :: (ledN ns ++ ((I, oI) :: rest))) :=
      Sep.insert (l1 := (x, instObj 137 dx) :: (dx, sortD w u1 u2 u3 u4 d .none (.int 0 up) (.int 0 uf)) :: (d, od) :: ledN ns) (l2 := rest) hS1 hne
    have N7a := News.sub (l' := (x, instObj 137 dx) :: (dx, sortD w u1 u2 u3 u4 d .none (.int 0 up) (.int 0 uf)) :: (d, od) :: (ledN ns ++ ((I, oI) :: rest))) N7 (subC (.tail _ (.tail _ (.head _))) (subC (.tail _ (.tail _ (.tail _ (.head _)))) (subC (.tail _ (.tail _ (.tail _ (.tail _ (.head _))))) (subA (fun q hq => .tail _ (.tail _ (.tail _ (.tail _ (.tail _ (List.mem_append_left _ hq)))))) (subC (.tail _ (.head _)) (fun _ hq => .tail _ (.tail _ (.tail _ (.tail _ (.tail _ (List.mem_append_right _ hq)))))))))))
    have hi9 : i < ps.length := (List.getElem?_eq_some_iff.mp hpi).1
    have hnm : Names ((ps.map Pr.two).take i) := fun q hq => by
      obtain ⟨p', hp', rfl⟩ := List.mem_map.mp (List.mem_of_mem_take hq)
      exact ⟨(hgood p' hp').s1, (hgood p' hp').s2⟩
    k_dflt (refine add_all (dp := 302) (un := callerA.units + 3) (ps := (ps.map Pr.two).take i) (cx2 _ rfl) F7 N7a hod1 lod g (by rw [List.length_take]; omega) hI3 ?_)
    intro ns' od' h8 tk8 g8 hod8 F8 N8 S8
    (try clear F7 N7 N7a); (try clear F6 N6); (try clear N₂); (try clear F₁)
    have g9 : G ((ps.map Pr.two).take (i + 1)) ns' := by
      rw [takeN_snoc (v := (p.l, p.n)) (by rw [List.getElem?_map, hpi]; rfl)]; exact g8
    refine andK (Sep.out (l1 := (x, instObj 137 dx) :: (dx, sortD w u1 u2 u3 u4 d .none (.int 0 up) (.int 0 uf)) :: (d, od') :: ledN ns') (l2 := rest) S8) fun off9 S9 => ?_
    k_steps
    rename Fr _ _ _ _ => F9
    rename News _ _ _ _ => N9
    refine' unrEnd' F9 (News.sub N9 (l' := (I, oI) :: (x, instObj 137 dx) :: (dx, sortD w u1 u2 u3 u4 d .none (.int 0 up) (.int 0 uf)) :: (d, od') :: (ledN ns' ++ rest)) ?hsub) off9 (.mk ns' od' ?hmm g9 hod8 S9 rfl)
    case hsub =>
      intro q hq
      rcases List.mem_cons.mp hq with rfl | hq
      · exact .tail _ (.tail _ (.tail _ (List.mem_append_right _ (.head _))))
      rcases List.mem_cons.mp hq with rfl | hq
      · exact .head _
      rcases List.mem_cons.mp hq with rfl | hq
      · exact .tail _ (.head _)
      rcases List.mem_cons.mp hq with rfl | hq
      · exact .tail _ (.tail _ (.head _))
      rcases List.mem_append.mp hq with hq | hq
      · exact .tail _ (.tail _ (.tail _ (List.mem_append_left _ hq)))
      · exact .tail _ (.tail _ (.tail _ (List.mem_append_right _ (.tail _ hq))))
    case hmm =>
      intro y h1
      (repeat refine ifN (by assumption) ?_); exact (congrFun em y).symm
  · intro I h6 tk6 m6 news6 F6 N6 hj
    cases hj with | mk ns od e1' g hod1 hS1 e2' =>
    replace F6 := frTo F6 (off1 e1')
    rw [em] at F6
    replace N6 := newsTo N6 e2'
    rw [List.length_map, ← List.length_map (f := Pr.two), List.take_length] at g
    clear N4 F4 F3
    k_steps
    unfold Parked
    rename Fr _ _ _ _ => F7
    rename News _ _ _ _ => N7
    have N7' := newsNil N7
    have hnm : Names (ps.map Pr.two) := fun q hq => by
      obtain ⟨p', hp', rfl⟩ := List.mem_map.mp hq
      exact ⟨(hgood p' hp').s1, (hgood p' hp').s2⟩
    have hP16 : (ps.map Pr.two).length ≤ 16 := by rw [List.length_map]; exact hpl
    k_dflt (refine find_cycle (outer := []) (frs := []) KX T rfl (by decide) (by decide) trivial F7 N7' (fun _ _ h => nomatch h) (.head _) (.tail _ (.head _)) (.tail _ (.tail _ (.head _))) hod1 lod (fun p hp => .tail _ (.tail _ (.tail _ (List.mem_append_left _ hp)))) g.nodup (ns_len g hP16) (su_len g hP16) (su_ok g hnm) ?_)
    intro r h8 tk8 frs8 new8 SU8 Fs8 F8 N8 hring
    have e8 : frs8 = [] := by
      cases frs8 with
      | nil => rfl
      | cons _ _ => exact SU8.elim
    subst e8
    rw [List.append_nil] at N8
    clear F7 N7 N7'
    have hbig : ∀ p ∈ (x, instObj 137 dx) :: (dx, sortD w u1 u2 u3 u4 d .none (.int 0 up) (.int 0 uf)) :: (d, od) :: (ledN ns ++ rest), ∀ q ∈ new8, p.1 < q.1 := fun p hp q hq => by
      rcases hring with ⟨_, _, rfl⟩ | ⟨k, b, t, t', e, _, _, rfl, hb⟩
      · exact nomatch hq
      · rw [List.mem_singleton.mp hq]
        exact hb p (List.mem_append_left _ hp)
    have S8 : Sep ((x, instObj 137 dx) :: (dx, sortD w u1 u2 u3 u4 d .none (.int 0 up) (.int 0 uf)) :: (d, od) :: (ledN ns ++ (new8 ++ rest))) := by
      refine Sep.ins (l1 := (x, instObj 137 dx) :: (dx, sortD w u1 u2 u3 u4 d .none (.int 0 up) (.int 0 uf)) :: (d, od) :: ledN ns) (l2 := rest) hS1 ?_ (fun p hp q hq => Nat.ne_of_lt (hbig p hp q hq))
      rcases hring with ⟨_, _, rfl⟩ | ⟨k, b, t, t', e, _, _, rfl, hb⟩
      · exact List.nodup_nil
      · unfold Sep; simp
    have N8a := News.sub (l' := (x, instObj 137 dx) :: (dx, sortD w u1 u2 u3 u4 d .none (.int 0 up) (.int 0 uf)) :: (d, od) :: (ledN ns ++ (new8 ++ rest))) N8 (subC (List.mem_append_right _ (.head _)) (subC (List.mem_append_right _ (.tail _ (.head _))) (subC (List.mem_append_right _ (.tail _ (.tail _ (.head _)))) (subA (fun q hq => List.mem_append_right _ (.tail _ (.tail _ (.tail _ (List.mem_append_left _ hq))))) (subA (fun q hq => List.mem_append_left _ hq) (fun _ hq => List.mem_append_right _ (.tail _ (.tail _ (.tail _ (List.mem_append_right _ hq))))))))))
    clear N8
    k_steps
    unfold Parked
    rename Fr _ _ _ _ => F9
    rename News _ _ _ _ => N9
    have ax1 : x ≠ dx := Nat.ne_of_gt l1
    have ax2 : ∀ p ∈ (d, od) :: (ledN ns ++ (new8 ++ rest)), p.1 ≠ dx := (Sep.cons_iff.mp (Sep.cons_iff.mp S8).2).1
    k_dflt (refine law_refused (outer := []) (frs := []) (dp := 302) (un := callerA.units + 3) (rest := new8 ++ rest) KX T rfl (by decide) (by decide) trivial F9 (newsNil N9) (fun _ _ h => nomatch h) ax1 ax2 hod1 lod g.nodup (ns_len g hP16) (su_len g hP16) (su_ok g hnm) ?_)
    intro D h10 tk10 frs10 e10 SU10 Fs10 F10 N10 hD10
    have e10' : frs10 = [] := by
      cases frs10 with
      | nil => rfl
      | cons _ _ => exact SU10.elim
    subst e10'
    rw [List.append_nil] at N10
    rw [List.append_nil] at hD10
    (try clear F9 N9); (try clear F8)
    have N11 := News.sub (l' := (x, instObj 137 dx) :: (dx, sortD w u1 u2 u3 u4 d (.ref D) (.int 0 up) (.int 0 uf)) :: (d, od) :: (D, W.listOf (readyV ns).toArray e10) :: (ledN ns ++ (new8 ++ rest))) N10 (subC (.tail _ (.head _)) (subC (.tail _ (.tail _ (.head _))) (subC (.tail _ (.tail _ (.tail _ (.head _)))) (subC (.head _) (fun _ hq => .tail _ (.tail _ (.tail _ (.tail _ hq))))))))
    have hD11 : ∀ p ∈ (x, instObj 137 dx) :: (dx, sortD w u1 u2 u3 u4 d (.ref D) (.int 0 up) (.int 0 uf)) :: (d, od) :: (ledN ns ++ (new8 ++ rest)), p.1 ≠ D := fun p hp => by
      rcases List.mem_cons.mp hp with rfl | hp
      · exact hD10 (x, instObj 137 dx) (.head _)
      rcases List.mem_cons.mp hp with rfl | hp
      · exact hD10 (dx, sortD w u1 u2 u3 u4 d .none (.int 0 up) (.int 0 uf)) (.tail _ (.head _))
      · exact hD10 p (.tail _ (.tail _ hp))
    have S11 : Sep ((x, instObj 137 dx) :: (dx, sortD w u1 u2 u3 u4 d (.ref D) (.int 0 up) (.int 0 uf)) :: (d, od) :: (D, W.listOf (readyV ns).toArray e10) :: (ledN ns ++ (new8 ++ rest))) :=
      Sep.insert (l1 := (x, instObj 137 dx) :: (dx, sortD w u1 u2 u3 u4 d (.ref D) (.int 0 up) (.int 0 uf)) :: [(d, od)]) (l2 := ledN ns ++ (new8 ++ rest)) S8 hD11
    clear N10
    k_steps
    unfold Parked
    rename Fr _ _ _ _ => F12
    rename News _ _ _ _ => N12
    refine run_exK g hnm hpl fun su f' rds hsu1 hsu2 hrun hrds => ?_
    have hAt0 : At (fun k => (cnt (ps.map Pr.two) k : Int)) ns := g.np
    have hrl : rds.length ≤ 10 := by
      rcases hrds with ⟨_, rfl⟩ | ⟨_, a, b, rfl, _⟩
      · exact Nat.zero_le _
      · exact Nat.le_of_ble_eq_true rfl
    have hsu3 : ∀ nd ∈ ns, ∀ v ∈ nd.su, ∃ nd' ∈ ns, ∃ t, v = .str nd'.key t := fun nd hm v hv => by
      obtain ⟨nd', h1, t, h2, _⟩ := su_ok g hnm nd hm v hv
      exact ⟨nd', h1, t, h2⟩
    k_dflt (refine law_run (dp := 302) (un := callerA.units + 3) (cx2 _ rfl) F12 N12 hod1 lod g.nodup hAt0 hsu1 hsu3 hsu2 S11 hrun hrl ?_)
    intro RL rs e13 e14 ns' n13 tp' tf' h14 tk14 hrs hSame hAt hn0 hn1 F14 N14 S14
    (try clear F12 N12); (try clear N11); (try clear F10)
    have hre : rest = ((lp, W.listOf (ps.map Pr.val).toArray e1) :: (ps.map Pr.obj).reverse) ++ [(L + 1, oc)] := hrest
    refine genK ((lp, W.listOf (ps.map Pr.val).toArray e1) :: (ps.map Pr.obj).reverse) fun R0 hR0 => ?_
    rw [← hR0] at hre
    refine genK ((RL, W.listOf (rs.map fun p => Value.ref p.1).toArray e13) :: (x, instObj 137 dx) :: (dx, sortD w u1 u2 u3 u4 d (.ref D) (.int n13 tp') (.int n13 tf')) :: (d, od) :: (D, W.listOf #[] e14) :: (ledN ns' ++ ((rs.map tupOf).reverse ++ (new8 ++ R0)))) fun Z hZ => ?_
    have e15 : (RL, W.listOf (rs.map fun p => Value.ref p.1).toArray e13) :: (x, instObj 137 dx) :: (dx, sortD w u1 u2 u3 u4 d (.ref D) (.int n13 tp') (.int n13 tf')) :: (d, od) :: (D, W.listOf #[] e14) :: (ledN ns' ++ ((rs.map tupOf).reverse ++ (new8 ++ rest))) = Z ++ [(L + 1, oc)] := by
      rw [hZ, hre]; simp only [List.cons_append, List.append_assoc]
    rw [e15] at N14 S14
    refine andK (Sep.out (l1 := Z) (l2 := []) S14) fun offZ SZ => ?_
    rw [List.append_nil] at offZ SZ
    have N15 := News.sub (l' := (L + 1, oc) :: Z) N14 (subC (List.mem_append_right _ (.head _)) (fun _ hq => List.mem_append_left _ hq))
    have hR0Z : ∀ p ∈ R0, p ∈ Z := fun p hp => by
      rw [hZ]
      exact .tail _ (.tail _ (.tail _ (.tail _ (.tail _ (List.mem_append_right _ (List.mem_append_right _ (List.mem_append_right _ hp)))))))
    have hlpZ : (lp, W.listOf (ps.map Pr.val).toArray e1) ∈ Z := hR0Z _ (by rw [hR0]; exact .head _)
    have hpsZ : ∀ p ∈ ps, p.obj ∈ Z := fun p hp => hR0Z _ (by rw [hR0]; exact .tail _ (List.mem_reverse.mpr (List.mem_map_of_mem hp)))
    clear N14
    k_steps
    rename Fr _ _ _ _ => F15
    rename News _ _ _ _ => N16
    refine LCg.CompSrc.ledger (by rfl) F15 N16 (.tail _ hlpZ) (by rw [List.size_toArray, List.length_map]; exact Nat.le_trans hpl (by decide)) ?_
    intro g16
    refine compRest_ind (n := (ps.map Pr.val).toArray.size) (CompA (fun i => (ps.take i).map (fun p => Value.str p.l p.lk)) ((L + 1, oc) :: Z)) ?_ ?_ _ 0 [] _ (Nat.zero_add _) .mk
    · intro i ys l hi hj
      cases hj
      intro v I oI C oC D₁ m₂ h tk E' hv hC' hx' F' N' off' ne'
      rw [List.getElem?_toArray] at hv
      have hpa := prAt hv
      clear hv
      cases hpa with | mk p hpi =>
      have hpm := hpsZ p (List.mem_of_getElem? hpi)
      have N₂ := News.sub (l' := (p.ad, ⟨.type "tuple", none, .seq #[.str p.l p.lk, .str p.n p.nk] 0, #[]⟩) :: (I, oI) :: (C, oC) :: (D₁, _) :: (L + 1, oc) :: Z) N' (subC (.tail _ (.tail _ (.tail _ (.tail _ hpm)))) (fun _ hq => hq))
      clear N' N16 F15
      k_steps
      rename News _ _ _ _ => N₃
      exact LCg.CompEnd.intro (by k_asm) N₃ _ (fun q hq => .tail _ hq) off' (.inr ⟨W.listOf (ps.map Pr.val).toArray e1, .tail _ hlpZ, rfl, _, rfl⟩) (compA_snoc hpi)
    intro ys l hj
    cases hj
    dsimp only
    rw [List.size_toArray, List.length_map, List.take_length]
    intro LL h17 tk17 F17 N17 o17
    clear N16 F15
    dsimp only
    k_steps
    rename Fr _ _ _ _ => F18
    rename News _ _ _ _ => N18
    have hLL : ∀ p ∈ (L + 1, oc) :: Z, p.1 ≠ LL := fun p hp => off1_mem o17 p hp
    refine genK (ps.map fun p => Value.str p.l p.lk) fun lvs hlvs => ?_
    have sl : StrsAre lvs (ps.map (·.l)) := by rw [hlvs]; exact strsPs ps
    rw [← hlvs] at N18
    have offL : ∀ p ∈ (LL, LCg.lst lvs) :: Z, p.1 ≠ L + 1 := fun p hp => by
      rcases List.mem_cons.mp hp with rfl | hp
      · exact (hLL _ (.head _)).symm
      · exact offZ p hp
    (try clear N17); (try clear F17)
    refine storeX_C F18 (news := (LL, LCg.lst lvs) :: Z) (News.sub N18 (subC (.tail _ (.head _)) (subC (.head _) (fun _ hq => .tail _ (.tail _ hq))))) rfl offL hcell ?_
    intro h19 o19 F19 N19 hc19
    clear F18 N18
    dsimp only
    k_steps
    unfold Parked
    have hlp100 : ps.length ≤ 100 := by omega
    (rename Fr _ _ _ _ => F20); (rename News _ _ _ _ => N20)
    k_dflt (refine law_names (cx _ rfl) F20 hlp100 N20 (.tail _ (.tail _ hlpZ)) (fun p hp => .tail _ (.tail _ (hpsZ p hp))) ?_)
    intro ln1 vs1 e21 h21 tk21 hvs1 F21 N21 hln1
    clear F20 N20
    have hvl1 := strsLen hvs1
    have hnl1 := namesF_len (ps.map (·.n))
    rw [List.length_map] at hnl1
    refine LCt.CompSrcT.ledger (by rfl) F21 N21 (.head _) (by rw [List.size_toArray]; exact Nat.le_trans (by omega) (by decide : 16 ≤ sizeLine)) ?_
    intro g22
    refine compRestT_ind (n := vs1.toArray.size) (CompB (fun i => ((namesF (ps.map (·.n))).take i).filter fun n => decide (n ∉ ps.map (·.l))) ((ln1, W.listOf vs1.toArray e21) :: (L + 1, o19) :: (LL, LCg.lst lvs) :: Z)) ?_ ?_ _ 0 [] _ (Nat.zero_add _) (.mk .nil)
    · intro i ys l hi hj
      cases hj with | mk hys =>
      intro v I oI C oC D₁ m₂ h tk E' hv hC' hx' F' N' off' ne'
      rw [List.getElem?_toArray] at hv
      have hst := strAt hvs1 hv
      clear hv
      cases hst with | mk y t hy =>
      clear N21 F21
      k_steps
      · rename (_ = true) => hq
        exact LCg.CompEnd.intro (by k_asm) N' _ (fun q hq => hq) off' (.inr ⟨W.listOf vs1.toArray e21, .head _, rfl, _, rfl⟩) (.mk (filt_no hys hy (decide_eq_false (fun h => h (any_yes hq)))))
      · rename (_ = false) => hq
        exact LCg.CompEnd.intro (by k_asm) N' _ (fun q hq => hq) off' (.inr ⟨W.listOf vs1.toArray e21, .head _, rfl, _, rfl⟩) (.mk (filt_yes t hys hy (decide_eq_true (any_no hq))))
    intro fvs l hj
    cases hj with | mk hfv =>
    rw [List.size_toArray, hvl1, List.take_length] at hfv
    intro FF h23 tk23 F23 N23 o23
    (try clear N21 F21)
    dsimp only
    have cut2 : ∀ p ∈ (FF, LCg.lst fvs) :: (L + 1, o19) :: (LL, LCg.lst lvs) :: Z, p ∈ (FF, LCg.lst fvs) :: (ln1, W.listOf vs1.toArray e21) :: (L + 1, o19) :: (LL, LCg.lst lvs) :: Z := consSub (fun q hq => .tail _ hq)
    have N24 := News.sub N23 cut2
    clear N23
    k_steps
    unfold Parked
    (rename Fr _ _ _ _ => F25); (rename News _ _ _ _ => N25)
    k_dflt (refine law_names (cx _ rfl) F25 hlp100 N25 (.tail _ (.tail _ (.tail _ hlpZ))) (fun p hp => .tail _ (.tail _ (.tail _ (hpsZ p hp)))) ?_)
    intro ln2 vs2 e26 h26 tk26 hvs2 F26 N26 hln2
    clear F25 N25
    have hvl2 := strsLen hvs2
    refine LCt.CompSrcT.ledger (by rfl) F26 N26 (.head _) (by rw [List.size_toArray]; exact Nat.le_trans (by omega) (by decide : 16 ≤ sizeLine)) ?_
    intro g27
    refine compRestT_ind (n := vs2.toArray.size) (CompB (fun i => ((namesF (ps.map (·.n))).take i).filter fun n => decide (n ∈ ps.map (·.l))) ((ln2, W.listOf vs2.toArray e26) :: (FF, LCg.lst fvs) :: (L + 1, o19) :: (LL, LCg.lst lvs) :: Z)) ?_ ?_ _ 0 [] _ (Nat.zero_add _) (.mk .nil)
    · intro i ys l hi hj
      cases hj with | mk hys =>
      intro v I oI C oC D₁ m₂ h tk E' hv hC' hx' F' N' off' ne'
      rw [List.getElem?_toArray] at hv
      have hst := strAt hvs2 hv
      clear hv
      cases hst with | mk y t hy =>
      clear N26 F26
      k_steps
      all_goals first
        | (rename (_ = true) => hq
           exact LCg.CompEnd.intro (by k_asm) N' _ (fun q hq => hq) off' (.inr ⟨W.listOf vs2.toArray e26, .head _, rfl, _, rfl⟩) (.mk (filt_yes t hys hy (decide_eq_true (any_yes hq)))))
        | (rename (_ = false) => hq
           exact LCg.CompEnd.intro (by k_asm) N' _ (fun q hq => hq) off' (.inr ⟨W.listOf vs2.toArray e26, .head _, rfl, _, rfl⟩) (.mk (filt_no hys hy (decide_eq_false (any_no hq)))))
    intro hvs l hj
    cases hj with | mk hhv =>
    rw [List.size_toArray, hvl2, List.take_length] at hhv
    intro HH h28 tk28 F28 N28 o28
    have hHH : ∀ p ∈ Z, p.1 ≠ HH := fun p hp => off1_mem o28 p (.tail _ (.tail _ (.tail _ (.tail _ hp))))
    (try clear N26 F26)
    dsimp only
    have cut3 : ∀ p ∈ (HH, LCg.lst hvs) :: (FF, LCg.lst fvs) :: (L + 1, o19) :: (LL, LCg.lst lvs) :: Z, p ∈ (HH, LCg.lst hvs) :: (ln2, W.listOf vs2.toArray e26) :: (FF, LCg.lst fvs) :: (L + 1, o19) :: (LL, LCg.lst lvs) :: Z := consSub (fun q hq => .tail _ hq)
    have N29 := News.sub N28 cut3
    clear N28
    k_steps
    unfold Parked
    (rename Fr _ _ _ _ => F30); (rename News _ _ _ _ => N30)
    have efree : ((namesF (ps.map (·.n))).filter fun n => decide (n ∉ ps.map (·.l))) = freeF (ps.map Pr.two) := by unfold freeF; rw [List.map_map, List.map_map]; rfl
    have eheld : ((namesF (ps.map (·.n))).filter fun n => decide (n ∈ ps.map (·.l))) = heldF (ps.map Pr.two) := by unfold heldF; rw [List.map_map, List.map_map]; rfl
    have hfl20 : (freeF (ps.map Pr.two)).length ≤ 20 := by
      rw [← efree]
      exact Nat.le_trans (List.length_filter_le _ _) (by omega)
    have hokf : ∀ y ∈ freeF (ps.map Pr.two), okS y := fun y hy => by
      rw [← efree] at hy
      obtain ⟨p, hp, rfl⟩ := List.mem_map.mp (namesF_mem (List.mem_filter.mp hy).1)
      exact (hgood p hp).o2
    have hokh : ∀ y ∈ heldF (ps.map Pr.two), okS y := fun y hy => by
      rw [← eheld] at hy
      obtain ⟨p, hp, rfl⟩ := List.mem_map.mp (namesF_mem (List.mem_filter.mp hy).1)
      exact (hgood p hp).o2
    rw [efree] at hfv
    rw [eheld] at hhv
    have htupZ : ∀ p ∈ rs, tupOf p ∈ Z := fun p hp => by
      rw [hZ]
      exact .tail _ (.tail _ (.tail _ (.tail _ (.tail _ (List.mem_append_right _ (List.mem_append_left _ (List.mem_reverse.mpr (List.mem_map_of_mem hp))))))))
    have hRLZ : (RL, W.listOf (rs.map fun p => Value.ref p.1).toArray e13) ∈ Z := by rw [hZ]; exact .head _
    rw [← hrs] at hrds
    have ps20 : ps.length ≤ 20 := by omega
    k_dflt (refine due_both (cx _ rfl) F30 ps20 hfl20 hfv (fun p hp => ⟨(hgood p hp).o1, (hgood p hp).o2⟩) hokf N30 (.tail _ (.tail _ (.tail _ (.tail _ hlpZ)))) (.tail _ (.head _)) (fun p hp => .tail _ (.tail _ (.tail _ (.tail _ (hpsZ p hp))))) (fun p hp => .tail _ (.tail _ (.tail _ (.tail _ (htupZ p hp))))) hrds ?_)
    intro R31 oR31 ys31 kR31 ds31 h31 tk31 Z3 F31 N31 sub31 mR31 cR31 dR31 D31 Drs31 ok31
    clear F30 N30
    k_steps
    unfold Parked
    (rename Fr _ _ _ _ => F32); (rename News _ _ _ _ => N32)
    have hhu : callerA.units + 3 + 64 < cLine := by decide
    refine kqd_ne N32 (sub31 _ (.tail _ (.tail _ (.tail _ (.tail _ hRLZ))))) rfl rfl Drs31 (fun _ h => h) mR31 cR31 dR31 D31 (fun _ h => h) ok31 ok31 hhu ?_
    simp only [decide_true, Bool.not_true]
    have toZ3 : ∀ p ∈ Z, p ∈ Z3 := fun p hp => sub31 _ (.tail _ (.tail _ (.tail _ (.tail _ hp))))
    have N33 := News.sub (l' := (x, instObj 137 dx) :: (dx, sortD w u1 u2 u3 u4 d (.ref D) (.int n13 tp') (.int n13 tf')) :: (d, od) :: (D, W.listOf ([] : List Value).toArray e14) :: (ledN ns' ++ ((HH, LCg.lst hvs) :: new8))) N32 (subC (toZ3 _ (by rw [hZ]; exact .tail _ (.head _))) (subC (toZ3 _ (by rw [hZ]; exact .tail _ (.tail _ (.head _)))) (subC (toZ3 _ (by rw [hZ]; exact .tail _ (.tail _ (.tail _ (.head _))))) (subC (toZ3 _ (by rw [hZ]; exact .tail _ (.tail _ (.tail _ (.tail _ (.head _)))))) (subA (fun q hq => toZ3 _ (by rw [hZ]; exact .tail _ (.tail _ (.tail _ (.tail _ (.tail _ (List.mem_append_left _ hq))))))) (subC (sub31 _ (.head _)) (fun _ hq => toZ3 _ (by rw [hZ]; exact .tail _ (.tail _ (.tail _ (.tail _ (.tail _ (List.mem_append_right _ (List.mem_append_right _ (List.mem_append_left _ hq)))))))))))))))
    have subl : ((x, instObj 137 dx) :: (dx, sortD w u1 u2 u3 u4 d (.ref D) (.int n13 tp') (.int n13 tf')) :: (d, od) :: (D, W.listOf ([] : List Value).toArray e14) :: (ledN ns' ++ new8)).Sublist Z := by
      rw [hZ]
      exact .cons _ (.cons₂ _ (.cons₂ _ (.cons₂ _ (.cons₂ _ (List.Sublist.append (List.Sublist.refl _) (List.Sublist.trans (List.sublist_append_left _ _) (List.sublist_append_right _ _)))))))
    have S33 := Sep.insert (l1 := (x, instObj 137 dx) :: (dx, sortD w u1 u2 u3 u4 d (.ref D) (.int n13 tp') (.int n13 tf')) :: (d, od) :: (D, W.listOf ([] : List Value).toArray e14) :: ledN ns') (l2 := new8) (o := LCg.lst hvs) (Sep.sub SZ subl) (fun p hp => hHH p (subl.subset hp))
    have hod33 : od.IsDictOf (strKind Challenge.rw_mq0328_01.row.prog w) (kvsN ns') := by rw [hSame.kvs]; exact hod1
    have hnd33 : (ns'.map (·.key)).Nodup := by rw [hSame.keys]; exact g.nodup
    clear N32
    (try clear N31); (try clear F31)
    k_steps
    unfold Parked
    (rename Fr _ _ _ _ => F34); (rename News _ _ _ _ => N34)
    k_dflt (refine get_ready (vs := []) (ns := ns') (f := f') (rest := (HH, LCg.lst hvs) :: new8) (cx _ rfl) F34 N34 (Nat.zero_le _) hod33 lod (fun _ h => nomatch h) hnd33 hAt S33 ?_)
    intro D35 ns35 e35 tp35 h35 tk35 hS35 hA35 hD35 F35 N35
    clear F34 N34
    k_steps
    unfold Parked
    (rename Fr _ _ _ _ => F36); (rename News _ _ _ _ => N36)
    refine ne_unit N36 (.tail _ (.head _)) rfl rfl (.head _) rfl rfl hhu ?_
    have hfirst := first_held g hnm
    have N37 := News.sub (l' := (HH, LCg.lst hvs) :: new8) N36 (fun q hq => .tail _ (.tail _ (.tail _ (.tail _ (.tail _ (.tail _ (List.mem_append_right _ hq)))))))
    clear N36
    have hHn : ∀ p ∈ new8, p.1 ≠ HH := fun p hp => hHH p (subl.subset (.tail _ (.tail _ (.tail _ (.tail _ (List.mem_append_right _ hp))))))
    k_steps
    unfold Parked
    (rename Fr _ _ _ _ => F38); (rename News _ _ _ _ => N38)
    refine kqd_eq N38 (.tail _ (.head _)) rfl rfl (strsDat (news := (HH, LCg.lst hvs) :: new8) hhv) (fun _ h => .tail _ h) (.head _) rfl rfl .nil (fun _ h => h) (okDats hokh) (fun d hd => nomatch hd) hhu ?_
    cases hq : heldF (ps.map Pr.two) with
    | nil =>
      rw [hq] at hfirst
      rcases hring with ⟨hr1, rfl, rfl⟩ | ⟨k, b, t, t', e, hr1, rfl, rfl, hb⟩
      · rw [hr1] at F38
        simp only [List.map_nil, decide_true]
        k_steps
      · rw [hr1] at hfirst; cases hfirst
    | cons k tl =>
      rw [hq] at hfirst hhv
      rcases hring with ⟨hr1, rfl, rfl⟩ | ⟨k', b, t, t', e, hr1, rfl, rfl, hb⟩
      · rw [hr1] at hfirst; cases hfirst
      · rw [hr1] at hfirst F38
        obtain rfl : k' = k := by injection hfirst
        simp only [List.map_cons, reduceCtorEq, decide_false]
        cases hhv with
        | cons y tv htl =>
          k_steps
          unfold Parked
          (rename Fr _ _ _ _ => F40); (rename News _ _ _ _ => N40)
          refine kqd_eq (xs := [.str _ _, .str _ _]) (ys := [.str _ _, .str _ _]) N40 (.tail _ (.tail _ (.tail _ (.head _)))) rfl rfl (.cons (.str _ _) (.cons (.str _ _) .nil)) (fun _ h => h) (.head _) rfl rfl (.cons (.str _ _) (.cons (.str _ _) .nil)) (fun _ h => h) ?ok1 ?ok1 hhu ?_
          case ok1 =>
            intro d hd
            rcases List.mem_cons.mp hd with rfl | hd
            · exact hokh _ (by rw [hq]; exact .head _)
            rcases List.mem_cons.mp hd with rfl | hd
            · exact hokh _ (by rw [hq]; exact .head _)
            · exact nomatch hd
          simp only [decide_true]
          k_steps)
end
end Mine
set_option maxRecDepth 100000 in
set_option maxHeartbeats 8000000 in
theorem PySem.Challenge.cw_mq0328_01_holds : PySem.Challenge.rw_mq0328_01.Holds := by
  exact Mine.law_holds

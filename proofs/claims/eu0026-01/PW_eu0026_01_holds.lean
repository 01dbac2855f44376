import PyProof.Rows.All
import Wide.All
import OpenK.AllK
import Wide.FinOn
import PySem.Challenge.RW_eu0026_01
set_option Elab.async false

section
open PySem PySem.W PyProof.Rows
namespace Mine
set_option maxRecDepth 100000 in
set_option maxHeartbeats 8000000 in
open_top hd for PySem.Challenge.rw_eu0026_01
end Mine
end

section
set_option maxRecDepth 100000
namespace Mine
open PySem PySem.W PySem.Spec PySem.Calls PyProof.Rows

abbrev PR : Program := PySem.Challenge.pw_eu0026_01

def NextTells (prog : Program) (w : World) (K : Frag) (p : Program) (loose : List Str) (mean : ExcName → Option Value) (mg mb : Str → Option Value) (f : Addr) : Prop :=
  ∀ (dp un : Nat) (gd : Option (List Code)) (cn : Str) (cs : Scope) (a : Addr) (ccd : Value) (cl : List (Str × Addr)) (outer : List Env) (A₀ : Around) (base h₀ : Heap) (L : Addr) (m : Str → Option Value) (s : Shared)
    (st sc : Addr) (vs : List Value) (ns : List Int) (n n' : Nat) (i r many : Int) (ti tr tm : Tok) (rest : List (Addr × Obj)) (Q E : Value → Shared → Prop),
    Below A₀ base outer h₀ → Fr h₀ L s.heap m → K.In h₀ → News h₀ L s.heap ((st, listOf [.ref sc, .int i ti, .int r tr].toArray n) :: (sc, listOf vs.toArray n') :: rest) → OwnOff rest [st] → @Ne Nat sc st →
    IntsAre vs ns → ns.length ≤ 40 → 0 ≤ i → i ≤ (ns.length : Int) → 0 ≤ r → r < 2147483647 → 1 ≤ many → many ≤ 9 →
    Top p loose mean mg mb h₀ → cs.kind = .function → dp + 1 < recursionLimit → un + 8 < cLine →
    (∀ h' tk' x i' r' t ti' tr', 0 ≤ x → x < many → 0 ≤ i' → i' ≤ (ns.length : Int) → 0 ≤ r' → r' < 2147483647 → Fr h₀ L h' m →
      News h₀ L h' ((st, listOf [.ref sc, .int i' ti', .int r' tr'].toArray n) :: (sc, listOf vs.toArray n') :: rest) → Q (.int x t) { s with heap := h', toks := tk' }) →
    wpAny (model prog w) (ktrTop dp un gd cn cs L a ccd cl outer) (call (.ref f) [.ref st, .int many tm]) Q E s

theorem fm0 (a : Int) {b : Int} (h : 0 < b) : 0 ≤ a.fmod b := by
  rw [Int.fmod_eq_emod_of_nonneg a (Int.le_of_lt h)]; exact Int.emod_nonneg a (by omega)
theorem fm1 (a : Int) {b : Int} (h : 0 < b) : a.fmod b < b := by
  rw [Int.fmod_eq_emod_of_nonneg a (Int.le_of_lt h)]; exact Int.emod_lt_of_pos a h
set_option maxHeartbeats 8000000 in
theorem next_tells (w : World) {loose : List Str} {mean : ExcName → Option Value} {mg mb : Str → Option Value} : NextTells PySem.Challenge.rw_eu0026_01.row.prog w (hd.heap_39 w.params) hd.view_39 loose mean mg mb 28 := by
  w_top off
  k_with_none
  k_fill
  unfold NextTells
  intro dp un gd cn cs a ccd cl outer A₀ base h₀ L m s st sc vs ns n n' i r many ti tr tm rest Q E B F X N hoff hsc hI hlen hi0 hi1 hr0 hr1 hm1 hm2 T hk hd hu hret
  refine wpAny_call ?_
  k_dflt cell_enter
  k_steps
  all_goals (refine hret _ _ _ _ _ _ _ _ (fm0 _ (by omega)) (fm1 _ (by omega)) ?_ ?_ ?_ ?_ (by k_asm) (by k_asm))
  all_goals first | omega | exact fm0 _ (by omega) | exact fm1 _ (by omega)

abbrev stO (sc : Addr) (i r : Int) (ti tr : Tok) (n : Nat) : Obj := listOf [.ref sc, .int i ti, .int r tr].toArray n

theorem next_U {prog : Program} {w : World} {K : Frag} {p : Program} {loose : List Str} {mean : ExcName → Option Value} {mg mb : Str → Option Value} {f : Addr} (C : NextTells prog w K p loose mean mg mb f)
    {dp un : Nat} {gd : Option (List Code)} {cn : Str} {cs : Scope} {a : Addr} {ccd : Value} {cl : List (Str × Addr)} {outer : List Env} {A₀ : Around} {base h₀ : Heap} {L : Addr} {m : Str → Option Value} {s : Shared}
    {st sc : Addr} {vs : List Value} {ns : List Int} {n n' : Nat} {i r many : Int} {ti tr tm : Tok} {news : List (Addr × Obj)} {g : Obj → List (Addr × Obj)} {Q E : Value → Shared → Prop}
    (B : Below A₀ base outer h₀) (F : Fr h₀ L s.heap m) (X : K.In h₀) (N : News h₀ L s.heap news) (T : Top p loose mean mg mb h₀) (U : UpdF st (stO sc i r ti tr n) news g) (hsc : (sc, listOf vs.toArray n') ∈ news) (hne : @Ne Nat sc st)
    (hI : IntsAre vs ns) (hl : ns.length ≤ 40) (h1 : 0 ≤ i) (h2 : i ≤ (ns.length : Int)) (h3 : 0 ≤ r) (h4 : r < 2147483647) (h5 : 1 ≤ many) (h6 : many ≤ 9)
    (hk : cs.kind = .function) (hd : dp + 1 < recursionLimit) (hu : un + 8 < cLine)
    (hret : ∀ h' tk' x i' r' t ti' tr', 0 ≤ x → x < many → 0 ≤ i' → i' ≤ (ns.length : Int) → 0 ≤ r' → r' < 2147483647 → Fr h₀ L h' m →
      News h₀ L h' (g (stO sc i' r' ti' tr' n)) → Q (.int x t) { s with heap := h', toks := tk' }) :
    wpAny (model prog w) (ktrTop dp un gd cn cs L a ccd cl outer) (call (.ref f) [.ref st, .int many tm]) Q E s := by
  obtain ⟨pre, post, rfl, hg, ha, hb⟩ := U.split
  refine C dp un gd cn cs a ccd cl outer A₀ base h₀ L m s st sc vs ns n n' i r many ti tr tm (pre ++ post) Q E B F X (fun q hq => ?_) (fun q hq b hb' => ?_) hne hI hl h1 h2 h3 h4 h5 h6 T hk hd hu
    fun h' tk' x i' r' t ti' tr' a1 a2 a3 a4 a5 a6 F' N' => hret h' tk' x i' r' t ti' tr' a1 a2 a3 a4 a5 a6 F' (fun q hq => ?_)
  · refine N q ?_
    rcases List.mem_cons.mp hq with rfl | hq
    · exact List.mem_append_right _ (.head _)
    · rcases List.mem_cons.mp hq with rfl | hq
      · exact hsc
      · exact (List.mem_append.mp hq).elim (fun h => List.mem_append_left _ h) fun h => List.mem_append_right _ (.tail _ h)
  · rw [List.mem_singleton.mp hb']
    exact (List.mem_append.mp hq).elim (ha q) (hb q)
  · rw [hg] at hq
    refine N' q ?_
    rcases List.mem_append.mp hq with hq | hq
    · exact .tail _ (.tail _ (List.mem_append_left _ hq))
    · rcases List.mem_cons.mp hq with rfl | hq
      · exact .head _
      · exact .tail _ (.tail _ (List.mem_append_right _ hq))
end Mine
end

section
set_option maxRecDepth 100000
namespace Mine
open PySem PySem.W PySem.Spec PySem.Calls PyProof.Rows

def StopHere (P : Prop) : Prop := P
theorem stopHere {P : Prop} (h : StopHere P) : P := h

def RowTells (prog : Program) (w : World) (K : Frag) (p : Program) (loose : List Str) (mean : ExcName → Option Value) (mg mb : Str → Option Value) (f : Addr) : Prop :=
  ∀ (dp un : Nat) (gd : Option (List Code)) (cn : Str) (cs : Scope) (a : Addr) (ccd : Value) (cl : List (Str × Addr)) (outer : List Env) (A₀ : Around) (base h₀ : Heap) (L : Addr) (m : Str → Option Value) (s : Shared)
    (st sc : Addr) (vs : List Value) (ns : List Int) (n n' : Nat) (i r : Int) (ti tr tm : Tok) (rest : List (Addr × Obj)) (Q E : Value → Shared → Prop),
    Below A₀ base outer h₀ → Fr h₀ L s.heap m → K.In h₀ → News h₀ L s.heap ((st, listOf [.ref sc, .int i ti, .int r tr].toArray n) :: (sc, listOf vs.toArray n') :: rest) → OwnOff rest [st] → @Ne Nat sc st →
    IntsAre vs ns → ns.length ≤ 40 → 0 ≤ i → i ≤ (ns.length : Int) → 0 ≤ r → r < 2147483647 →
    Top p loose mean mg mb h₀ → cs.kind = .function → dp + 2 < recursionLimit → un + 16 < cLine →
    (∀ h' tk' ra vsR nsR nr i' r' ti' tr', IntsAre vsR nsR → nsR.Nodup → nsR.length = 9 → (∀ x ∈ nsR, 0 ≤ x ∧ x < 9) → (∀ p ∈ (st, listOf [.ref sc, .int i' ti', .int r' tr'].toArray n) :: (sc, listOf vs.toArray n') :: rest, p.1 < ra) →
      0 ≤ i' → i' ≤ (ns.length : Int) → 0 ≤ r' → r' < 2147483647 → Fr h₀ L h' m →
      News h₀ L h' ((ra, listOf vsR.toArray nr) :: (st, listOf [.ref sc, .int i' ti', .int r' tr'].toArray n) :: (sc, listOf vs.toArray n') :: rest) → Q (.ref ra) { s with heap := h', toks := tk' }) →
    wpAny (model prog w) (ktrTop dp un gd cn cs L a ccd cl outer) (call (.ref f) [.ref st, .int 9 tm]) Q E s

structure RowSt where
  vs : List Value
  ns : List Int
  i : Int
  r : Int
  ti : Tok
  tr : Tok

theorem allLt_mem {d : Addr} {l : List (Addr × Obj)} (h : AllLt d l) : ∀ p ∈ l, p.1 < d := ktn_ltOf h

theorem ownOff_app {own rest : List (Addr × Obj)} {l : List Addr} (h : OwnOff own l) (k : OwnOff rest l) : OwnOff (rest ++ own) l := fun p hp => (List.mem_append.mp hp).elim (k p) (h p)

theorem nodup_swap {l : List Int} {a b : Nat} (h : l.Nodup) (ha : a < l.length) (hb : b < l.length) : ((l.set a (l.getD b 0)).set b (l.getD a 0)).Nodup := by
  have inj : ∀ x y (hx : x < l.length) (hy : y < l.length), l[x] = l[y] → x = y := by
    intro x y hx hy e
    have h' := List.pairwise_iff_getElem.mp h
    rcases Nat.lt_trichotomy x y with q | q | q
    · exact absurd e (h' x y hx hy q)
    · exact q
    · exact absurd e.symm (h' y x hy hx q)
  have key : ∀ x (hx : x < l.length) (hx' : x < ((l.set a (l.getD b 0)).set b (l.getD a 0)).length), ((l.set a (l.getD b 0)).set b (l.getD a 0))[x] = l[if b = x then a else if a = x then b else x]'(by (repeat' split) <;> omega) := by
    intro x hx hx'
    simp only [List.getElem_set, List.getD_eq_getElem?_getD, List.getElem?_eq_getElem ha, List.getElem?_eq_getElem hb, Option.getD_some]
    by_cases h1 : b = x
    · simp [h1]
    · by_cases h2 : a = x
      · simp [h1, h2]
      · simp [h1, h2]
  refine List.pairwise_iff_getElem.mpr fun i j hi hj hij e => ?_
  simp only [List.length_set] at hi hj
  rw [key i hi, key j hj] at e
  have := inj _ _ _ _ e
  revert this
  (repeat' split) <;> omega
theorem mem_swap {l : List Int} {a b : Nat} {x y : Int} {P : Int → Prop} (h : ∀ z ∈ l, P z) (hx : P x) (hy : P y) : ∀ z ∈ (l.set a x).set b y, P z := by
  intro z hz
  rcases List.mem_or_eq_of_mem_set hz with hz | rfl
  · rcases List.mem_or_eq_of_mem_set hz with hz | rfl
    · exact h z hz
    · exact hx
  · exact hy
theorem getD_mem' {l : List Int} {a : Nat} (h : a < l.length) : l.getD a 0 ∈ l := by
  rw [List.getD_eq_getElem?_getD, List.getElem?_eq_getElem h]
  exact List.getElem_mem h

set_option maxHeartbeats 8000000 in
theorem row_tells (w : World) {loose : List Str} {mean : ExcName → Option Value} {mg mb : Str → Option Value} 
   (next : NextTells PySem.Challenge.rw_eu0026_01.row.prog w (hd.heap_39 w.params) hd.view_39 loose mean mg mb 28)
   : RowTells PySem.Challenge.rw_eu0026_01.row.prog w (hd.heap_39 w.params) hd.view_39 loose mean mg mb 35 := by
  w_top off
  k_with_none
  k_fill
  unfold RowTells
  intro dp un gd cn cs a ccd cl outer A₀ base h₀ L m s st sc vs ns n n' i r ti tr tm rest Q E B F X N hoff hne hI hlen hi0 hi1 hr0 hr1 T hk hd hu hret
  refine wpAny_call ?_
  k_dflt cell_enter
  k_with "pyIter ref" => (refine stopHere ?_)
  k_with "call type:list" =>
    rename IsRange _ _ _ _ _ _ _ _ => rgX
    with_unfolding_all refine' kll_range (by rfl) ?k1 ?k2 rgX (by decide) (n := 9) (by rfl) (by decide) ?_
    case k1 => k_asm
    case k2 => k_asm
    intro ra vsR nr h' tk' F' N' l1 hR'
    try k_lt l1
    try k_sweep
  k_with "call ref" =>
    with_unfolding_all refine' next_U next ?k1 ?k2 ?k3 ?k4 ?k5 ?k6 ?k7 ?k8 ?k9 ?k10 ?k11 ?k12 ?k13 ?k14 ?k15 ?k16 ?k17 ?k18 ?k19 ?_
    case k1 => k_asm
    case k2 => k_asm
    case k3 => k_asm
    case k4 => k_asm
    case k5 => k_asm
    case k6 => k_updF
    case k7 => k_mem
    case k8 => assumption
    case k9 => assumption
    case k10 => assumption
    case k11 => assumption
    case k12 => assumption
    case k13 => assumption
    case k14 => assumption
    case k15 => omega
    case k16 => omega
    case k17 => exact rfl
    case k18 => ktr_room
    case k19 => ktr_units
    intro h' tk' x i' r' t ti' tr' c1 c2 c3 c4 c5 c6 F' N'
    try dsimp only at N'
    try dsimp only
    try k_fold
  k_steps
  unfold StopHere
  rename IsRange _ _ _ _ _ _ _ _ => rgX
  rename Fr _ _ _ _ => FX
  rename News _ _ _ _ => NX
  rename IntsAre _ (rangeKs _ _) => iX
  have l2 := allLt_mem l1.2.2
  with_unfolding_all refine kst_rangeD (σ := RowSt) (n := 8) (fun c => (ra, listOf c.vs.toArray nr) :: (st, stO sc c.i c.r c.ti c.tr n) :: (sc, listOf vs.toArray n') :: rest) (fun _ => []) (fun c => IntsAre c.vs c.ns ∧ c.ns.Nodup ∧ c.ns.length = 9 ∧ (∀ x ∈ c.ns, 0 ≤ x ∧ x < 9) ∧ 0 ≤ c.i ∧ c.i ≤ (ns.length : Int) ∧ 0 ≤ c.r ∧ c.r < 2147483647) [Str.ofString "j"] (fun _ _ => True) ⟨vsR, rangeKs 0 9, i, r, ti, tr⟩ (by rfl) rgX (by decide) (by rfl) FX NX ⟨iX, (by decide : (rangeKs 0 9).Nodup), (by decide : (rangeKs 0 9).length = 9), (by decide : ∀ x ∈ rangeKs 0 9, 0 ≤ x ∧ x < 9), hi0, hi1, hr0, hr1⟩ (by intro p hp; cases hp) trivial ?turn ?done
  case turn =>
    intro c pre k t u h tk own hkk hpre hoffo hf _ FY NY
    obtain ⟨f1, f2, f3, f4, f5, f6, f7, f8⟩ := hf
    have hk0 : 1 ≤ k := by omega
    have hk9 : k ≤ 8 := by omega
    simp only [List.cons_append] at NY
    have hoffA : OwnOff (rest ++ own) [st, ra] := ownOff_app (fun p hp b hb => hoffo p hp b (by simp only [List.map_cons, List.mem_cons, List.not_mem_nil, or_false] at hb ⊢; rcases hb with h | h; exact .inr (.inl h); exact .inl h)) (fun p hp b hb => by simp only [List.mem_cons, List.not_mem_nil, or_false] at hb; rcases hb with h | h; exact h ▸ hoff p hp st (.head _); exact h ▸ Nat.ne_of_lt (l2 p hp))
    clear NX FX rgX
    k_steps
    refine InvEndN.intro (by assumption) (by assumption) (nx := (ra, listOf ((c.vs.set k.toNat _).set x.toNat _).toArray nr) :: (st, stO sc i' r' ti' tr' n) :: (sc, listOf vs.toArray n') :: rest) ⟨⟨_, _, i', r', ti', tr'⟩, rfl, ⟨by assumption, ?a1, ?a2, ?a3, c3, c4, c5, c6⟩, (by intro p hp; cases hp), ?a4, trivial⟩ (by rfl) ?a5 ?a6
    case a1 => exact nodup_swap f2 (by omega) (by omega)
    case a2 => rw [List.length_set, List.length_set]; exact f3
    case a3 => exact mem_swap f4 (f4 _ (getD_mem' (by omega))) (f4 _ (getD_mem' (by omega)))
    case a4 =>
      intro z h1 _ h3
      have h3' : z ≠ Str.ofString "j" := by intro e; subst e; revert h3; decide
      simp only [if_neg h1, if_neg h3', kstB, h3, Bool.false_eq_true, if_false]
    case a5 => intro p hp; simp only [List.mem_cons, List.mem_append] at hp ⊢; rcases hp with h | h | h | h <;> simp [h]
    case a6 => intro p hp; simp only [List.mem_cons, List.mem_append]; simp [hp]
  case done =>
    intro c u h tk hf _ FY NY
    obtain ⟨f1, f2, f3, f4, f5, f6, f7, f8⟩ := hf
    clear NX FX rgX
    k_steps
    refine hret _ _ _ _ _ _ _ _ _ _ f1 f2 f3 f4 ?_ f5 f6 f7 f8 (by k_asm) (by k_asm)
    intro p hp
    simp only [List.mem_cons] at hp
    rcases hp with h | h | h
    · rw [h]; exact l1.1
    · rw [h]; exact l1.2.1
    · exact l2 p h
end Mine
end

section
set_option maxRecDepth 100000
namespace Mine
open PySem PySem.W PySem.Spec PySem.Calls PyProof.Rows

/-! ## sets of ints, no two alike -/
theorem nodup_of_cover : ∀ {ks l : List Int}, l.Nodup → (∀ k, k ∈ l → k ∈ ks) → ks.length = l.length → ks.Nodup
  | [], _, _, _, _ => List.nodup_nil
  | x :: r, l, hn, hs, hl => by
    have hx : x ∉ r := fun hx => by
      have : l ⊆ r := fun k hk => by
        rcases List.mem_cons.mp (hs k hk) with rfl | h
        · exact hx
        · exact h
      have := List.Nodup.length_le_of_subset hn this
      simp only [List.length_cons] at hl
      omega
    have hxl : x ∈ l := Classical.byContradiction fun hxl => by
      have : l ⊆ r := fun k hk => by
        rcases List.mem_cons.mp (hs k hk) with rfl | h
        · exact absurd hk hxl
        · exact h
      have := List.Nodup.length_le_of_subset hn this
      simp only [List.length_cons] at hl
      omega
    refine List.nodup_cons.mpr ⟨hx, nodup_of_cover (l := l.erase x) (hn.erase x) (fun k hk => ?_) ?_⟩
    · have := (List.Nodup.mem_erase_iff hn).mp hk
      rcases List.mem_cons.mp (hs k this.2) with rfl | h
      · exact absurd rfl this.1
      · exact h
    · rw [List.length_erase_of_mem hxl]
      simp only [List.length_cons] at hl
      omega

def keyI (v : Value) : Int := match v with
  | .int i _ => i
  | _ => 0
theorem isInt_key {k : Int} {v : Value} (h : Value.isInt k v = true) : keyI v = k := by
  obtain ⟨t, rfl⟩ := Value.isInt_shape h
  rfl

/-- the set object o holds the ints of l, no two alike -/
def MSet (prog : Program) (w : World) (o : Obj) (l : List Int) : Prop := o.SetObjOf (intKind prog w) (fun k => decide (k ∈ l)) l.length ∧ l.Nodup

section
variable {prog : Program} {w : World} {A : Around} {E : Value → Shared → Prop} {s : Shared} {h₀ : Heap} {L : Addr} {m : Str → Option Value} {news : List (Addr × Obj)}

theorem toArr_set (es : Array (Int × Value)) (j : Nat) : (SetTable.eraseAt es j).toList = es.toList.eraseIdx j := by
  unfold SetTable.eraseAt
  rw [List.eraseIdx_eq_take_drop_succ]
  simp [List.extract_eq_take_drop, List.take_of_length_le]

theorem drop_fits {t : SetTable} {n j : Nat} (h : t.fits n = true) (hj : j < n) : (t.drop j).fits (n - 1) = true := by
  simp only [SetTable.fits, Bool.and_eq_true, beq_iff_eq, decide_eq_true_eq] at h ⊢
  obtain ⟨h1, h2⟩ := h
  have hj' : j < t.place.size := by omega
  unfold SetTable.drop
  have e : t.place[j]? = some t.place[j] := by simp [hj']
  rw [e]
  dsimp only
  have e1 : (SetTable.eraseAt t.place j).size = t.place.size - 1 := by
    unfold SetTable.eraseAt
    simp
    omega
  have e2 : ∀ p x, (SetTable.insertAt t.dummies p x).size = t.dummies.size + 1 := by
    intro p x
    unfold SetTable.insertAt
    simp
    omega
  unfold SetTable.fill at h2 ⊢
  dsimp only
  rw [e1, e2]
  omega

theorem discard_mem {es : List (Int × Value)} {l : List Int} {k : Int} {j : Nat} (hel : ∀ e ∈ es, ∃ k, Value.isInt k e.2 = true) (hmem : ∀ k, k ∈ l ↔ ∃ e ∈ es, Value.isInt k e.2 = true) (hn : l.Nodup) (hlen : es.length = l.length)
    (hj : j < es.length) (hk : Value.isInt k es[j].2 = true) : ∀ k', k' ∈ l.erase k ↔ ∃ e ∈ es.eraseIdx j, Value.isInt k' e.2 = true := by
  have hks : ∀ k, (k ∈ es.map (fun e => keyI e.2)) ↔ ∃ e ∈ es, Value.isInt k e.2 = true := fun k => by
    constructor
    · intro h
      obtain ⟨e, he, rfl⟩ := List.mem_map.mp h
      obtain ⟨k, hk⟩ := hel e he
      exact ⟨e, he, (isInt_key hk).symm ▸ hk⟩
    · rintro ⟨e, he, hk⟩
      exact List.mem_map.mpr ⟨e, he, isInt_key hk⟩
  have hnd : (es.map (fun e => keyI e.2)).Nodup := nodup_of_cover hn (fun k hk => (hks k).mpr ((hmem k).mp hk)) (by rw [List.length_map]; exact hlen)
  have hes : es = es.take j ++ es[j] :: es.drop (j + 1) := by
    rw [List.getElem_cons_drop, List.take_append_drop]
  intro k'
  rw [List.Nodup.mem_erase_iff hn, hmem, List.eraseIdx_eq_take_drop_succ]
  rw [hes, List.map_append, List.map_cons] at hnd
  have hnd' := List.nodup_append.mp hnd
  have hnd2 := List.nodup_cons.mp hnd'.2.1
  constructor
  · rintro ⟨hne, e, he, hk'⟩
    rw [hes] at he
    rcases List.mem_append.mp he with he | he
    · exact ⟨e, List.mem_append_left _ he, hk'⟩
    · rcases List.mem_cons.mp he with rfl | he
      · exact absurd ((isInt_key hk').symm.trans (isInt_key hk)) hne
      · exact ⟨e, List.mem_append_right _ he, hk'⟩
  · rintro ⟨e, he, hk'⟩
    refine ⟨?_, e, ?_, hk'⟩
    · rintro rfl
      have ek := isInt_key hk
      have ek' := isInt_key hk'
      rcases List.mem_append.mp he with he | he
      · exact hnd'.2.2 _ (List.mem_map.mpr ⟨e, he, rfl⟩) _ (.head _) (by rw [ek', ek])
      · exact hnd2.1 (List.mem_map.mpr ⟨e, he, by rw [ek', ek]⟩)
    · rw [hes]
      rcases List.mem_append.mp he with he | he
      · exact List.mem_append_left _ he
      · exact List.mem_append_right _ (.tail _ he)

theorem call_discard {sa : Addr} {o : Obj} {l : List Int} {k : Int} {t : Tok} {Q : Value → Shared → Prop} (ho : s.heap.get? sa = some o) (hS : MSet prog w o l) (hb : l.length < scanBound) (hk : k ∈ l)
    (h : ∀ h' o', Heap.SameBut sa s.heap h' → h'.get? sa = some o' → MSet prog w o' (l.erase k) → Q .none { s with heap := h', toks := s.toks + 1 }) :
    wpAny (model prog w) A (call (.builtin "set.discard") [.ref sa, .int k t]) Q E s := by
  obtain ⟨⟨hex, es, ep, tb, hd, hel, hmem, hn, hf⟩, hnd⟩ := hS
  have hT : s.TypeIs (.ref sa) "set" := ⟨o, ho, hex.1⟩
  refine wpAny_call_entry PySem.F.slot_set_discard hT PySem.F.entry_set_discard ?_ (PySem.F.args_set_discard_2 _ _)
  unfold Builtin.«set.discard» Builtin.Frozenset.oneOther
  simp only [List.isEmpty_nil, bind_assoc]
  unfold Builtin.Frozenset.addrOf Builtin.Frozenset.withSetAsKey setDiscard
  refine wpAny_bind (wpAny_pure ?_)
  try dsimp only
  refine wpAny_bind (wpAny_pure ?_)
  try dsimp only
  refine wpAny_bind (wpAny_tryCatch ?_)
  refine wpAny_holding ?_
  refine wpAny_bind ((intKind prog w).pyHash (k := k) (intKind_is _ _ _ _) ?_)
  unfold setDiscardHashed setFind setFindIn
  have hbs : es.size < scanBound := by rw [hn]; exact hb
  refine wpAny_bind ?_
  refine wpAny_bind (wpAny_setState_of (s := { s with toks := s.toks + 1 }) ho hd hf ?_)
  dsimp only
  rw [byScan_of (knd := intKind prog w) rfl hbs hel]
  simp only [↓reduceIte]
  refine wpAny_bind (wpAny_rule ?_)
  refine wpAny_bind (wpAny_setScan_of (knd := intKind prog w) (s := { s with toks := s.toks + 1 }) (k := k) (intKind_is _ _ _ _) ho hd hf hel ?_)
  obtain ⟨e, he, hke⟩ := (hmem k).mp (by simpa using hk)
  cases hr : List.findIdx? (fun e => (intKind prog w).is k e.2) es.toList with
  | none =>
    have := List.findIdx?_eq_none_iff.mp hr e he
    rw [hke] at this
    cases this
  | some j =>
    obtain ⟨hj, hpj, _⟩ := List.findIdx?_eq_some_iff_getElem.mp hr
    dsimp only
    rw [Nat.zero_add]
    refine wpAny_pure ?_
    dsimp only
    refine wpAny_bind (wpAny_setState_of (s := { s with toks := s.toks + 1 }) ho hd hf ?_)
    dsimp only
    have hsz : (SetTable.eraseAt es j).size = es.size - 1 := by
      rw [← Array.length_toList, toArr_set, List.length_eraseIdx_of_lt hj, Array.length_toList]
    refine wpAny_bind (wpAny_storeSet_of (s := { s with toks := s.toks + 1 }) ho hd ?_ (fits_of_scanBound (by rw [hsz]; omega)))
    refine wpAny_bind (wpAny_point ?_)
    refine wpAny_pure ?_
    show wpAny _ _ (ret Value.none) _ _ _
    refine wpAny_pure ⟨_, rfl, ?_⟩
    have hj' : j < es.size := by rw [← Array.length_toList]; exact hj
    have hel' : ElemsOf (intKind prog w) (SetTable.eraseAt es j).toList := by
      intro e he
      rw [toArr_set] at he
      exact hel e (List.mem_of_mem_eraseIdx he)
    have hmem' : ∀ k', decide (k' ∈ l.erase k) = true ↔ ∃ e ∈ (SetTable.eraseAt es j).toList, (intKind prog w).is k' e.2 = true := by
      intro k'
      rw [decide_eq_true_iff, toArr_set]
      refine discard_mem (fun e he => ?_) (fun k => decide_eq_true_iff.symm.trans (hmem k)) hnd (by rw [Array.length_toList]; exact hn) hj hpj k'
      obtain ⟨⟨k, hk, _⟩, _⟩ := hel e he
      exact ⟨k, hk⟩
    have hff : (tb.drop j).fits (SetTable.eraseAt es j).size = true := by rw [hsz]; exact drop_fits hf hj'
    have hst := SetOf_store (knd := intKind prog w) (h := s.heap) ho hex hd hel' hmem' (by rw [hsz]; omega) hff
    refine h _ _ (Heap.SameBut.update s.heap sa _) hst.1 ⟨⟨hex, _, ep + 1, tb.drop j, rfl, hel', hmem', ?_, hff⟩, hnd.erase k⟩
    rw [hsz, hn, List.length_erase_of_mem hk]

theorem getMethod_discard {sa : Addr} {o : Obj} {pl : Sem Bool} {Q : Value × List Value → Shared → Prop} (ho : s.heap.get? sa = some o) (hex : o.ExactSet) (h : Q (.builtin "set.discard", [.ref sa]) s) :
    wpAny (model prog w) A (getMethod (.ref sa) "discard" pl) Q E s :=
  getMethod_builtin ⟨o, ho, hex.1⟩ PySem.F.plainAttrs_set PySem.F.slot_set_discard PySem.F.type_set_discard (fun b e => by injection e with e; subst e; exact ⟨o, ho, hex.2.1⟩) h
theorem getMethod_intersection {sa : Addr} {o : Obj} {pl : Sem Bool} {Q : Value × List Value → Shared → Prop} (ho : s.heap.get? sa = some o) (hex : o.ExactSet) (h : Q (.builtin "set.intersection", [.ref sa]) s) :
    wpAny (model prog w) A (getMethod (.ref sa) "intersection" pl) Q E s :=
  getMethod_builtin ⟨o, ho, hex.1⟩ PySem.F.plainAttrs_set PySem.F.slot_set_intersection PySem.F.type_set_intersection (fun b e => by injection e with e; subst e; exact ⟨o, ho, hex.2.1⟩) h


theorem foldl_dedup : ∀ (l acc : List Int), (acc ++ l).Nodup → l.foldl step_dedup acc = acc ++ l
  | [], acc, _ => by simp
  | x :: r, acc, h => by
    have hx : acc.any (· == x) = false := by
      rw [Bool.eq_false_iff]
      intro hh
      obtain ⟨y, hy, e⟩ := List.any_eq_true.mp hh
      have e' : y = x := by simpa using e
      subst e'
      exact (List.nodup_append.mp h).2.2 y hy y (.head _) rfl
    rw [List.foldl_cons]
    have : step_dedup acc x = acc ++ [x] := by unfold step_dedup; rw [hx]; simp
    rw [this, foldl_dedup r (acc ++ [x]) (by simpa using h)]
    simp
theorem firstMet_nodup {l : List Int} (h : l.Nodup) : firstMet (fun i => l.getD i 0) l.length = l := by
  unfold firstMet
  have e : (List.range l.length).map (fun i => l.getD i 0) = l := by
    apply List.ext_getElem
    · simp
    · intro i h1 h2
      simp [List.getElem?_eq_getElem h2]
  rw [e]
  have := foldl_dedup l [] (by simpa using h)
  simpa using this

theorem any_decide (l : List Int) (k : Int) : l.any (· == k) = decide (k ∈ l) := by
  induction l with
  | nil => simp
  | cons a r ih =>
    rw [List.any_cons, ih]
    by_cases h : a = k
    · subst h; simp
    · have h' : ¬ k = a := fun e => h e.symm
      simp [h, h']

theorem setOf_obj {h : Heap} {a : Addr} {l : List Int} (hS : h.SetOf (intKind prog w) a (fun k => decide (k ∈ l)) l.length) (hn : l.Nodup) : ∃ o, h.get? a = some o ∧ MSet prog w o l :=
  let ⟨o, ho, x⟩ := hS.objOf; ⟨o, ho, x, hn⟩

theorem call_set {l : Addr} {vs : List Value} {ns : List Int} {Q : Value → Shared → Prop} (F : Fr h₀ L s.heap m) (N : News h₀ L s.heap news) (hh : A.handled = none) (hl : s.heap.IsList l vs.toArray) (hi : IntsAre vs ns) (hn : ns.Nodup) (hb : ns.length + 1 < scanBound)
    (h : ∀ D o h' tk, Fr h₀ L h' m → News h₀ L h' ((D, o) :: news) → (∀ p ∈ news, p.1 < D) → MSet prog w o ns → Q (.ref D) { s with heap := h', toks := tk }) :
    wpAny (model prog w) A (call (.type "set") [.ref l]) Q E s := by
  have hvn : vs.length = ns.length := IntsAre.length hi
  have hsz : vs.toArray.size = ns.length := by rw [List.size_toArray]; exact hvn
  refine PySem.call_set_list (items := vs.toArray) (ns := ns) hh hl (by simpa using hi) (by rw [hsz]; exact hb) fun h' tk hS hk => ?_
  rw [hsz, firstMet_nodup hn] at hS
  have hS' : h'.SetOf (intKind prog w) s.heap.objs.size (fun k => decide (k ∈ ns)) ns.length := SetOf_congr hS (fun k => any_decide ns k) rfl
  obtain ⟨o, ho, hM⟩ := setOf_obj hS' hn
  have hL : L < s.heap.objs.size := F.ns.lt
  refine h _ o h' tk ⟨F.ns.at' fun ob e => hk _ ob hL e, fun b ob e => hk b ob (Nat.lt_of_lt_of_le (Heap.lt_size e) (Nat.le_trans F.above (Nat.le_of_lt hL))) (F.keep b ob e), F.above⟩ (fun p hp => ?_) (fun p hp => Heap.lt_size (N p hp).1) hM
  rcases List.mem_cons.mp hp with rfl | hp
  · refine ⟨ho, Nat.ne_of_gt hL, ?_⟩
    cases q : h₀.get? s.heap.objs.size with
    | none => rfl
    | some o => exact absurd (Heap.lt_size (F.keep _ _ q)) (Nat.lt_irrefl _)
  · exact ⟨hk _ _ (Heap.lt_size (N p hp).1) (N p hp).1, (N p hp).2⟩
end
end Mine
end

section
set_option maxRecDepth 100000
namespace Mine
open PySem PySem.W PySem.Spec PySem.Calls PyProof.Rows

namespace FF
theorem entry_inter_loop : entryFor table "frozenset.intersection.loop" = some Builtin.«frozenset.intersection.loop» := entryFor_of_tree (by kernel_rfl)
theorem plain_inter_loop : plainId "frozenset.intersection.loop" = true := by decide +kernel
theorem entry_inter : entryFor table "set.intersection" = some Builtin.«frozenset.intersection» :=
  entryFor_alias (id' := "frozenset.intersection") (by kernel_rfl) rfl (by decide +kernel) (by kernel_rfl)
end FF

section
variable {prog : Program} {w : World} {A : Around} {E : Value → Shared → Prop} {h₀ : Heap} {L : Addr} {m : Str → Option Value} {news : List (Addr × Obj)}

theorem setOf_at {h h' : Heap} {a : Addr} {S : Int → Bool} {n : Nat} (x : h.SetOf (intKind prog w) a S n) (e : ∀ o, h.get? a = some o → h'.get? a = some o) : h'.SetOf (intKind prog w) a S n :=
  let ⟨o, es, ep, t, ho, r⟩ := x; ⟨o, es, ep, t, e o ho, r⟩

theorem inter_loop {R : Result → Shared → Prop} {sa ra I lb : Addr} {vsB : List Value} {b la : List Int} (hh : A.handled = none) (hi : IntsAre vsB b) (hnd : b.Nodup) (hna : la.Nodup) (hbb : b.length + 1 < scanBound)
    (d1 : ra ≠ sa) (d2 : I ≠ sa) (d3 : I ≠ ra) (d4 : lb ≠ I) (d5 : lb ≠ ra) :
    ∀ (d i : Nat) (acc : List Int) (s : Shared), b.length - i = d → i ≤ b.length → s.heap.IsListIter I lb i → s.heap.IsList lb vsB.toArray → s.heap.SetOf (intKind prog w) sa (fun k => decide (k ∈ la)) la.length →
      s.heap.SetOf (intKind prog w) ra (fun k => decide (k ∈ acc)) acc.length → acc.Nodup → (∀ k, k ∈ acc ↔ k ∈ la ∧ k ∈ b.take i) →
      (∀ (h' : Heap) (tk : Nat) (acc' : List Int), acc'.Nodup → (∀ k, k ∈ acc' ↔ k ∈ la ∧ k ∈ b) → h'.SetOf (intKind prog w) ra (fun k => decide (k ∈ acc')) acc'.length → (∀ x o, x ≠ I → x ≠ ra → s.heap.get? x = some o → h'.get? x = some o) → R (.ok (.ret .none)) { s with heap := h', toks := tk }) →
      codeAny (model prog w) A (.builtin "frozenset.intersection.loop" ⟨[.ref sa, .ref I, .ref ra], []⟩) R s := by
  have hvl : vsB.length = b.length := IntsAre.length hi
  intro d
  induction d with
  | zero =>
    intro i acc s hd hle hit hl hS hR hn hm hQ
    have hib : i = b.length := by omega
    subst hib
    refine codeAny_builtin FF.entry_inter_loop ?_
    rw [Around.under_plainId FF.plain_inter_loop _]
    show wpAny _ A.in1 (pyNext (.ref I) >>= _) _ _ s
    refine wpAny_bind (wpAny_pyNext_list_end hh hit hl (by simp [hvl]) fun h' he => ?_)
    show wpAny _ A.in1 (ret Value.none) _ _ _
    refine wpAny_pure (hQ h' s.toks acc hn (fun k => by rw [hm k, List.take_length]) (setOf_at hR fun o e => he ra o (Ne.symm d3) e) fun x o hx _ e => he x o hx e)
  | succ d ih =>
    intro i acc s hd hle hit hl hS hR hn hm hQ
    have hlt : i < b.length := by omega
    obtain ⟨t, hx⟩ := hi.get i b[i] (by simp [hlt])
    refine codeAny_builtin FF.entry_inter_loop ?_
    rw [Around.under_plainId FF.plain_inter_loop _]
    show wpAny _ A.in1 (pyNext (.ref I) >>= _) _ _ s
    refine wpAny_bind (wpAny_pyNext_list_item hit hl (by simpa using hx) fun h1 hit1 hs1 => ?_)
    have e1 := hs1.extBut
    show wpAny _ A.in1 (holding [Value.int b[i] t] (pyHash (.int b[i] t)) >>= _) _ _ _
    refine wpAny_bind (wpAny_holding ((intKind prog w).pyHash (k := b[i]) (intKind_is _ _ _ _) ?_))
    have hS1 : h1.SetOf (intKind prog w) sa (fun k => decide (k ∈ la)) la.length := setOf_at hS fun o e => e1 sa o (Ne.symm d2) e
    have hR1 : h1.SetOf (intKind prog w) ra (fun k => decide (k ∈ acc)) acc.length := setOf_at hR fun o e => e1 ra o (Ne.symm d3) e
    have hl1 : h1.IsList lb vsB.toArray := hl.extBut e1 d4
    have hnot : b[i] ∉ b.take i := by
      intro hmem
      obtain ⟨j, hj, e⟩ := List.mem_iff_getElem.mp hmem
      rw [List.length_take] at hj
      rw [List.getElem_take] at e
      exact (List.pairwise_iff_getElem.mp hnd) j i (by omega) hlt (by omega) e
    have htk : b.take (i + 1) = b.take i ++ [b[i]] := by rw [List.take_add_one]; simp [hlt]
    have hacc : b[i] ∉ acc := fun h => hnot ((hm _).mp h).2
    have haccl : acc.length ≤ b.length := by
      have := List.Nodup.length_le_of_subset hn (l₂ := b) fun k hk => List.mem_of_mem_take ((hm k).mp hk).2
      exact this
    refine wpAny_bind (wpAny_holding (wpAny_setFind_of (knd := intKind prog w) (s := { s with heap := h1, toks := s.toks + 1 }) (intKind_is _ _ _ _) rfl hS1 fun r hr => ?_))
    have hrest : ∀ (h2 : Heap) (tk2 : Nat) (acc2 : List Int), h2.IsListIter I lb (i + 1) → h2.IsList lb vsB.toArray → h2.SetOf (intKind prog w) sa (fun k => decide (k ∈ la)) la.length → h2.SetOf (intKind prog w) ra (fun k => decide (k ∈ acc2)) acc2.length → acc2.Nodup → (∀ k, k ∈ acc2 ↔ k ∈ la ∧ k ∈ b.take (i + 1)) →
        (∀ x o, x ≠ I → x ≠ ra → s.heap.get? x = some o → h2.get? x = some o) →
        codeAny (model prog w) A (.builtin "frozenset.intersection.loop" ⟨[.ref sa, .ref I, .ref ra], []⟩) R { s with heap := h2, toks := tk2 } := by
      intro h2 tk2 acc2 a1 a2 a3 a4 a5 a6 a7
      refine ih (i + 1) acc2 { s with heap := h2, toks := tk2 } (by omega) (by omega) a1 a2 a3 a4 a5 a6 fun h' tk acc' q1 q2 q3 q4 => ?_
      exact hQ h' tk acc' q1 q2 q3 fun x o hx hx' e => q4 x o hx hx' (a7 x o hx hx' e)
    cases hmem : decide (b[i] ∈ la) with
    | false =>
      have hni : b[i] ∉ la := of_decide_eq_false hmem
      have hr' : r.isSome = false := hr.trans hmem
      rw [hr']
      simp only [Bool.false_eq_true, ↓reduceIte]
      refine wpAny_pure ⟨plainId_quiet FF.plain_inter_loop _, hrest h1 _ acc hit1 hl1 hS1 hR1 hn (fun k => ?_) fun x o hx _ e => e1 x o hx e⟩
      rw [hm k, htk, List.mem_append, List.mem_singleton]
      constructor
      · exact fun ⟨p, q⟩ => ⟨p, .inl q⟩
      · rintro ⟨p, q | rfl⟩
        · exact ⟨p, q⟩
        · exact absurd p hni
    | true =>
      have hmi : b[i] ∈ la := of_decide_eq_true hmem
      have hr' : r.isSome = true := hr.trans hmem
      rw [hr']
      simp only [↓reduceIte]
      refine wpAny_bind (wpAny_holding ?_)
      refine wpAny_setAddHashed_of (knd := intKind prog w) (s := { s with heap := h1, toks := s.toks + 1 }) (intKind_is _ _ _ _) rfl hR1 (by omega) fun h2 hsb hS2 => ?_
      have e2 := hsb.extBut
      have hS2' : h2.SetOf (intKind prog w) ra (fun k => decide (k ∈ acc ++ [b[i]])) (acc ++ [b[i]]).length := by
        refine SetOf_congr hS2 (fun k => ?_) ?_
        · rw [← Bool.decide_or, decide_eq_decide, List.mem_append, List.mem_singleton]
        · rw [if_neg (by simpa using hacc)]; simp
      have hn2 : (acc ++ [b[i]]).Nodup := List.nodup_append.mpr ⟨hn, by simp, fun x hx y hy => by rw [List.mem_singleton.mp hy]; rintro rfl; exact hacc hx⟩
      have hm2 : ∀ k, k ∈ acc ++ [b[i]] ↔ k ∈ la ∧ k ∈ b.take (i + 1) := fun k => by
        rw [htk, List.mem_append, List.mem_append, List.mem_singleton, hm k]
        constructor
        · rintro (⟨p, q⟩ | rfl)
          · exact ⟨p, .inl q⟩
          · exact ⟨hmi, .inr rfl⟩
        · rintro ⟨p, q | q⟩
          · exact .inl ⟨p, q⟩
          · exact .inr q
      have hit2 : h2.IsListIter I lb (i + 1) := hit1.extBut e2 d3
      have hl2 : h2.IsList lb vsB.toArray := hl1.extBut e2 d5
      have hSa2 : h2.SetOf (intKind prog w) sa (fun k => decide (k ∈ la)) la.length := setOf_at hS1 fun o e => e2 sa o (Ne.symm d1) e
      have hk2 : ∀ x o, x ≠ I → x ≠ ra → s.heap.get? x = some o → h2.get? x = some o := fun x o hx hx' e => e2 x o hx' (e1 x o hx e)
      obtain ⟨o3, es3, ep3, t3, ho3, hex3, hd3, hel3, hmem3, hb3, hf3, hn3⟩ := id hS2'
      obtain ⟨o4, es4, ep4, t4, ho4, hex4, hd4, hel4, hmem4, hb4, hf4, hn4⟩ := id hSa2
      unfold Builtin.Frozenset.sizeOf
      refine wpAny_bind (wpAny_bind (wpAny_setEntries_of (s := { s with heap := h2, toks := s.toks + 1 }) ho3 hd3 hf3 (wpAny_pure ?_)))
      refine wpAny_bind (wpAny_bind (wpAny_setEntries_of (s := { s with heap := h2, toks := s.toks + 1 }) ho4 hd4 hf4 (wpAny_pure ?_)))
      rw [hn3, hn4]
      by_cases hge : (acc ++ [b[i]]).length ≥ la.length
      · rw [if_pos hge]
        refine wpAny_bind (wpAny_rule ?_)
        show wpAny _ A.in1 (ret Value.none) _ _ _
        have hsub : ∀ k, k ∈ la → k ∈ acc ++ [b[i]] := by
          intro k hk
          refine Classical.byContradiction fun hno => ?_
          have hsub2 : acc ++ [b[i]] ⊆ la.erase k := fun x hx => (List.Nodup.mem_erase_iff hna).mpr ⟨fun e => hno (e ▸ hx), ((hm2 x).mp hx).1⟩
          have := List.Nodup.length_le_of_subset hn2 hsub2
          rw [List.length_erase_of_mem hk] at this
          have := List.length_pos_of_mem hk
          omega
        refine wpAny_pure (hQ h2 _ (acc ++ [b[i]]) hn2 (fun k => ⟨fun h => ⟨((hm2 k).mp h).1, List.mem_of_mem_take ((hm2 k).mp h).2⟩, fun h => hsub k h.1⟩) hS2' hk2)
      · rw [if_neg hge]
        exact wpAny_pure ⟨plainId_quiet FF.plain_inter_loop _, hrest h2 _ _ hit2 hl2 hSa2 hS2' hn2 hm2 hk2⟩
end
end Mine
end

section
set_option maxRecDepth 100000
namespace Mine
open PySem PySem.W PySem.Spec PySem.Calls PyProof.Rows
section
variable {prog : Program} {w : World} {A : Around} {E : Value → Shared → Prop} {s : Shared} {h₀ : Heap} {L : Addr} {m : Str → Option Value} {news : List (Addr × Obj)}

theorem call_inter {sa lb : Addr} {o : Obj} {vsB : List Value} {b la : List Int} {Q : Value → Shared → Prop} (F : Fr h₀ L s.heap m) (N : News h₀ L s.heap news) (hh : A.handled = none) (ho : s.heap.get? sa = some o) (hM : MSet prog w o la) (hl : s.heap.IsList lb vsB.toArray)
    (hi : IntsAre vsB b) (hnd : b.Nodup) (hbb : b.length + 1 < scanBound) (hba : la.length < scanBound)
    (h : ∀ D o' acc h' tk, Fr h₀ L h' m → News h₀ L h' ((D, o') :: news) → (∀ p ∈ news, p.1 < D) → MSet prog w o' acc → (∀ k, k ∈ acc ↔ k ∈ la ∧ k ∈ b) → Q (.ref D) { s with heap := h', toks := tk }) :
    wpAny (model prog w) A (call (.builtin "set.intersection") [.ref sa, .ref lb]) Q E s := by
  have hex := hM.1.1
  have hT : s.TypeIs (.ref sa) "set" := ⟨o, ho, hex.1⟩
  have hne : lb ≠ sa := by
    rintro rfl
    obtain ⟨ol, hol, hc, _⟩ := hl
    rw [ho] at hol
    cases hol
    rw [hex.1] at hc
    injection hc with hc
    exact absurd hc (by decide)
  have hS := hM.1.setOf ho hba
  refine wpAny_call_entry PySem.F.slot_set_intersection hT FF.entry_inter ?_ (PySem.F.args_set_intersection_2 _ _)
  unfold Builtin.«frozenset.intersection» Builtin.Frozenset.manyOthers
  simp only [List.isEmpty_nil, bind_assoc, Bool.not_true, Bool.false_eq_true, ↓reduceIte]
  refine wpAny_bind (m := Builtin.Frozenset.addrOf (.ref sa)) (wpAny_pure ?_)
  refine wpAny_bind (wpAny_pure ?_)
  dsimp only
  simp only [List.isEmpty_cons, Bool.false_eq_true, ↓reduceIte, List.forIn_cons, List.forIn_nil, bind_assoc, pure_bind]
  refine wpAny_bind (wpAny_holding ?_)
  refine wpAny_bind (m := Builtin.Frozenset.addrOf (.ref sa)) (wpAny_pure ?_)
  unfold Builtin.Frozenset.intersection
  have hb1 : (Value.ref lb == Value.ref sa) = false := by
    rw [beq_eq_false_iff_ne]
    intro e
    injection e with e
    exact hne e
  rw [hb1]
  simp only [Bool.false_eq_true, ↓reduceIte]
  refine wpAny_bind ?_
  unfold Builtin.Frozenset.baseOf
  refine wpAny_bind (wpAny_isInstance hT sub_set_self ?_)
  refine wpAny_pure ?_
  simp only [↓reduceIte]
  refine wpAny_bind (wpAny_newSet_of (prog := prog) (w := w) (knd := intKind prog w) fun led hS0 => ?_)
  refine wpAny_bind (m := Builtin.Frozenset.addrOf (.ref s.heap.objs.size)) (wpAny_pure ?_)
  refine wpAny_bind (wpAny_holding ?_)
  generalize hS1 : ({ cls := .type "set", dict := none, data := .set #[] 0 (.fresh 0 0 led) } : Obj) = so at hS0 ⊢
  have hso : so.isFreed = false := by subst hS1; rfl
  have up : ∀ x ox, s.heap.get? x = some ox → (s.heap.push so).get? x = some ox := fun x ox e => Heap.get?_push_of_some _ e
  have hl1 : (s.heap.push so).IsList lb vsB.toArray := hl.push so
  have hT1 : Shared.TypeIs { s with heap := s.heap.push so } (.ref lb) "list" := hl1.typeIs (s := { s with heap := s.heap.push so })
  unfold Builtin.Frozenset.isAnySet
  refine wpAny_bind (wpAny_mono (Q := fun b s' => b = false ∧ s' = { s with heap := s.heap.push so }) (E := fun _ _ => False) ?_ (fun b s' hb => ?_) (fun _ _ x => x.elim))
  · refine wpAny_bind (wpAny_isInstance hT1 PySem.F.sub_list_set ?_)
    show wpAny _ _ (if false = true then pure true else isInstance (.ref lb) (.type "frozenset")) _ _ _
    rw [if_neg Bool.false_ne_true]
    exact wpAny_isInstance hT1 PySem.F.sub_list_frozenset ⟨rfl, rfl⟩
  obtain ⟨rfl, rfl⟩ := hb
  simp only [Bool.false_eq_true, ↓reduceIte]
  refine wpAny_bind (wpAny_pyIter_list hl1 ?_)
  have hpl : ∀ (x : Addr) (ox : Obj), s.heap.get? x = some ox → x < s.heap.objs.size := fun x ox e => Heap.lt_size e
  have hsz1 : (s.heap.push so).objs.size = s.heap.objs.size + 1 := by rw [Heap.size_push]
  generalize hI : ({ cls := .type "list_iterator", data := .fields #[.ref lb, .int 0 0] } : Obj) = io
  have hio : io.isFreed = false := by subst hI; rfl
  have hlb : lb < s.heap.objs.size := let ⟨ol, hol, _⟩ := hl; hpl lb ol hol
  have hsa : sa < s.heap.objs.size := hpl sa o ho
  have up2 : ∀ x ox, (s.heap.push so).get? x = some ox → ((s.heap.push so).push io).get? x = some ox := fun x ox e => Heap.get?_push_of_some _ e
  have hnI : ∀ x, x < s.heap.objs.size → x ≠ (s.heap.push so).objs.size := fun x hx => by rw [hsz1]; omega
  have hn0 : s.heap.objs.size ≠ (s.heap.push so).objs.size := by rw [hsz1]; omega
  refine wpAny_bind (wpAny_runValue ?_)
  refine inter_loop (A := A.in1) (R := fun r s' => match r with | .ok (.ret v) => wpAny (model prog w) A.in1 (pure ()) _ _ s' | .ok _ => False | .error e => E e s') (b := b) (la := la) hh hi hnd hM.2 hbb (Nat.ne_of_gt hsa) (hnI sa hsa).symm hn0.symm (hnI lb hlb) (Nat.ne_of_lt hlb) b.length 0 [] _ rfl (Nat.zero_le _)
    ⟨io, Heap.get?_push_size _ hio, by subst hI; rfl, by subst hI; rfl⟩ (hl1.push io) (setOf_at hS fun ox e => up2 _ _ (up _ _ e)) ?_ List.nodup_nil (by simp) ?_
  · exact setOf_at (SetOf_congr hS0 (fun k => by simp) rfl) fun ox e => up2 _ _ e
  · intro h' tk acc q1 q2 q3 q4
    refine wpAny_pure (wpAny_pure (wpAny_pure ⟨_, rfl, ?_⟩))
    obtain ⟨o', ho', hM'⟩ := setOf_obj q3 q1
    have old : ∀ x ox, s.heap.get? x = some ox → h'.get? x = some ox := fun x ox e => q4 x ox (hnI x (hpl x ox e)) (Nat.ne_of_lt (hpl x ox e)) (up2 _ _ (up _ _ e))
    have hL : L < s.heap.objs.size := F.ns.lt
    refine h _ o' acc h' tk ⟨F.ns.at' fun ob e => old _ ob e, fun b ob e => old b ob (F.keep b ob e), F.above⟩ (fun p hp => ?_) (fun p hp => Heap.lt_size (N p hp).1) hM' q2
    rcases List.mem_cons.mp hp with rfl | hp
    · refine ⟨ho', Nat.ne_of_gt hL, ?_⟩
      cases q : h₀.get? s.heap.objs.size with
      | none => rfl
      | some o => exact absurd (Heap.lt_size (F.keep _ _ q)) (Nat.lt_irrefl _)
    · exact ⟨old _ _ (N p hp).1, (N p hp).2⟩
end
end Mine
end

section
set_option maxRecDepth 100000
namespace Mine
open PySem PySem.W PySem.Spec PySem.Calls PyProof.Rows

/-- o is an iterator over the list at l that has handed on i items -/
def LIt (o : Obj) (l : Addr) (i : Nat) : Prop := o.cls = .type "list_iterator" ∧ o.data = .fields #[.ref l, .int i 0]

section
variable {prog : Program} {w : World} {A : Around} {E : Value → Shared → Prop} {s : Shared} {h₀ : Heap} {L : Addr} {m : Str → Option Value} {news : List (Addr × Obj)}

theorem LIt.at {h : Heap} {o : Obj} {I l : Addr} {i : Nat} (a : LIt o l i) (ho : h.get? I = some o) : h.IsListIter I l i := ⟨o, ho, a.1, a.2⟩

theorem call_iter {l : Addr} {items : Array Value} {Q : Value → Shared → Prop} (F : Fr h₀ L s.heap m) (N : News h₀ L s.heap news) (hl : s.heap.IsList l items)
    (h : ∀ I o h', Fr h₀ L h' m → News h₀ L h' ((I, o) :: news) → (∀ p ∈ news, p.1 < I) → LIt o l 0 → Q (.ref I) { s with heap := h' }) :
    wpAny (model prog w) A (call (.builtin "iter") [.ref l]) Q E s := by
  refine call_function_entry (by decide +kernel) (by decide +kernel) kdk_entry_iter (kdk_args_iter _) ?_
  unfold Builtin.«iter»
  refine wpAny_bind (m := someArgs "iter" 1 2 _) (wpAny_of_eq (a := [Value.ref l]) (by first | rfl | kernel_rfl!) ?_)
  show wpAny _ _ (pyIter (.ref l) >>= _) _ _ _
  refine wpAny_bind (wpAny_pyIter_list hl ?_)
  exact wpAny_pure ⟨_, rfl, h _ _ _ (F.push _) (News.push F N _ rfl) (fun q hq => Heap.lt_size (N q hq).1) ⟨rfl, rfl⟩⟩

theorem ext_loop {R : Result → Shared → Prop} {S I lb : Addr} {vsB : List Value} {res : Value} (hh : A.handled = none) (d1 : S ≠ I) (d2 : lb ≠ I) (d3 : lb ≠ S) :
    ∀ (d i : Nat) (acc : List Value) (c : Nat) (s : Shared), vsB.length - i = d → i ≤ vsB.length → s.heap.IsListIter I lb i → s.heap.IsList lb vsB.toArray → s.heap.get? S = some (listOf acc.toArray c) → acc.length + d ≤ sizeLine →
      (∀ (h' : Heap) (tk c' : Nat), h'.get? S = some (listOf (acc ++ vsB.drop i).toArray c') → (∀ x o, x ≠ I → x ≠ S → s.heap.get? x = some o → h'.get? x = some o) → R (.ok (.ret res)) { s with heap := h', toks := tk }) →
      codeAny (model prog w) A (.builtin "list.extend.loop" ⟨[.ref S, .ref I, res], []⟩) R s := by
  intro d
  induction d with
  | zero =>
    intro i acc c s hd hle hit hl hS hz hR
    have hi : i = vsB.length := by omega
    subst hi
    refine codeAny_builtin PySem.F.entry_extend_loop ?_
    rw [Around.under_plainId PySem.F.plain_extend_loop _]
    show wpAny _ A.in1 (pyNext (.ref I) >>= _) _ _ s
    refine wpAny_bind (wpAny_pyNext_list_end hh hit hl (by simp) fun h' he => ?_)
    refine wpAny_pure (hR h' s.toks c ?_ fun x o hx _ e => he x o hx e)
    rw [List.drop_length, List.append_nil]
    exact he S _ d1 hS
  | succ d ih =>
    intro i acc c s hd hle hit hl hS hz hR
    have hlt : i < vsB.length := by omega
    refine codeAny_builtin PySem.F.entry_extend_loop ?_
    rw [Around.under_plainId PySem.F.plain_extend_loop _]
    show wpAny _ A.in1 (pyNext (.ref I) >>= _) _ _ s
    refine wpAny_bind (wpAny_pyNext_list_item hit hl (x := vsB[i]) (by simp [hlt]) fun h1 hit1 hs1 => ?_)
    have e1 := hs1.extBut
    have hS1 : h1.get? S = some (listOf acc.toArray c) := e1 S _ d1 hS
    show wpAny _ A.in1 (updateSeq S (·.push vsB[i]) >>= _) _ _ _
    refine wpAny_bind ?_
    refine wpAny_updateSeq (s := { s with heap := h1 }) hS1 rfl (wpAny_pure ⟨plainId_quiet PySem.F.plain_extend_loop _, ?_⟩) (by simp; omega) (by simp; omega)
    have e2 := (Heap.SameBut.update h1 S (Obj.mapSeq fun x => x.push vsB[i])).extBut
    have hS2 : ∃ c2, (h1.update S (Obj.mapSeq fun x => x.push vsB[i])).get? S = some (listOf (acc ++ [vsB[i]]).toArray c2) := by
      have q := PySem.IsL.update hS1 (fun x => x.push vsB[i])
      have e : (acc ++ [vsB[i]]).toArray = acc.toArray.push vsB[i] := by simp
      rw [e]
      exact ⟨_, q⟩
    obtain ⟨c2, hS2⟩ := hS2
    refine ih (i + 1) (acc ++ [vsB[i]]) c2 _ (by omega) hlt (hit1.extBut e2 (Ne.symm d1)) ((hl.extBut e1 d2).extBut e2 d3) hS2 (by simp; omega) fun h' tk c' q1 q2 => ?_
    refine hR h' tk c' ?_ fun x o hx hx' e => q2 x o hx hx' (e2 x o hx' (e1 x o hx e))
    rw [q1, List.append_assoc]
    have : [vsB[i]] ++ vsB.drop (i + 1) = vsB.drop i := by
      rw [List.singleton_append, List.getElem_cons_drop]
    rw [this]

theorem call_extend_it {D I lb : Addr} {o : Obj} {i : Nat} {acc vsB : List Value} {c nb : Nat} {g : Obj → List (Addr × Obj)} {Q : Value → Shared → Prop} (F : Fr h₀ L s.heap m) (N : News h₀ L s.heap ((I, o) :: news)) (hh : A.handled = none) (ho : LIt o lb i) (hb : (lb, listOf vsB.toArray nb) ∈ news)
    (U : UpdF D (listOf acc.toArray c) news g) (hIo : ∀ p ∈ news, p.1 ≠ I) (hlD : lb ≠ D) (hle : i ≤ vsB.length) (hz : acc.length + vsB.length ≤ sizeLine)
    (h : ∀ h' tk c', Fr h₀ L h' m → News h₀ L h' (g (listOf (acc ++ vsB.drop i).toArray c')) → Q .none { s with heap := h', toks := tk }) :
    wpAny (model prog w) A (call (.builtin "list.extend") [.ref D, .ref I]) Q E s := by
  obtain ⟨pre, post, hnews, hg, ha, hp⟩ := U.split
  have hDm : (D, listOf acc.toArray c) ∈ news := by rw [hnews]; exact List.mem_append_right _ (.head _)
  have hDi : D ≠ I := hIo _ hDm
  have hlI : lb ≠ I := hIo _ hb
  have hD := N _ (.tail _ hDm)
  have hI := N _ (.head _)
  have hT : s.TypeIs (.ref D) "list" := ⟨_, hD.1, rfl⟩
  have hTI : s.TypeIs (.ref I) "list_iterator" := ⟨_, hI.1, ho.1⟩
  have hit : s.heap.IsListIter I lb i := ho.at hI.1
  have hl : s.heap.IsList lb vsB.toArray := PySem.IsL.isList (n := nb) (N _ (.tail _ hb)).1
  refine wpAny_call (codeAny_call_builtin PySem.F.slot_list_extend.plain PySem.F.entry_list_extend (PySem.F.slot_list_extend.check _ _ _ _ _ _ _ _ hT (PySem.F.args_list_extend_2 _ _) ?_))
  unfold Builtin.«list.extend»
  refine wpAny_bind (m := selfAndOne "list.extend" _) (wpAny_pure ?_)
  show wpAny _ A.in1 (Builtin.List.listExtendWith (.ref D) (.ref I) .none) _ _ s
  unfold Builtin.List.listExtendWith
  refine wpAny_bind (wpAny_typeOf hTI ?_)
  have h1 : Builtin.List.listSameRef (.ref D) (.ref I) = false := by simp [Builtin.List.listSameRef, hDi]
  rw [if_neg (by rw [h1]; decide)]
  refine wpAny_bind (wpAny_pyIter_listiter hit ?_)
  refine wpAny_bind (wpAny_holding ?_)
  unfold Builtin.List.listLengthHint
  refine wpAny_bind (wpAny_specialOf hTI PySem.F.nolen_li ?_)
  show wpAny _ A.in1 (specialOf (Value.ref I) (Str.ofString "__length_hint__") >>= _) _ _ _
  refine wpAny_bind (wpAny_specialOf hTI PySem.F.hint_li ?_)
  generalize hid : ("list_iterator.__length_hint__" : String) = id0
  wp_delta
  rw [show splitId id0 = some ("list_iterator", "__length_hint__") from by subst hid; decide +kernel]
  subst hid
  refine wpAny_bind (wpAny_isInstance (b := true) hTI (by rw [isSubtype_type]; kernel_rfl) ?_)
  refine wpAny_pure ?_
  rw [if_neg (by decide)]
  refine wpAny_pure ⟨plainId_quiet PySem.F.plain_extend_loop _, ?_⟩
  refine ext_loop hh hDi hlI hlD (vsB.length - i) i acc c s rfl hle hit hl hD.1 (by omega) fun h' tk c' q1 q2 => ?_
  refine h h' tk c' ?_ fun p hp' => ?_
  · exact ⟨F.ns.at' fun ob e => q2 L ob (Ne.symm hI.2.1) (Ne.symm hD.2.1) e, fun b ob e => q2 b ob (fun x => by rw [x, hI.2.2] at e; cases e) (fun x => by rw [x, hD.2.2] at e; cases e) (F.keep b ob e), F.above⟩
  · rw [hg] at hp'
    have hold : ∀ p ∈ news, p.1 ≠ D → h'.get? p.1 = some p.2 ∧ p.1 ≠ L ∧ h₀.get? p.1 = none := fun p hm hne => ⟨q2 _ _ (hIo p hm) hne (N p (.tail _ hm)).1, (N p (.tail _ hm)).2⟩
    rcases List.mem_append.mp hp' with hq | hq
    · exact hold p (by rw [hnews]; exact List.mem_append_left _ hq) (ha p hq)
    · rcases List.mem_cons.mp hq with rfl | hq
      · exact ⟨q1, hD.2⟩
      · exact hold p (by rw [hnews]; exact List.mem_append_right _ (.tail _ hq)) (hp p hq)

def ForNext (h₀ : Heap) (L I : Addr) (o : Obj) (adr : List Addr) (Jn : (Str → Option Value) → List (Addr × Obj) → Prop) (s s₂ : Shared) : Prop :=
  ∃ h' tk' m' nx', s₂ = { s with heap := h', toks := tk' } ∧ Fr h₀ L h' m' ∧ News h₀ L h' ((I, o) :: nx') ∧ nx'.map (·.1) = adr ∧ Jn m' nx'
theorem ForNext.intro {h₀ h' : Heap} {L I : Addr} {o : Obj} {adr : List Addr} {Jn : (Str → Option Value) → List (Addr × Obj) → Prop} {s : Shared} {tk' : Nat} {m' : Str → Option Value} {nx' : List (Addr × Obj)}
    (F : Fr h₀ L h' m') (N : News h₀ L h' ((I, o) :: nx')) (e : nx'.map (·.1) = adr) (j : Jn m' nx') : ForNext h₀ L I o adr Jn s { s with heap := h', toks := tk' } := ⟨h', tk', m', nx', rfl, F, N, e, j⟩

/-- a for over an iterator that stands, with an else; a turn may break -/
theorem for_it {env : Env} {x : Str} {px pos : Pos} {iter : PySem.Expr} {body orelse : List Stmt} {Q : Flow → Shared → Prop} {I l : Addr} {vs : List Value} {ns : List Int} {nn i₀ : Nat} {o₀ : Obj} (J : Nat → (Str → Option Value) → List (Addr × Obj) → Prop)
    (hh : A.handled = none) (hx : env.kindOf x = some .local) (hpx : (env.scope.kind == .class || (env.scope.kind == .module && env.locals != env.globals)) = false)
    (ho : LIt o₀ l i₀) (hi : IntsAre vs ns) (hle : i₀ ≤ ns.length) (F : Fr h₀ env.locals s.heap m) (N : News h₀ env.locals s.heap ((I, o₀) :: news)) (hIo : ∀ p ∈ news, p.1 ≠ I)
    (hJl : ∀ i m nx, J i m nx → (l, listOf vs.toArray nn) ∈ nx) (hj : J i₀ m news)
    (hit : ∀ (Q' : Value → Shared → Prop) , Q' (.ref I) s → wpAny (model prog w) A (eval iter env) Q' E s)
    (turn : ∀ i k t m₁ o nx h tk, ns[i]? = some k → LIt o l (i + 1) → nx.map (·.1) = news.map (·.1) → J i m₁ nx → Fr h₀ env.locals h (fun y => if y = x then some (.int k t) else m₁ y) → News h₀ env.locals h ((I, o) :: nx) →
      wpAny (model prog w) A (execs body env) (fun f s₂ => match f with
        | .ret v => Q (.ret v) s₂
        | .brk => Q .next s₂
        | _ => ForNext h₀ env.locals I o (news.map (·.1)) (J (i + 1)) s s₂) E { s with heap := h, toks := tk })
    (done : ∀ m₁ nx h tk, nx.map (·.1) = news.map (·.1) → J ns.length m₁ nx → Fr h₀ env.locals h m₁ → News h₀ env.locals h nx → wpAny (model prog w) A (execs orelse env) Q E { s with heap := h, toks := tk })
    (hE : PassesOwn (model prog w) A env E)
    (hs : ∀ x, foldedSetIterable iter env x = pure x := by intro _; rfl) :
    wpAny (model prog w) A (exec (.For (.Name x px) iter body orelse pos) env) Q E s := by
  have hI0 := N _ (.head _)
  refine wpAny_For (hit _ (wpAny_pyIter_listiter (ho.at hI0.1) ?_)) hs
  have hvl : vs.length = ns.length := IntsAre.length hi
  refine codeAny_forLoop (R := fun r s' => match r with | .ok f => Q f s' | .error e => cameBackBy (model prog w) A env E e s')
    (fun k s' => ∃ h' tk m' o' nx i, s' = { s with heap := h', toks := tk } ∧ Fr h₀ env.locals h' m' ∧ News h₀ env.locals h' ((I, o') :: nx) ∧ LIt o' l i ∧ nx.map (·.1) = news.map (·.1) ∧ J i m' nx ∧ i ≤ ns.length ∧ k = ns.length + 1 - i) ?_ (ns.length + 1 - i₀)
    ⟨s.heap, s.toks, m, o₀, news, i₀, rfl, F, N, ho, rfl, hj, hle, rfl⟩
  rintro k s' ⟨h', tk, m', o', nx, i, rfl, F', N', ho', hmap, hJ, hi', rfl⟩
  have hI := N' _ (.head _)
  have hIo' : ∀ p ∈ nx, p.1 ≠ I := fun p hp e => by
    have h1 : p.1 ∈ news.map (·.1) := hmap ▸ List.mem_map.mpr ⟨p, hp, rfl⟩
    obtain ⟨q, hq, e'⟩ := List.mem_map.mp h1
    exact hIo q hq (e'.trans e)
  have hlm := hJl _ _ _ hJ
  have hlI : l ≠ I := hIo' _ hlm
  have hl : h'.IsList l vs.toArray := PySem.IsL.isList (n := nn) (N' _ (.tail _ hlm)).1
  by_cases hlt : i < ns.length
  · obtain ⟨t, hxv⟩ := hi.get i ns[i] (by simp [hlt])
    refine wpAny_pyNext_list_item (s := { s with heap := h', toks := tk }) (ho'.at hI.1) hl (by simpa using hxv) fun h1 hit1 hs1 => ?_
    obtain ⟨o1, ho1, hc1, hd1⟩ := hit1
    have F1 : Fr h₀ env.locals h1 m' := F'.change hs1 hI.2.1 hI.2.2
    have N1 : News h₀ env.locals h1 ((I, o1) :: nx) := News.setHead N' hIo' hs1 ho1
    refine wpAny_assign_Name (wpAny_storeName_local hx F1.ns (fun h2 hn2 hs2 => ?_) hpx)
    have F2 := F1.set hn2 hs2
    have N2 := N1.set hs2
    refine wpAny_mono (turn i ns[i] t m' o1 nx h2 (tk + 1) (by simp [hlt]) ⟨hc1, hd1⟩ hmap hJ F2 N2) (fun f s₂ q => ?_) hE
    have fin : (∃ h' tk' m' nx', s₂ = { s with heap := h', toks := tk' } ∧ Fr h₀ env.locals h' m' ∧ News h₀ env.locals h' ((I, o1) :: nx') ∧ nx'.map (·.1) = news.map (·.1) ∧ J (i + 1) m' nx') →
        ∃ m_1, m_1 < ns.length + 1 - i ∧ ∃ h' tk m' o' nx i, s₂ = { s with heap := h', toks := tk } ∧ Fr h₀ env.locals h' m' ∧ News h₀ env.locals h' ((I, o') :: nx) ∧ LIt o' l i ∧ nx.map (·.1) = news.map (·.1) ∧ J i m' nx ∧ i ≤ ns.length ∧ m_1 = ns.length + 1 - i := by
      rintro ⟨h3, tk3, m3, nx3, rfl, F3, N3, hm3, hJ3⟩
      exact ⟨_, by omega, h3, tk3, m3, o1, nx3, i + 1, rfl, F3, N3, ⟨hc1, hd1⟩, hm3, hJ3, hlt, rfl⟩
    cases f with
    | ret v => exact q
    | brk => exact q
    | next => exact fin q
    | cont => exact fin q
  · have hin : i = ns.length := by omega
    subst hin
    refine wpAny_pyNext_list_end (s := { s with heap := h', toks := tk }) hh (ho'.at hI.1) hl (by simp [hvl]) fun h1 he => ?_
    have F1 : Fr h₀ env.locals h1 m' := ⟨F'.ns.at' fun ob e => he _ ob (Ne.symm hI.2.1) e, fun b ob e => he b ob (fun x => by rw [x, hI.2.2] at e; cases e) (F'.keep b ob e), F'.above⟩
    have N1 : News h₀ env.locals h1 nx := fun p hp => ⟨he _ _ (hIo' p hp) (N' p (.tail _ hp)).1, (N' p (.tail _ hp)).2⟩
    exact wpAny_mono (done m' nx h1 tk hmap hJ F1 N1) (fun _ _ q => q) hE
end

section
variable {prog : Program} {w : World} {A : Around} {E : Value → Shared → Prop} {s : Shared} {h₀ : Heap} {L : Addr} {m : Str → Option Value} {news : List (Addr × Obj)}
abbrev frMap {h₀ : Heap} {L : Addr} {h : Heap} {m : Str → Option Value} (_ : Fr h₀ L h m) : Str → Option Value := m
theorem fr_elem {h : Heap} {x : Str} {v : Value} {m₁ M : Str → Option Value} (e : ∀ z, z ≠ x → m₁ z = M z) (F : Fr h₀ L h (fun y => if y = x then some v else m₁ y)) : Fr h₀ L h (fun y => if y = x then some v else M y) := by
  have : (fun y => if y = x then some v else m₁ y) = fun y => if y = x then some v else M y := by
    funext y
    by_cases hy : y = x
    · rw [if_pos hy, if_pos hy]
    · rw [if_neg hy, if_neg hy, e y hy]
  rw [← this]
  exact F
theorem fr_elem2 {h : Heap} {x : Str} {m₁ M : Str → Option Value} (e : ∀ z, z ≠ x → m₁ z = M z) (F : Fr h₀ L h m₁) : Fr h₀ L h (fun y => if y = x then m₁ y else M y) := by
  have : m₁ = fun y => if y = x then m₁ y else M y := by
    funext y
    by_cases hy : y = x
    · rw [if_pos hy]
    · rw [if_neg hy, e y hy]
  rw [← this]
  exact F
theorem discard_K {sa : Addr} {o : Obj} {l : List Int} {k : Int} {t : Tok} {g : Obj → List (Addr × Obj)} {Q : Value → Shared → Prop} (F : Fr h₀ L s.heap m) (N : News h₀ L s.heap news) (U : UpdF sa o news g) (hS : MSet prog w o l) (hb : l.length < scanBound) (hk : k ∈ l)
    (h : ∀ h' o', Fr h₀ L h' m → News h₀ L h' (g o') → MSet prog w o' (l.erase k) → Q .none { s with heap := h', toks := s.toks + 1 }) :
    wpAny (model prog w) A (call (.builtin "set.discard") [.ref sa, .int k t]) Q E s := by
  obtain ⟨pre, post, rfl, hg, a, b⟩ := U.split
  have z := N (sa, o) (List.mem_append_right _ (.head _))
  refine call_discard z.1 hS hb hk fun h' o' hs ho' hM => h h' o' (F.change hs z.2.1 z.2.2) ?_ hM
  rw [hg]
  exact news_set N a b hs ho'
end
end Mine
end

section
set_option maxRecDepth 100000
namespace Mine
open PySem PySem.W PySem.Spec PySem.Calls PyProof.Rows

/-- what merge does, on plain lists: the row at hand, the other row, the shared ones not yet met, what is out -/
def mergeGo (cur oth ov out : List Int) : List Int :=
  match cur with
  | [] => out ++ oth
  | x :: r => if x ∈ ov then mergeGo oth r (ov.erase x) out else mergeGo r oth ov (out ++ [x])
termination_by cur.length + oth.length
decreasing_by all_goals (simp only [List.length_cons]; omega)

theorem drop_cons {l : List Int} {i : Nat} {k : Int} (h : l[i]? = some k) : l.drop i = k :: l.drop (i + 1) := by
  obtain ⟨hi, e⟩ := List.getElem?_eq_some_iff.mp h
  rw [← e, List.getElem_cons_drop]
theorem go_in {l oth ov out : List Int} {i : Nat} {k : Int} (h : l[i]? = some k) (hk : k ∈ ov) : mergeGo (l.drop i) oth ov out = mergeGo oth (l.drop (i + 1)) (ov.erase k) out := by
  rw [drop_cons h, mergeGo, if_pos hk]
theorem go_out {l oth ov out : List Int} {i : Nat} {k : Int} (h : l[i]? = some k) (hk : ¬ k ∈ ov) : mergeGo (l.drop i) oth ov out = mergeGo (l.drop (i + 1)) oth ov (out ++ [k]) := by
  rw [drop_cons h, mergeGo, if_neg hk]
theorem go_nil {l oth ov out : List Int} : mergeGo (l.drop l.length) oth ov out = out ++ oth := by
  rw [List.drop_length, mergeGo]

structure MSt where
  Ic : Addr
  Io : Addr
  lc : Addr
  lo : Addr
  oc : Obj
  oo : Obj
  so : Obj
  vc : List Value
  vo : List Value
  xc : List Int
  xo : List Int
  nc : Nat
  no : Nat
  i : Nat
  j : Nat
  ov : List Int
  vr : List Value
  out : List Int
  nr : Nat

def MSt.led (c : MSt) (ra sa : Addr) (TL : List (Addr × Obj)) : List (Addr × Obj) := (c.Ic, c.oc) :: (c.Io, c.oo) :: (ra, listOf c.vr.toArray c.nr) :: (sa, c.so) :: TL

structure MSt.Ok (prog : Program) (w : World) (c : MSt) (ra sa : Addr) (TL : List (Addr × Obj)) (R0 : List Int) : Prop where
  lic : LIt c.oc c.lc c.i
  lio : LIt c.oo c.lo c.j
  set : MSet prog w c.so c.ov
  ir : IntsAre c.vr c.out
  ic : IntsAre c.vc c.xc
  io : IntsAre c.vo c.xo
  hi : c.i ≤ c.xc.length
  hj : c.j ≤ c.xo.length
  hc : c.xc.length ≤ 9
  ho : c.xo.length ≤ 9
  hov : c.ov.length ≤ 9
  hout : c.out.length ≤ c.i + c.j
  mc : (c.lc, listOf c.vc.toArray c.nc) ∈ TL
  mo : (c.lo, listOf c.vo.toArray c.no) ∈ TL
  ne1 : @Ne Nat c.Ic c.Io
  ne2 : @Ne Nat c.Ic ra
  ne3 : @Ne Nat c.Ic sa
  ne4 : @Ne Nat c.Io ra
  ne5 : @Ne Nat c.Io sa
  off : OwnOff TL [c.Ic, c.Io, ra, sa]
  go : mergeGo (c.xc.drop c.i) (c.xo.drop c.j) c.ov c.out = R0

def MergeTells (prog : Program) (w : World) (K : Frag) (p : Program) (loose : List Str) (mean : ExcName → Option Value) (mg mb : Str → Option Value) (f : Addr) : Prop :=
  ∀ (dp un : Nat) (gd : Option (List Code)) (cn : Str) (cs : Scope) (a : Addr) (ccd : Value) (cl : List (Str × Addr)) (outer : List Env) (A₀ : Around) (base h₀ : Heap) (L : Addr) (m : Str → Option Value) (s : Shared)
    (la lb : Addr) (va vb : List Value) (xa xb : List Int) (na nb : Nat) (rest : List (Addr × Obj)) (Q E : Value → Shared → Prop),
    Below A₀ base outer h₀ → Fr h₀ L s.heap m → K.In h₀ → News h₀ L s.heap ((la, listOf va.toArray na) :: (lb, listOf vb.toArray nb) :: rest) →
    IntsAre va xa → IntsAre vb xb → xa.Nodup → xb.Nodup → xa.length ≤ 9 → xb.length ≤ 9 →
    Top p loose mean mg mb h₀ → cs.kind = .function → dp + 2 < recursionLimit → un + 16 < cLine →
    (∀ h' tk' ra vr nr acc, IntsAre vr (mergeGo xa xb acc []) → acc.Nodup → (∀ k, k ∈ acc ↔ k ∈ xa ∧ k ∈ xb) → (∀ p ∈ (la, listOf va.toArray na) :: (lb, listOf vb.toArray nb) :: rest, p.1 < ra) → Fr h₀ L h' m →
      News h₀ L h' ((ra, listOf vr.toArray nr) :: (la, listOf va.toArray na) :: (lb, listOf vb.toArray nb) :: rest) → Q (.ref ra) { s with heap := h', toks := tk' }) →
    wpAny (model prog w) (ktrTop dp un gd cn cs L a ccd cl outer) (call (.ref f) [.ref la, .ref lb]) Q E s

set_option maxHeartbeats 8000000 in
theorem merge_tells (w : World) {loose : List Str} {mean : ExcName → Option Value} {mg mb : Str → Option Value} 
   : MergeTells PySem.Challenge.rw_eu0026_01.row.prog w (hd.heap_39 w.params) hd.view_39 loose mean mg mb 21 := by
  w_top off
  k_with_none
  k_fill
  unfold MergeTells
  intro dp un gd cn cs a ccd cl outer A₀ base h₀ L m s la lb va vb xa xb na nb rest Q E B F X N hia hib hna hnb hla hlb T hk hd hu hret
  refine wpAny_call ?_
  k_dflt cell_enter
  k_with "call type:set cons nil" =>
    with_unfolding_all refine' call_set ?F ?N (by rfl) ?l ?i ?n ?b ?_
    case F => k_asm
    case N => k_asm
    case l => is_list
    case i => assumption
    case n => assumption
    case b => (unfold scanBound; omega)
    intro sa0 so0 hp1 tk1 FP1 NP1 lS0 hS0
    try k_lt lS0
    try k_sweep
  k_with "getMethod ref" =>
    with_reducible show wpAny _ _ (getMethod (Value.ref _) (PySem.Str.ofString "intersection") _) _ _ _
    with_unfolding_all refine' getMethod_intersection ?ho ?he ?_
    case ho => exact News.get (by k_asm) (by k_mem)
    case he => exact hS0.1.1
  k_with "call builtin:set.intersection" =>
    with_unfolding_all refine' call_inter ?F ?N (by rfl) ?ho ?hM ?hl ?hi ?hn ?hb ?hc ?_
    case F => k_asm
    case N => k_asm
    case ho => exact News.get (by k_asm) (by k_mem)
    case hM => exact hS0
    case hl => is_list
    case hi => assumption
    case hn => assumption
    case hb => (unfold scanBound; omega)
    case hc => (unfold scanBound; omega)
    intro sa so acc hp2 tk2 FP2 NP2 lS1 hS1 hacc
    try k_lt lS1
    try k_sweep
  k_with "call builtin:iter" =>
    with_reducible show wpAny _ _ (call _ [Value.ref la]) _ _ _
    with_unfolding_all refine' call_iter ?F ?N ?hl ?_
    case F => k_asm
    case N => k_asm
    case hl => is_list
    intro Ia oa hp3 FP3 NP3 lIa hLa
    try k_lt lIa
    try k_sweep
  k_with "call builtin:iter" =>
    with_reducible show wpAny _ _ (call _ [Value.ref lb]) _ _ _
    with_unfolding_all refine' call_iter ?F ?N ?hl ?_
    case F => k_asm
    case N => k_asm
    case hl => is_list
    intro Ib ob hp4 FP4 NP4 lIb hLb
    try k_lt lIb
    try k_sweep
  k_with "exec While Constant cons nil" => (refine stopHere ?_)
  k_steps
  unfold StopHere
  rename_i ra hr1 lR hr2 tr1 D' hr3 lD hr4 hr5 hr6 FX NX
  have NX2 := cb_drop NX (fun p hp => List.Mem.tail _ hp)
  have hsub : ∀ p ∈ (MSt.mk Ia Ib la lb oa ob so va vb xa xb na nb 0 0 acc [] [] 0).led ra sa ((la, listOf va.toArray na) :: (lb, listOf vb.toArray nb) :: rest), p ∈ (Ib, ob) :: (Ia, oa) :: (ra, listOf #[] 0) :: (sa, so) :: (sa0, so0) :: (la, listOf va.toArray na) :: (lb, listOf vb.toArray nb) :: rest := by
    intro p hp
    simp only [MSt.led, List.mem_cons] at hp ⊢
    rcases hp with h | h | h | h | h | h | h <;> simp [h]
  have NX3 := cb_drop NX2 hsub
  have hT1 : IntsAre va xa := hia
  have lrest := allLt_mem lIb.2.2.2.2.2.2
  have lrest2 := allLt_mem lIa.2.2.2.2.2
  have lrest3 := allLt_mem lR.2.2.2.2
  have lrest4 := allLt_mem lS1.2.2.2
  have hacl : acc.length ≤ 9 := Nat.le_trans (List.Nodup.length_le_of_subset hS1.2 (l₂ := xa) fun k hk => ((hacc k).mp hk).1) hla
  have hok0 : (MSt.mk Ia Ib la lb oa ob so va vb xa xb na nb 0 0 acc [] [] 0).Ok PySem.Challenge.rw_eu0026_01.row.prog w ra sa ((la, listOf va.toArray na) :: (lb, listOf vb.toArray nb) :: rest) (mergeGo xa xb acc []) := by
    refine ⟨hLa, hLb, hS1, .nil, hia, hib, Nat.zero_le _, Nat.zero_le _, hla, hlb, hacl, Nat.zero_le _, .head _, .tail _ (.head _), by dsimp only; omega, by dsimp only; omega, by dsimp only; omega, by dsimp only; omega, by dsimp only; omega, ?_, rfl⟩
    intro p hp b hb
    simp only [List.mem_cons, List.not_mem_nil, or_false] at hp hb
    rcases hp with h | h | h <;> rcases hb with e | e | e | e <;> subst e
    all_goals first
      | (subst h; refine neN ?_; dsimp only; omega)
      | exact Nat.ne_of_lt (lrest2 p h)
      | exact Nat.ne_of_lt (lrest p h)
      | exact Nat.ne_of_lt (lrest3 p h)
      | exact Nat.ne_of_lt (lrest4 p h)
  generalize hTL : (la, listOf va.toArray na) :: (lb, listOf vb.toArray nb) :: rest = TL at NX3 hok0
  with_unfolding_all refine ksw_while (σ := MSt) (fun c => c.led ra sa TL) (fun c => [(Str.ofString "current", .ref c.Ic), (Str.ofString "other", .ref c.Io)]) (fun c => c.Ok PySem.Challenge.rw_eu0026_01.row.prog w ra sa TL (mergeGo xa xb acc [])) [Str.ofString "element"] (fun _ => True) (fun c => (c.xc.length - c.i) + (c.xo.length - c.j)) ⟨Ia, Ib, la, lb, oa, ob, so, va, vb, xa, xb, na, nb, 0, 0, acc, [], [], 0⟩ FX NX3 hok0 ?hk trivial ?turn ?hE
  case hk =>
    intro p hp
    simp only [List.mem_cons, List.not_mem_nil, or_false] at hp
    rcases hp with h | h <;> subst h <;> rfl
  case hE => passes_own
  case turn =>
    intro c u h tk hf _ FY NY
    clear NX NX2 NX3 FX
    k_with "exec For Name Name cons cons" => (refine stopHere ?_)
    k_steps
    unfold StopHere
    unfold MSt.led at NY
    have hso := hf.set.1
    have hoff := hf.off
    have q1 := hf.ne1
    have q2 := hf.ne2
    have q3 := hf.ne3
    have q4 := hf.ne4
    have q5 := hf.ne5
    have q6 : @Ne Nat ra sa := by omega
    have hnI : ∀ p ∈ (c.Io, c.oo) :: (ra, listOf c.vr.toArray c.nr) :: (sa, c.so) :: TL, p.1 ≠ c.Ic := by
      intro p hp
      simp only [List.mem_cons] at hp
      rcases hp with h | h | h | h
      · rw [h]; exact Ne.symm q1
      · rw [h]; exact Ne.symm q2
      · rw [h]; exact Ne.symm q3
      · exact hoff p h _ (.head _)
    with_unfolding_all refine for_it (l := c.lc) (nn := c.nc) (fun i' m' nx => ∃ vr' out' nr', nx = (c.Io, c.oo) :: (ra, listOf vr'.toArray nr') :: (sa, c.so) :: TL ∧ IntsAre vr' out' ∧ out'.length ≤ i' + c.j ∧ mergeGo (c.xc.drop i') (c.xo.drop c.j) c.ov out' = mergeGo xa xb acc [] ∧ (∀ z, z ≠ Str.ofString "element" → m' z = frMap FY z) ∧ c.i ≤ i') (by rfl) (by rfl) (by rfl) hf.lic hf.ic hf.hi FY NY hnI ?hJl ?hj ?hit ?turn2 ?done2 ?hE2
    case hE2 => passes_own
    case hit => exact fun Q' hq => by k_dflt (refine' ld FY rfl hq)
    case hJl =>
      rintro i' m' nx ⟨vr', out', nr', rfl, _⟩
      exact .tail _ (.tail _ (.tail _ hf.mc))
    case hj => exact ⟨c.vr, c.out, c.nr, rfl, hf.ir, hf.hout, hf.go, fun _ _ => rfl, Nat.le_refl _⟩
    case turn2 =>
      rintro i' k t m₁ o nx h2 tk2 hk2 ho2 hmap ⟨vr', out', nr', rfl, j1, j2, j3, j4, j5⟩ F2 N2
      have F3 := fr_elem j4 F2
      dsimp only [frMap] at F3 j4
      clear F2 NY
      have hov := hf.hov
      have hjl := IntsAre.length j1
      have hhi := hf.hi
      have hhj := hf.hj
      have hhc := hf.hc
      have hho := hf.ho
      have hi9 : i' < c.xc.length := (List.getElem?_eq_some_iff.mp hk2).1
      k_with "getMethod ref" =>
        with_reducible show wpAny _ _ (getMethod (Value.ref _) (PySem.Str.ofString "discard") _) _ _ _
        with_unfolding_all refine' getMethod_discard ?ho ?he ?_
        case ho => exact News.get (by k_asm) (by k_mem)
        case he => exact hf.set.1.1
      k_with "call builtin:set.discard" =>
        with_unfolding_all refine' discard_K ?F ?N ?U hf.set ?b ?k ?_
        case F => k_asm
        case N => k_asm
        case U => k_updF
        case b => (unfold scanBound; omega)
        case k => first | assumption | exact of_decide_eq_true (by assumption)
        intro hpd od FPd NPd hMd
        try dsimp only at NPd
        try k_sweep
      k_steps
      case _ =>
        rename_i xD _ lD2 _ _ _ _ _ _ FZ NZ
        refine ksw_end ⟨c.Io, c.Ic, c.lo, c.lc, c.oo, o, od, c.vo, c.vc, c.xo, c.xc, c.no, c.nc, c.j, i' + 1, c.ov.erase k, vr', out', nr'⟩ (by k_asm) (by k_asm) ?e1 ?e2 ?e3 ?e4 trivial ?e5
        case e1 =>
          intro p hp
          simp only [MSt.led, List.mem_cons] at hp ⊢
          rcases hp with h | h | h | h | h <;> simp [h]
        case e2 =>
          refine ⟨hf.lio, ho2, hMd, j1, hf.io, hf.ic, hhj, hi9, hho, hhc, Nat.le_trans List.length_erase_le hov, by dsimp only; omega, hf.mo, hf.mc, Ne.symm q1, q4, q5, q2, q3, ?_, ?_⟩
          · intro p hp b hb
            refine hoff p hp b ?_
            simp only [List.mem_cons, List.not_mem_nil, or_false] at hb ⊢
            rcases hb with h | h | h | h <;> simp [h]
          · exact (go_in hk2 (by assumption)).symm.trans j3
        case e3 =>
          intro p hp
          simp only [List.mem_cons, List.not_mem_nil, or_false] at hp
          rcases hp with h | h <;> subst h <;> rfl
        case e4 =>
          intro z h1 h2
          have z1 : z ≠ Str.ofString "current" := h1 (_, _) (.head _)
          have z2 : z ≠ Str.ofString "other" := h1 (_, _) (.tail _ (.head _))
          have z3 : z ≠ Str.ofString "element" := by intro e; subst e; revert h2; decide
          simp only [if_neg z1, if_neg z2, if_neg z3, kstB, h2, Bool.false_eq_true, if_false]
        case e5 => dsimp only; omega
      case _ =>
        refine ForNext.intro (nx' := (c.Io, c.oo) :: (ra, listOf (vr' ++ [Value.int k t]).toArray (nr' + 1)) :: (sa, c.so) :: TL) (by k_asm) (by (rw [← List.push_toArray]; k_asm)) (by rfl) ⟨_, out' ++ [k], _, rfl, IntsAre.append j1 (.cons _ _ .nil), ?f1, ?f2, ?f3, ?f4⟩
        case f1 => rw [List.length_append, List.length_singleton]; omega
        case f2 => exact (go_out hk2 (by assumption)).symm.trans j3
        case f3 =>
          intro z hz
          simp only [if_neg hz]
        case f4 => omega
    case done2 =>
      rintro m₁ nx h2 tk2 hmap ⟨vr', out', nr', rfl, j1, j2, j3, j4, j5⟩ F2 N2
      have F3 := fr_elem2 j4 F2
      dsimp only [frMap] at F3 j4
      have hjl := IntsAre.length j1
      have hol := IntsAre.length hf.io
      have hhc := hf.hc
      have hho := hf.ho
      have hhj := hf.hj
      have hmo : (c.lo, listOf c.vo.toArray c.no) ∈ (ra, listOf vr'.toArray nr') :: (sa, c.so) :: TL := .tail _ (.tail _ hf.mo)
      have hlr : c.lo ≠ ra := hoff _ hf.mo ra (.tail _ (.tail _ (.head _)))
      clear F2 NY
      k_with "call builtin:list.extend" =>
        with_unfolding_all refine' call_extend_it ?F ?N (by rfl) hf.lio hmo ?U ?I hlr ?e ?z ?_
        case F => k_asm
        case N => k_asm
        case U => k_updF
        case I => k_all
        case e => omega
        case z => (rw [sizeLine_eq]; omega)
        intro hpe tke nre FPe NPe
        try dsimp only at NPe
        try k_sweep
      k_steps
      subst hTL
      refine hret _ _ ra (vr' ++ c.vo.drop c.j) nre acc ?g1 hS1.2 hacc ?g2 (by k_asm) ?g3
      case g1 =>
        rw [← j3, go_nil]
        exact IntsAre.append j1 (IntsAre.drop hf.io c.j)
      case g2 =>
        intro p hp
        simp only [List.mem_cons] at hp
        rcases hp with h | h | h
        · rw [h]; exact lR.2.2.1
        · rw [h]; exact lR.2.2.2.1
        · exact lrest3 p h
      case g3 =>
        rename News _ _ _ _ => NE
        refine cb_drop NE ?_
        intro p hp
        simp only [List.mem_cons] at hp ⊢
        rcases hp with h | h | h | h <;> simp [h]
end Mine
end

section
set_option maxRecDepth 100000
namespace Mine
open PySem PySem.W PySem.Spec PySem.Calls PyProof.Rows

theorem row_U {prog : Program} {w : World} {K : Frag} {p : Program} {loose : List Str} {mean : ExcName → Option Value} {mg mb : Str → Option Value} {f : Addr} (C : RowTells prog w K p loose mean mg mb f)
    {dp un : Nat} {gd : Option (List Code)} {cn : Str} {cs : Scope} {a : Addr} {ccd : Value} {cl : List (Str × Addr)} {outer : List Env} {A₀ : Around} {base h₀ : Heap} {L : Addr} {m : Str → Option Value} {s : Shared}
    {st sc : Addr} {vs : List Value} {ns : List Int} {n n' : Nat} {i r : Int} {ti tr tm : Tok} {news : List (Addr × Obj)} {g : Obj → List (Addr × Obj)} {Q E : Value → Shared → Prop}
    (B : Below A₀ base outer h₀) (F : Fr h₀ L s.heap m) (X : K.In h₀) (N : News h₀ L s.heap news) (T : Top p loose mean mg mb h₀) (U : UpdF st (stO sc i r ti tr n) news g) (hsc : (sc, listOf vs.toArray n') ∈ news) (hne : @Ne Nat sc st)
    (hI : IntsAre vs ns) (hl : ns.length ≤ 40) (h1 : 0 ≤ i) (h2 : i ≤ (ns.length : Int)) (h3 : 0 ≤ r) (h4 : r < 2147483647)
    (hk : cs.kind = .function) (hd : dp + 2 < recursionLimit) (hu : un + 16 < cLine)
    (hret : ∀ h' tk' ra vsR nsR nr i' r' ti' tr', IntsAre vsR nsR → nsR.Nodup → nsR.length = 9 → (∀ x ∈ nsR, 0 ≤ x ∧ x < 9) → (∀ p ∈ g (stO sc i' r' ti' tr' n), p.1 < ra) → 0 ≤ i' → i' ≤ (ns.length : Int) → 0 ≤ r' → r' < 2147483647 → Fr h₀ L h' m →
      News h₀ L h' ((ra, listOf vsR.toArray nr) :: g (stO sc i' r' ti' tr' n)) → Q (.ref ra) { s with heap := h', toks := tk' }) :
    wpAny (model prog w) (ktrTop dp un gd cn cs L a ccd cl outer) (call (.ref f) [.ref st, .int 9 tm]) Q E s := by
  obtain ⟨pre, post, rfl, hg, ha, hb⟩ := U.split
  refine C dp un gd cn cs a ccd cl outer A₀ base h₀ L m s st sc vs ns n n' i r ti tr tm (pre ++ post) Q E B F X (fun q hq => ?_) (fun q hq b hb' => ?_) hne hI hl h1 h2 h3 h4 T hk hd hu
    fun h' tk' ra vsR nsR nr i' r' ti' tr' z1 z2 z3 z4 z5 a3 a4 a5 a6 F' N' => ?_
  · refine N q ?_
    rcases List.mem_cons.mp hq with rfl | hq
    · exact List.mem_append_right _ (.head _)
    · rcases List.mem_cons.mp hq with rfl | hq
      · exact hsc
      · exact (List.mem_append.mp hq).elim (fun h => List.mem_append_left _ h) fun h => List.mem_append_right _ (.tail _ h)
  · rw [List.mem_singleton.mp hb']
    exact (List.mem_append.mp hq).elim (ha q) (hb q)
  · have key : ∀ q ∈ g (stO sc i' r' ti' tr' n), q ∈ (st, stO sc i' r' ti' tr' n) :: (sc, listOf vs.toArray n') :: (pre ++ post) := by
      intro q hq
      rw [hg] at hq
      rcases List.mem_append.mp hq with hq | hq
      · exact .tail _ (.tail _ (List.mem_append_left _ hq))
      · rcases List.mem_cons.mp hq with rfl | hq
        · exact .head _
        · exact .tail _ (.tail _ (List.mem_append_right _ hq))
    refine hret h' tk' ra vsR nsR nr i' r' ti' tr' z1 z2 z3 z4 (fun q hq => z5 q (key q hq)) a3 a4 a5 a6 F' fun q hq => N' q ?_
    rcases List.mem_cons.mp hq with rfl | hq
    · exact .head _
    · exact .tail _ (key q hq)

theorem merge_U {prog : Program} {w : World} {K : Frag} {p : Program} {loose : List Str} {mean : ExcName → Option Value} {mg mb : Str → Option Value} {f : Addr} (C : MergeTells prog w K p loose mean mg mb f)
    {dp un : Nat} {gd : Option (List Code)} {cn : Str} {cs : Scope} {a : Addr} {ccd : Value} {cl : List (Str × Addr)} {outer : List Env} {A₀ : Around} {base h₀ : Heap} {L : Addr} {m : Str → Option Value} {s : Shared}
    {la lb : Addr} {va vb : List Value} {xa xb : List Int} {na nb : Nat} {news : List (Addr × Obj)} {Q E : Value → Shared → Prop}
    (B : Below A₀ base outer h₀) (F : Fr h₀ L s.heap m) (X : K.In h₀) (N : News h₀ L s.heap news) (T : Top p loose mean mg mb h₀) (hla : (la, listOf va.toArray na) ∈ news) (hlb : (lb, listOf vb.toArray nb) ∈ news)
    (hia : IntsAre va xa) (hib : IntsAre vb xb) (hna : xa.Nodup) (hnb : xb.Nodup) (ha9 : xa.length ≤ 9) (hb9 : xb.length ≤ 9)
    (hk : cs.kind = .function) (hd : dp + 2 < recursionLimit) (hu : un + 16 < cLine)
    (hret : ∀ h' tk' ra vr nr acc, IntsAre vr (mergeGo xa xb acc []) → acc.Nodup → (∀ k, k ∈ acc ↔ k ∈ xa ∧ k ∈ xb) → (∀ p ∈ news, p.1 < ra) → Fr h₀ L h' m →
      News h₀ L h' ((ra, listOf vr.toArray nr) :: news) → Q (.ref ra) { s with heap := h', toks := tk' }) :
    wpAny (model prog w) (ktrTop dp un gd cn cs L a ccd cl outer) (call (.ref f) [.ref la, .ref lb]) Q E s := by
  refine C dp un gd cn cs a ccd cl outer A₀ base h₀ L m s la lb va vb xa xb na nb news Q E B F X (fun q hq => N q ?_) hia hib hna hnb ha9 hb9 T hk hd hu
    fun h' tk' ra vr nr acc z1 z2 z3 z4 F' N' => hret h' tk' ra vr nr acc z1 z2 z3 (fun q hq => z4 q (.tail _ (.tail _ hq))) F' fun q hq => N' q ?_
  · rcases List.mem_cons.mp hq with rfl | hq
    · exact hla
    · rcases List.mem_cons.mp hq with rfl | hq
      · exact hlb
      · exact hq
  · rcases List.mem_cons.mp hq with rfl | hq
    · exact .head _
    · exact .tail _ (.tail _ (.tail _ hq))
end Mine
end

section
set_option maxRecDepth 100000
namespace Mine
open PySem PySem.W PySem.Spec PySem.Calls PyProof.Rows

section
variable {prog : Program} {w : World} {A : Around} {E : Value → Shared → Prop} {s : Shared} {h₀ : Heap} {L : Addr} {m : Str → Option Value} {news : List (Addr × Obj)} {env : Env}

/-- `k in xs` (or not in) as the program's op says -/
def inOp (op : CmpOp) (xs : List Int) (k : Int) : Bool := if op = .NotIn then !decide (k ∈ xs) else decide (k ∈ xs)

theorem cmp_inOp {op : CmpOp} {l : Addr} {vs : List Value} {ns : List Int} {k : Int} {t : Tok} {Q : Value → Shared → Prop} (hop : op = .In ∨ op = .NotIn) (hl : s.heap.IsList l vs.toArray) (hi : IntsAre vs ns) (h : Q (.bool (inOp op ns k)) s) :
    wpAny (model prog w) A (compareOp op (.int k t) (.ref l)) Q E s := by
  rcases hop with rfl | rfl
  · refine in_list_ints hl hi ?_
    rw [any_decide]
    exact h
  · refine notin_list_ints hl hi ?_
    rw [any_decide]
    exact h

theorem filter_take_succ {p : Int → Bool} {xs : List Int} {i : Nat} (h : i < xs.length) : (xs.take (i + 1)).filter p = (xs.take i).filter p ++ if p xs[i] then [xs[i]] else [] := by
  have : xs.take (i + 1) = xs.take i ++ [xs[i]] := by rw [List.take_add_one]; simp [h]
  rw [this, List.filter_append]
  congr 1
  cases hp : p xs[i] <;> simp [hp]

theorem comp_in {op : CmpOp} {iter : PySem.Expr} {x y : Str} {px p1 p2 p3 p4 pos : Pos} {scope : Scope} {cl : List (Str × Addr)} {c la lb : Addr} {o : Obj} {va vb : List Value} {na nb : Nat} {xa xb : List Int} {Q : Value → Shared → Prop}
    (hop : op = .In ∨ op = .NotIn) (F : Fr h₀ L s.heap m) (N : News h₀ L s.heap news) (hh : A.handled = none)
    (hclos : closureFor scope env = pure cl) (hcell : ∀ y ∈ scope.names, y.2 ≠ .cell) (hkind : scope.kind = .function)
    (hnames : ∀ y ∈ scope.names, y.2 = .local → scope.names.lookup y.1 = some .local) (hx : scope.names.lookup x = some .local)
    (hy : cl.lookup y = some c) (hyk : ∀ C, (compEnvC scope cl C env).kindOf y = some .cell) (hxk : ∀ C, (compEnvC scope cl C env).kindOf x = some .local) (hxd : (x == ("__debug__" : Str)) = false) (hyd : (y == ("__debug__" : Str)) = false)
    (hc : (c, o) ∈ news) (hd : o.data = .cell (some (.ref lb))) (hlb : (lb, listOf vb.toArray nb) ∈ news) (hla : (la, listOf va.toArray na) ∈ news) (hia : IntsAre va xa) (hib : IntsAre vb xb) (hsz : xa.length ≤ 1000)
    (hiter : ∀ Q' : Value → Shared → Prop, Q' (.ref la) s → wpAny (model prog w) A (eval iter env) Q' E s)
    (h : ∀ D ys h' tk, Fr h₀ L h' m → News h₀ L h' ((D, listOf ys.toArray ys.length) :: news) → LCg.Off1 D news → IntsAre ys (xa.filter (inOp op xb)) → Q (.ref D) { s with heap := h', toks := tk })
    (hm : behindInMarks op (PySem.Expr.Name y p3) = false) (hs : ∀ x, foldedSetIterable iter env x = pure x) :
    wpAny (model prog w) A (eval (.ListComp (.Name x p1) [⟨.Name x px, iter, [.Compare (.Name x p2) [op] [.Name y p3] p4], 0⟩] scope pos) env) Q E s := by
  have hval : va.length = xa.length := IntsAre.length hia
  have hkk : ∀ C, (compEnvC scope cl C env).scope.kind = .function := fun C => hkind
  refine LCt.ListComp_T F hclos hcell hkind hnames hx (hiter _ (LCt.CompSrcT.ledger hh F N hla (by rw [List.size_toArray, hval, sizeLine_eq]; omega) fun g => ?_)) hs
  have key : ∀ (k i : Nat) (ys : List Value), va.length - i = k → i ≤ va.length → IntsAre ys ((xa.take i).filter (inOp op xb)) →
      LCt.CompRestT prog w A h₀ L m env (.Compare (.Name x p2) [op] [.Name y p3] p4) (.Name x p1) x scope cl { s with heap := g } (LCg.SrcAt h₀ la va.toArray) (fun i v => va.toArray[i]? = some v) (LCg.FinE h₀ L m { s with heap := g } Q) k i ys news := by
    intro k
    induction k with
    | zero =>
      intro i ys hk hle hys
      have hi : i = xa.length := by omega
      subst hi
      rw [List.take_length] at hys
      refine LCt.CompRestT.zero fun D hp tk F' N' off => h D ys hp tk F' N' off hys
    | succ k ih =>
      intro i ys hk hle hys
      have hlt : i < xa.length := by omega
      obtain ⟨t, hxv⟩ := hia.get i xa[i] (by simp [hlt])
      refine LCt.CompRestT.succ fun v I oI C oC D m₂ hp tk E' hv hoC hm2 F' N' off ne => ?_
      have hv' : v = .int xa[i] t := by
        have : va[i]? = some v := by simpa using hv
        rw [hxv] at this
        exact (Option.some.inj this).symm
      subst hv'
      have mem3 : ∀ q ∈ news, q ∈ (I, oI) :: (C, oC) :: (D, LCg.lst ys) :: news := fun q hq => .tail _ (.tail _ (.tail _ hq))
      refine wpAny_isTrue_Compare1 ?_ hm
      refine LCgL.ld_own N' (.tail _ (.head _)) hoC hm2 ?_ (hkk C) (hxk C) hxd
      refine lcf_cell N' hy (mem3 _ hc) hd ?_ (hkk C) (hyk C) hyd
      refine cmp_inOp hop (PySem.IsL.isList (n := nb) (N' _ (mem3 _ hlb)).1) hib ?_
      refine wpAny_truthy_bool ?_
      have hstep := filter_take_succ (p := inOp op xb) hlt
      have hS : LCg.SrcAt h₀ la va.toArray news := .inr ⟨_, hla, rfl, na, rfl⟩
      cases hb : inOp op xb xa[i] with
      | true =>
        simp only [if_true]
        refine LCgL.ld_own N' (.tail _ (.head _)) hoC hm2 ?_ (hkk C) (hxk C) hxd
        refine LCg.CompEnd.intro F' N' news (fun q hq => hq) off hS (ih (i + 1) _ (by omega) (by omega) ?_)
        rw [hstep, hb, if_pos rfl]
        exact IntsAre.append hys (.cons _ _ .nil)
      | false =>
        simp only [Bool.false_eq_true, if_false]
        refine LCg.CompEnd.intro F' N' news (fun q hq => hq) off hS (ih (i + 1) _ (by omega) (by omega) ?_)
        rw [hstep, hb, if_neg Bool.false_ne_true, List.append_nil]
        exact hys
  have := key va.length 0 [] rfl (Nat.zero_le _) (by simpa using IntsAre.nil)
  rw [show va.toArray.size = va.length from List.size_toArray]
  exact this

theorem compEnd_mono {I C D : Addr} {oI oC oD : Obj} {S : List (Addr × Obj) → Prop} {r r' : Value → List (Addr × Obj) → Prop} {y : Value} {s₁ s₂ : Shared} (h : LCg.CompEnd h₀ L m s₁ I oI C oC D oD S r y s₂) (k : ∀ nx, r y nx → r' y nx) : LCg.CompEnd h₀ L m s₁ I oI C oC D oD S r' y s₂ := by
  obtain ⟨h', tk, nx, e, F, N, off, hS, hr⟩ := h
  exact ⟨h', tk, nx, e, F, N, off, hS, k nx hr⟩

theorem compRest_ind {elt : PySem.Expr} {x : Str} {scope : Scope} {cl : List (Str × Addr)} {S : List (Addr × Obj) → Prop} {P : Nat → Value → Prop} {Fin : List Value → List (Addr × Obj) → Prop} {n : Nat} (Inv : Nat → List Value → List (Addr × Obj) → Prop) (h0 : Inv 0 [] news)
    (step : ∀ i ys nx v I oI C oC D m₂ h tk (E' : Value → Shared → Prop), i < n → Inv i ys nx → P i v → LCg.NsObj oC m₂ → m₂ x = some v → Fr h₀ L h m → News h₀ L h ((I, oI) :: (C, oC) :: (D, LCg.lst ys) :: nx) → LCg.Off3 I C D nx → ((@Ne Nat I C) ∧ (@Ne Nat I D) ∧ (@Ne Nat C D)) →
      wpAny (model prog w) A (eval elt (compEnvC scope cl C env)) (LCg.CompEnd h₀ L m { s with heap := h, toks := tk } I oI C oC D (LCg.lst ys) S (fun y nx' => Inv (i + 1) (ys ++ [y]) nx')) E' { s with heap := h, toks := tk })
    (fin : ∀ ys nx, Inv n ys nx → Fin ys nx) : LCg.CompRest prog w A h₀ L m env elt x scope cl s S P Fin n 0 [] news := by
  have key : ∀ (k i : Nat) (ys : List Value) (nx : List (Addr × Obj)), i + k = n → Inv i ys nx → LCg.CompRest prog w A h₀ L m env elt x scope cl s S P Fin k i ys nx := by
    intro k
    induction k with
    | zero =>
      intro i ys nx e hI
      have hi : i = n := by omega
      subst hi
      exact LCg.CompRest.zero (fin ys nx hI)
    | succ k ih =>
      intro i ys nx e hI
      refine LCg.CompRest.succ fun v I oI C oC D m₂ hp tk E' hv hoC hm2 F' N' off ne => ?_
      exact wpAny_mono (step i ys nx v I oI C oC D m₂ hp tk E' (by omega) hI hv hoC hm2 F' N' off ne) (fun y s₂ q => compEnd_mono q fun nx' hI' => ih (i + 1) _ nx' (by omega) hI') fun _ _ e => e
  exact key n 0 [] news (by omega) h0

theorem pop0_K {D : Addr} {vr : List Value} {rs : List Int} {nr : Nat} {u : Tok} {g : Obj → List (Addr × Obj)} {Q : Value → Shared → Prop} (F : Fr h₀ L s.heap m) (N : News h₀ L s.heap news) (U : UpdF D (listOf vr.toArray nr) news g) (hi : IntsAre vr rs) (hne : rs ≠ []) (hz : rs.length ≤ 1000)
    (h : ∀ h' t, Fr h₀ L h' m → News h₀ L h' (g (listOf vr.tail.toArray (nr + 1))) → IntsAre vr.tail rs.tail → Q (.int (rs.headD 0) t) { s with heap := h' }) :
    wpAny (model prog w) A (call (.builtin "list.pop") [.ref D, .int 0 u]) Q E s := by
  obtain ⟨pre, post, hn, hg, a, b⟩ := U.split
  cases hi with
  | nil => exact absurd rfl hne
  | @cons k t vr' rs' hr =>
    have hlen := IntsAre.length hr
    have hup : Upd D (listOf (Value.int k t :: vr').toArray nr) (listOf vr'.toArray (nr + 1)) news (g (listOf vr'.toArray (nr + 1))) := by
      rw [hg, hn]
      clear hn hg N U
      induction pre with
      | nil => exact .head b
      | cons p r ih => exact .tail (a p (.head _)) (ih fun q hq => a q (.tail _ hq))
    refine kl_popAt (k := 0) (p := []) (q := vr') (y := .int k t) F N rfl ?_ rfl hup ?_ fun h' F' N' => h h' t F' N' hr
    · show seqIndex? 0 (Value.int k t :: vr').toArray.size = some 0
      rw [List.size_toArray]
      unfold seqIndex?
      simp
    · show (Value.int k t :: vr').length ≤ sizeLine
      simp only [List.length_cons] at hz ⊢
      rw [sizeLine_eq]
      omega

/-- the row b with its shared things put in the order of `rest` -/
def reB (sh : List Int) : List Int → List Int → List Int
  | _, [] => []
  | rs, x :: t => if inOp .In sh x then rs.headD 0 :: reB sh rs.tail t else x :: reB sh rs t
end
end Mine
end

section
set_option maxRecDepth 100000
namespace Mine
open PySem PySem.W PySem.Spec PySem.Calls PyProof.Rows

theorem inOp_iff {xs : List Int} {k : Int} : inOp .In xs k = true ↔ k ∈ xs := by
  unfold inOp
  rw [if_neg (by decide), decide_eq_true_iff]
theorem notIn_iff {xs : List Int} {k : Int} : inOp .NotIn xs k = true ↔ ¬ k ∈ xs := by
  unfold inOp
  rw [if_pos rfl, Bool.not_eq_true', decide_eq_false_iff_not]

theorem reB_length (sh : List Int) : ∀ (b rs : List Int), (reB sh rs b).length = b.length
  | [], rs => by cases rs <;> rfl
  | x :: t, rs => by
    rw [reB]
    split
    · rw [List.length_cons, List.length_cons, reB_length sh t]
    · rw [List.length_cons, List.length_cons, reB_length sh t]

/-- how many of b stand in sh -/
def cnt (sh b : List Int) : Nat := (b.filter (inOp .In sh)).length

theorem cnt_cons (sh t : List Int) (x : Int) : cnt sh (x :: t) = cnt sh t + (if inOp .In sh x = true then 1 else 0) := by
  unfold cnt
  rw [List.filter_cons]
  split <;> simp

/-- the members of the new row: the old ones out of sh, and those of rs -/
theorem reB_mem (sh : List Int) : ∀ (b rs : List Int), cnt sh b = rs.length → ∀ k, k ∈ reB sh rs b ↔ (k ∈ b ∧ ¬ k ∈ sh) ∨ k ∈ rs
  | [], rs, h, k => by
    have : rs = [] := List.eq_nil_of_length_eq_zero h.symm
    subst this
    simp [reB]
  | x :: t, rs, h, k => by
    rw [cnt_cons] at h
    rw [reB]
    by_cases hx : inOp .In sh x = true
    · rw [if_pos hx] at h ⊢
      have hx' := inOp_iff.mp hx
      cases rs with
      | nil => simp at h
      | cons r rs =>
        have ih := reB_mem sh t rs (by simpa using h) k
        rw [List.mem_cons, List.tail_cons, List.headD_cons, ih, List.mem_cons, List.mem_cons]
        constructor
        · rintro (rfl | ⟨a, b⟩ | a)
          · exact .inr (.inl rfl)
          · exact .inl ⟨.inr a, b⟩
          · exact .inr (.inr a)
        · rintro (⟨rfl | a, b⟩ | rfl | a)
          · exact absurd hx' b
          · exact .inr (.inl ⟨a, b⟩)
          · exact .inl rfl
          · exact .inr (.inr a)
    · rw [if_neg hx] at h ⊢
      have hx' : ¬ x ∈ sh := fun q => hx (inOp_iff.mpr q)
      have ih := reB_mem sh t rs (by simpa using h) k
      rw [List.mem_cons, ih, List.mem_cons]
      constructor
      · rintro (rfl | ⟨a, b⟩ | a)
        · exact .inl ⟨.inl rfl, hx'⟩
        · exact .inl ⟨.inr a, b⟩
        · exact .inr a
      · rintro (⟨rfl | a, b⟩ | a)
        · exact .inl rfl
        · exact .inr (.inl ⟨a, b⟩)
        · exact .inr (.inr a)

theorem reB_nodup (sh : List Int) : ∀ (b rs : List Int), cnt sh b = rs.length → b.Nodup → rs.Nodup → (∀ k ∈ rs, k ∈ sh) → (reB sh rs b).Nodup
  | [], rs, h, _, _, _ => by cases rs <;> exact List.nodup_nil
  | x :: t, rs, h, hb, hr, hs => by
    rw [cnt_cons] at h
    rw [reB]
    have hb' := List.nodup_cons.mp hb
    by_cases hx : inOp .In sh x = true
    · rw [if_pos hx] at h ⊢
      cases rs with
      | nil => simp at h
      | cons r rs =>
        have hr' := List.nodup_cons.mp hr
        have hc : cnt sh t = rs.length := by simpa using h
        rw [List.tail_cons, List.headD_cons]
        refine List.nodup_cons.mpr ⟨fun hm => ?_, reB_nodup sh t rs hc hb'.2 hr'.2 fun k hk => hs k (.tail _ hk)⟩
        rcases (reB_mem sh t rs hc r).mp hm with ⟨_, q⟩ | q
        · exact q (hs r (.head _))
        · exact hr'.1 q
    · rw [if_neg hx] at h ⊢
      have hx' : ¬ x ∈ sh := fun q => hx (inOp_iff.mpr q)
      have hc : cnt sh t = rs.length := by simpa using h
      refine List.nodup_cons.mpr ⟨fun hm => ?_, reB_nodup sh t rs hc hb'.2 hr hs⟩
      rcases (reB_mem sh t rs hc x).mp hm with ⟨q, _⟩ | q
      · exact hb'.1 q
      · exact hx' (hs x q)

theorem cnt_eq {a b : List Int} (ha : a.Nodup) (hb : b.Nodup) : cnt (a.filter (inOp .In b)) b = (a.filter (inOp .In b)).length := by
  unfold cnt
  have h1 : (b.filter (inOp .In (a.filter (inOp .In b)))) ⊆ a.filter (inOp .In b) := fun k hk => inOp_iff.mp (List.mem_filter.mp hk).2
  have h2 : a.filter (inOp .In b) ⊆ (b.filter (inOp .In (a.filter (inOp .In b)))) := fun k hk => List.mem_filter.mpr ⟨inOp_iff.mp (List.mem_filter.mp hk).2, inOp_iff.mpr hk⟩
  have l1 := List.Nodup.length_le_of_subset (hb.filter _) h1
  have l2 := List.Nodup.length_le_of_subset (ha.filter _) h2
  omega

theorem reB_same {a b : List Int} (ha : a.Nodup) (hb : b.Nodup) (k : Int) : k ∈ reB (a.filter (inOp .In b)) (a.filter (inOp .In b)) b ↔ k ∈ b := by
  rw [reB_mem _ _ _ (cnt_eq ha hb)]
  constructor
  · rintro (h | h)
    · exact h.1
    · exact inOp_iff.mp (List.mem_filter.mp h).2
  · intro h
    by_cases hk : k ∈ a.filter (inOp .In b)
    · exact .inr hk
    · exact .inl ⟨h, hk⟩

theorem filter_same {a b b' : List Int} (h : ∀ k, k ∈ b' ↔ k ∈ b) : a.filter (inOp .In b') = a.filter (inOp .In b) := by
  congr 1
  funext k
  rw [Bool.eq_iff_iff, inOp_iff, inOp_iff]
  exact h k
end Mine
end

section
set_option maxRecDepth 100000
namespace Mine
open PySem PySem.W PySem.Spec PySem.Calls PyProof.Rows

section
variable {prog : Program} {w : World} {A : Around} {E : Value → Shared → Prop} {s : Shared} {h₀ : Heap} {L : Addr} {m : Str → Option Value} {news : List (Addr × Obj)} {env : Env}

theorem call_pop0 {o : PySem.Expr} {apos pos p0 : Pos} {k0 : Nat} {lr : Addr} {vr : List Value} {nr : Nat} {Q : Value → Shared → Prop}
    (hbase : attributeBase o "pop" env (eval o env) = eval o env) (hline : (apos.endLine == pos.line) = true)
    (htrees : backTo pos (starEach [PySem.Expr.Constant (.int 0) k0 p0] env) = [(false, eval (PySem.Expr.Constant (.int 0) k0 p0) env)])
    (N : News h₀ L s.heap news) (hm : (lr, listOf vr.toArray nr) ∈ news)
    (ho : ∀ Q' : Value → Shared → Prop, Q' (.ref lr) s → wpAny (model prog w) A (eval o env) Q' E s)
    (h : wpAny (model prog w) A (call (.builtin "list.pop") [.ref lr, .int 0 s.toks]) Q E { s with toks := s.toks + 1 }) :
    wpAny (model prog w) A (eval (.Call (.Attribute o "pop" apos) [.Constant (.int 0) k0 p0] [] pos) env) Q E s := by
  refine wpAny_Call_method1_late hbase hline htrees (ho _ ?_)
  refine ⟨"list", "list.pop", PySem.F.plainAttrs_list, PySem.F.slot_list_pop, PySem.F.type_list_pop, ⟨_, (N _ hm).1, rfl⟩, (fun a e => by cases e; exact ⟨_, (N _ hm).1, rfl⟩), ?_⟩
  exact Calls.callWith_builtin rfl (Calls.evalArgs_plain (Calls.spliced_cons (wpAny_Constant_int (Calls.spliced_nil h))))

/-- a list of the ledger becomes another: the rest stands -/
theorem updF_mid (d : Addr) (o : Obj) : ∀ (pre post : List (Addr × Obj)) (_ : ∀ p ∈ pre, p.1 ≠ d) (_ : ∀ p ∈ post, p.1 ≠ d), UpdF d o (pre ++ (d, o) :: post) (fun o' => pre ++ (d, o') :: post)
  | [], _, _, hb => .head hb
  | p :: r, post, ha, hb => .tail (ha p (.head _)) (updF_mid d o r post (fun q hq => ha q (.tail _ hq)) hb)

theorem comp_reB {iter : PySem.Expr} {x y z : Str} {px p1 p2 p3 p4 p5 p6 apos cpos p0 pos : Pos} {k0 : Nat} {scope : Scope} {cl : List (Str × Addr)} {cy cz la ly lz : Addr} {oy oz : Obj} {va vy vz : List Value} {na ny nz : Nat} {xa sh : List Int} {Q : Value → Shared → Prop}
    (F : Fr h₀ L s.heap m) (N : News h₀ L s.heap ((lz, listOf vz.toArray nz) :: news)) (hh : A.handled = none)
    (hclos : closureFor scope env = pure cl) (hcell : ∀ y ∈ scope.names, y.2 ≠ .cell) (hkind : scope.kind = .function)
    (hnames : ∀ y ∈ scope.names, y.2 = .local → scope.names.lookup y.1 = some .local) (hx : scope.names.lookup x = some .local)
    (hy : cl.lookup y = some cy) (hz : cl.lookup z = some cz) (hyk : ∀ C, (compEnvC scope cl C env).kindOf y = some .cell) (hzk : ∀ C, (compEnvC scope cl C env).kindOf z = some .cell) (hxk : ∀ C, (compEnvC scope cl C env).kindOf x = some .local)
    (hxd : (x == ("__debug__" : Str)) = false) (hyd : (y == ("__debug__" : Str)) = false) (hzd : (z == ("__debug__" : Str)) = false)
    (hcy : (cy, oy) ∈ news) (hdy : oy.data = .cell (some (.ref ly))) (hcz : (cz, oz) ∈ news) (hdz : oz.data = .cell (some (.ref lz))) (hly : (ly, listOf vy.toArray ny) ∈ news) (hla : (la, listOf va.toArray na) ∈ news) (hne : ∀ p ∈ news, p.1 ≠ lz)
    (hia : IntsAre va xa) (hiy : IntsAre vy sh) (hiz : IntsAre vz sh) (hcn : cnt sh xa = sh.length) (hsz : xa.length ≤ 1000) (hsh : sh.length ≤ 1000)
    (hiter : ∀ Q' : Value → Shared → Prop, Q' (.ref la) s → wpAny (model prog w) A (eval iter env) Q' E s)
    (h : ∀ D ys h' tk vr nr, Fr h₀ L h' m → News h₀ L h' ((D, listOf ys.toArray ys.length) :: (lz, listOf vr nr) :: news) → (@Ne Nat lz D) → LCg.Off1 D news → IntsAre ys (reB sh sh xa) → Q (.ref D) { s with heap := h', toks := tk })
    (hm : behindInMarks .In (PySem.Expr.Name y p3) = false) (hs : ∀ x, foldedSetIterable iter env x = pure x)
    (hbase : ∀ C, attributeBase (.Name z p5) "pop" (compEnvC scope cl C env) (eval (.Name z p5) (compEnvC scope cl C env)) = eval (.Name z p5) (compEnvC scope cl C env)) (hline : (apos.endLine == cpos.line) = true)
    (htrees : ∀ C, backTo cpos (starEach [PySem.Expr.Constant (.int 0) k0 p0] (compEnvC scope cl C env)) = [(false, eval (PySem.Expr.Constant (.int 0) k0 p0) (compEnvC scope cl C env))]) :
    wpAny (model prog w) A (eval (.ListComp (.IfExp (.Compare (.Name x p2) [.In] [.Name y p3] p4) (.Call (.Attribute (.Name z p5) "pop" apos) [.Constant (.int 0) k0 p0] [] cpos) (.Name x p1) p6) [⟨.Name x px, iter, [], 0⟩] scope pos) env) Q E s := by
  have hval : va.length = xa.length := IntsAre.length hia
  have hkk : ∀ C, (compEnvC scope cl C env).scope.kind = .function := fun C => hkind
  refine LCg.ListComp_U F hclos hcell hkind hnames hx (hiter _ (LCg.CompSrc.ledger hh F N (.tail _ hla) (by rw [List.size_toArray, hval, sizeLine_eq]; omega) fun g => ?_)) hs
  refine compRest_ind (fun i ys nx => ∃ vr nr rs out, nx = (lz, listOf vr.toArray nr) :: news ∧ IntsAre vr rs ∧ IntsAre ys out ∧ out ++ reB sh rs (xa.drop i) = reB sh sh xa ∧ cnt sh (xa.drop i) = rs.length ∧ rs.length ≤ 1000) ?_ ?_ ?_
  · exact ⟨vz, nz, _, [], rfl, hiz, .nil, rfl, hcn, hsh⟩
  · intro i ys nx v I oI C oC D m₂ hp tk E' hlt hInv hv hoC hm2 F' N' off ne
    obtain ⟨vr, nr, rs, out, rfl, hvr, hys, hre, hcn, hr7⟩ := hInv
    have hlt' : i < xa.length := by rw [List.size_toArray] at hlt; omega
    obtain ⟨t, hxv⟩ := hia.get i xa[i] (by simp [hlt'])
    have hv' : v = .int xa[i] t := by
      have : va[i]? = some v := by simpa using hv
      rw [hxv] at this
      exact (Option.some.inj this).symm
    subst hv'
    rw [drop_cons (by simp [hlt'] : xa[i]? = some xa[i])] at hre hcn
    rw [cnt_cons] at hcn
    rw [reB] at hre
    have mem4 : ∀ q ∈ news, q ∈ (I, oI) :: (C, oC) :: (D, LCg.lst ys) :: (lz, listOf vr.toArray nr) :: news := fun q hq => .tail _ (.tail _ (.tail _ (.tail _ hq)))
    have offm := off.mem
    refine wpAny_IfExp (wpAny_isTrue_Compare1 ?_ hm)
    refine LCgL.ld_own N' (.tail _ (.head _)) hoC hm2 ?_ (hkk C) (hxk C) hxd
    refine lcf_cell N' hy (mem4 _ hcy) hdy ?_ (hkk C) (hyk C) hyd
    refine cmp_inOp (.inl rfl) (PySem.IsL.isList (n := ny) (N' _ (mem4 _ hly)).1) hiy ?_
    refine wpAny_truthy_bool ?_
    have hS : ∀ q, LCg.SrcAt h₀ la va.toArray (q :: news) := fun q => .inr ⟨_, .tail _ hla, rfl, na, rfl⟩
    cases hb : inOp .In sh xa[i] with
    | false =>
      rw [hb, if_neg Bool.false_ne_true] at hre hcn
      simp only [Bool.false_eq_true, if_false]
      refine LCgL.ld_own N' (.tail _ (.head _)) hoC hm2 ?_ (hkk C) (hxk C) hxd
      refine LCg.CompEnd.intro F' N' _ (fun q hq => hq) off (hS _) ⟨vr, nr, rs, out ++ [xa[i]], rfl, hvr, IntsAre.append hys (.cons _ _ .nil), ?_, hcn, hr7⟩
      rw [← hre, List.append_assoc]
      rfl
    | true =>
      rw [hb, if_pos rfl] at hre hcn
      simp only [if_true]
      have hne' : rs ≠ [] := by
        rintro rfl
        simp at hcn
      have hU := updF_mid lz (listOf vr.toArray nr) [(I, oI), (C, oC), (D, LCg.lst ys)] news (fun q hq => ?_) hne
      · refine call_pop0 (hbase C) hline (htrees C) N' (.tail _ (.tail _ (.tail _ (.head _)))) (fun Q' hQ' => lcf_cell N' hz (mem4 _ hcz) hdz hQ' (hkk C) (hzk C) hzd) ?_
        refine pop0_K (news := (I, oI) :: (C, oC) :: (D, LCg.lst ys) :: (lz, listOf vr.toArray nr) :: news) F' N' hU hvr hne' hr7 fun h' t F2 N2 hI2 => ?_
        refine LCg.CompEnd.intro F2 N2 ((lz, listOf vr.tail.toArray (nr + 1)) :: news) (fun q hq => hq) ⟨off.1, off.2⟩ (hS _) ⟨vr.tail, nr + 1, rs.tail, out ++ [rs.headD 0], rfl, hI2, IntsAre.append hys (.cons _ _ .nil), ?_, ?_, ?_⟩
        · rw [← hre, List.append_assoc]
          rfl
        · rw [List.length_tail]; omega
        · rw [List.length_tail]; omega
      · have z := offm (lz, listOf vr.toArray nr) (.head _)
        simp only [List.mem_cons, List.not_mem_nil, or_false] at hq
        rcases hq with rfl | rfl | rfl
        · exact Ne.symm z.1
        · exact Ne.symm z.2.1
        · exact Ne.symm z.2.2
  · intro ys nx hInv
    obtain ⟨vr, nr, rs, out, rfl, hvr, hys, hre, hcn, hr7⟩ := hInv
    have hout : out = reB sh sh xa := by
      rw [List.size_toArray, hval, List.drop_length] at hre
      rw [← hre]
      cases rs <;> simp [reB]
    subst hout
    intro D hE tkE F2 N2 off2
    exact h D ys hE tkE _ _ F2 N2 off2.1 off2.2 hys
end
end Mine
end

section
set_option maxRecDepth 100000
namespace Mine
open PySem PySem.W PySem.Spec PySem.Calls PyProof.Rows

theorem mergeGo_len : ∀ (cur oth ov out : List Int), (mergeGo cur oth ov out).length ≤ cur.length + oth.length + out.length := by
  intro cur oth ov out
  induction cur, oth, ov, out using mergeGo.induct with
  | case1 oth ov out => rw [mergeGo, List.length_append]; simp only [List.length_nil]; omega
  | case2 oth ov out x r h ih => rw [mergeGo, if_pos h]; simp only [List.length_cons]; omega
  | case3 oth ov out x r h ih => rw [mergeGo, if_neg h]; simp only [List.length_cons, List.length_append, List.length_nil] at ih ⊢; omega
theorem mergeGo_lt {xa xb acc : List Int} (ha : xa.length ≤ 7) (hb : xb.length ≤ 7) : (mergeGo xa xb acc []).length < 64 := by
  have := mergeGo_len xa xb acc []
  simp only [List.length_nil] at this
  omega
theorem mergeGo_le {xa xb acc : List Int} (ha : xa.length ≤ 7) (hb : xb.length ≤ 7) : (mergeGo xa xb acc []).length ≤ 1000 := Nat.le_of_lt (Nat.lt_of_lt_of_le (mergeGo_lt ha hb) (by decide))

theorem mergeGo_set : ∀ (cur oth ov out : List Int), cur.Nodup → oth.Nodup → out.Nodup → (∀ k, k ∈ ov → k ∈ cur ∧ k ∈ oth) → (∀ k, k ∈ cur → k ∈ oth → k ∈ ov) → ov.Nodup → (∀ k, k ∈ out → ¬ k ∈ cur ∧ ¬ k ∈ oth) →
    (mergeGo cur oth ov out).Nodup ∧ ∀ k, k ∈ mergeGo cur oth ov out ↔ k ∈ out ∨ k ∈ cur ∨ k ∈ oth := by
  intro cur oth ov out
  induction cur, oth, ov, out using mergeGo.induct with
  | case1 oth ov out =>
    intro _ h2 h3 _ _ _ h7
    rw [mergeGo]
    refine ⟨List.nodup_append.mpr ⟨h3, h2, fun a ha b hb e => (h7 a ha).2 (e ▸ hb)⟩, fun k => ?_⟩
    simp [List.mem_append]
  | case2 oth ov out x r h ih =>
    intro h1 h2 h3 h4 h5 h6 h7
    rw [mergeGo, if_pos h]
    have hx := List.nodup_cons.mp h1
    have hxo := (h4 x h).2
    obtain ⟨a, b⟩ := ih h2 hx.2 h3 (fun k hk => by
        rw [h6.mem_erase_iff] at hk
        obtain ⟨p, q⟩ := h4 k hk.2
        exact ⟨q, (List.mem_cons.mp p).resolve_left hk.1⟩)
      (fun k hk hr => by
        rw [h6.mem_erase_iff]
        refine ⟨fun e => hx.1 (e ▸ hr), h5 k (.tail _ hr) hk⟩)
      (h6.erase x) (fun k hk => ⟨(h7 k hk).2, fun q => (h7 k hk).1 (.tail _ q)⟩)
    refine ⟨a, fun k => ?_⟩
    rw [b, List.mem_cons]
    constructor
    · rintro (q | q | q)
      · exact .inl q
      · exact .inr (.inr q)
      · exact .inr (.inl (.inr q))
    · rintro (q | (rfl | q) | q)
      · exact .inl q
      · exact .inr (.inl hxo)
      · exact .inr (.inr q)
      · exact .inr (.inl q)
  | case3 oth ov out x r h ih =>
    intro h1 h2 h3 h4 h5 h6 h7
    rw [mergeGo, if_neg h]
    have hx := List.nodup_cons.mp h1
    have hxo : ¬ x ∈ oth := fun q => h (h5 x (.head _) q)
    have hxout : ¬ x ∈ out := fun q => (h7 x q).1 (.head _)
    obtain ⟨a, b⟩ := ih hx.2 h2 (List.nodup_append.mpr ⟨h3, by simp, fun a ha b hb e => hxout (by rw [List.mem_singleton] at hb; rw [← hb, ← e]; exact ha)⟩)
      (fun k hk => by
        obtain ⟨p, q⟩ := h4 k hk
        exact ⟨(List.mem_cons.mp p).resolve_left fun e => h (e ▸ hk), q⟩)
      (fun k hk ho => h5 k (.tail _ hk) ho) h6
      (fun k hk => by
        rcases List.mem_append.mp hk with q | q
        · exact ⟨fun z => (h7 k q).1 (.tail _ z), (h7 k q).2⟩
        · rw [List.mem_singleton] at q
          subst q
          exact ⟨hx.1, hxo⟩)
    refine ⟨a, fun k => ?_⟩
    rw [b, List.mem_append, List.mem_singleton, List.mem_cons]
    constructor
    · rintro ((q | q) | q | q)
      · exact .inl q
      · exact .inr (.inl (.inl q))
      · exact .inr (.inl (.inr q))
      · exact .inr (.inr q)
    · rintro (q | (q | q) | q)
      · exact .inl (.inl q)
      · exact .inl (.inr q)
      · exact .inr (.inl q)
      · exact .inr (.inr q)

theorem mergeGo_perm {xa xb acc : List Int} (hna : xa.Nodup) (hnb : xb.Nodup) (hn : acc.Nodup) (hm : ∀ k, k ∈ acc ↔ k ∈ xa ∧ k ∈ xb) : (mergeGo xa xb acc []).Perm (xa ++ xb.filter (inOp .NotIn xa)) := by
  obtain ⟨a, b⟩ := mergeGo_set xa xb acc [] hna hnb .nil (fun k hk => (hm k).mp hk) (fun k h1 h2 => (hm k).mpr ⟨h1, h2⟩) hn (fun k hk => (nomatch hk))
  refine (List.perm_ext_iff_of_nodup a (List.nodup_append.mpr ⟨hna, hnb.filter _, fun x hx y hy e => ?_⟩)).mpr fun k => ?_
  · exact notIn_iff.mp (List.mem_filter.mp hy).2 (e ▸ hx)
  · rw [b, List.mem_append, List.mem_filter, notIn_iff]
    constructor
    · rintro (q | q | q)
      · exact nomatch q
      · exact .inl q
      · by_cases hk : k ∈ xa
        · exact .inl hk
        · exact .inr ⟨q, hk⟩
    · rintro (q | q)
      · exact .inr (.inl q)
      · exact .inr (.inr q.1)

theorem mergeGo_filter {p : Int → Bool} : ∀ (cur oth ov out : List Int), (∀ k, k ∈ ov → p k = false) → (cur.filter p = [] ∨ oth.filter p = []) →
    (mergeGo cur oth ov out).filter p = out.filter p ++ (cur.filter p ++ oth.filter p) := by
  intro cur oth ov out
  induction cur, oth, ov, out using mergeGo.induct with
  | case1 oth ov out =>
    intro _ _
    rw [mergeGo, List.filter_append]
    rfl
  | case2 oth ov out x r h ih =>
    intro h1 h2
    rw [mergeGo, if_pos h]
    have e : (x :: r).filter p = r.filter p := by rw [List.filter_cons, h1 x h]; rfl
    rw [e] at h2
    rw [ih (fun k hk => h1 k (List.mem_of_mem_erase hk)) h2.symm, e]
    rcases h2 with q | q <;> simp [q]
  | case3 oth ov out x r h ih =>
    intro h1 h2
    rw [mergeGo, if_neg h]
    have e : (x :: r).filter p = [x].filter p ++ r.filter p := by rw [← List.filter_append]; rfl
    rw [e] at h2
    rw [ih h1 (h2.imp (fun q => (List.append_eq_nil_iff.mp q).2) id), List.filter_append, e]
    simp only [List.append_assoc]

theorem notIn_self (xs : List Int) : xs.filter (inOp .NotIn xs) = [] := by
  rw [List.filter_eq_nil_iff]
  intro k hk h
  exact notIn_iff.mp h hk
theorem notIn_false {xs : List Int} {k : Int} (h : k ∈ xs) : inOp .NotIn xs k = false := by
  rw [← Bool.not_eq_true, notIn_iff]
  exact fun q => q h
theorem mergeGo_a {xa xb acc : List Int} (hm : ∀ k, k ∈ acc ↔ k ∈ xa ∧ k ∈ xb) : (mergeGo xa xb acc []).filter (inOp .NotIn xb) = xa.filter (inOp .NotIn xb) := by
  rw [mergeGo_filter _ _ _ _ (fun k hk => notIn_false ((hm k).mp hk).2) (.inr (notIn_self xb)), notIn_self]
  simp
theorem mergeGo_b {xa xb acc : List Int} (hm : ∀ k, k ∈ acc ↔ k ∈ xa ∧ k ∈ xb) : (mergeGo xa xb acc []).filter (inOp .NotIn xa) = xb.filter (inOp .NotIn xa) := by
  rw [mergeGo_filter _ _ _ _ (fun k hk => notIn_false ((hm k).mp hk).1) (.inl (notIn_self xa)), notIn_self]
  simp

/-- the list that the law builds: round by round, the row at hand first -/
def dueGo : List Int → List Int → List Int → List Int → List Int
  | [], cur, oth, out => out ++ cur ++ oth
  | x :: t, cur, oth, out => dueGo t (oth.drop (oth.idxOf x + 1)) (cur.drop (cur.idxOf x + 1)) (out ++ cur.take (cur.idxOf x) ++ oth.take (oth.idxOf x) ++ [x])

theorem mergeGo_pre : ∀ (p l oth ov out : List Int), (∀ k, k ∈ p → ¬ k ∈ ov) → mergeGo (p ++ l) oth ov out = mergeGo l oth ov (out ++ p)
  | [], l, oth, ov, out, _ => by rw [List.append_nil]; rfl
  | x :: p, l, oth, ov, out, h => by
    rw [List.cons_append, mergeGo, if_neg (h x (.head _)), mergeGo_pre p l oth ov _ fun k hk => h k (.tail _ hk), List.append_assoc]
    rfl

theorem split_first {x : Int} {t : List Int} : ∀ {l : List Int}, l.Nodup → l.filter (inOp .In (x :: t)) = x :: t → l = l.take (l.idxOf x) ++ x :: l.drop (l.idxOf x + 1) ∧ (∀ k, k ∈ l.take (l.idxOf x) → ¬ k ∈ x :: t) ∧ (l.drop (l.idxOf x + 1)).filter (inOp .In t) = t ∧ l.idxOf x < l.length
  | [], _, h => by simp at h
  | y :: r, hn, h => by
    have hy := List.nodup_cons.mp hn
    by_cases e : y = x
    · subst e
      rw [List.filter_cons, if_pos (inOp_iff.mpr (.head _))] at h
      have h' := (List.cons.inj h).2
      rw [List.idxOf_cons_self]
      refine ⟨rfl, fun k hk => (nomatch hk), ?_, by simp⟩
      show r.filter _ = t
      conv => rhs; rw [← h']
      refine List.filter_congr fun k hk => ?_
      rw [Bool.eq_iff_iff, inOp_iff, inOp_iff, List.mem_cons]
      exact ⟨.inr, fun q => q.resolve_left fun e => hy.1 (e ▸ hk)⟩
    · have hyn : ¬ y ∈ x :: t := fun q => by
        rw [List.filter_cons, if_pos (inOp_iff.mpr q)] at h
        exact e (List.cons.inj h).1
      rw [List.filter_cons, if_neg (fun q => hyn (inOp_iff.mp q))] at h
      obtain ⟨a, b, c, d⟩ := split_first hy.2 h
      have hix : (y :: r).idxOf x = r.idxOf x + 1 := by
        rw [List.idxOf_cons, show (y == x) = false from beq_false_of_ne e]
        rfl
      rw [hix]
      refine ⟨?_, ?_, ?_, by simpa using d⟩
      · show y :: r = y :: (r.take (r.idxOf x) ++ x :: r.drop (r.idxOf x + 1))
        rw [← a]
      · intro k hk
        rcases List.mem_cons.mp hk with rfl | hk
        · exact hyn
        · exact b k hk
      · exact c

theorem mergeGo_due : ∀ (sh cur oth ov out : List Int), cur.Nodup → oth.Nodup → ov.Nodup → (∀ k, k ∈ ov ↔ k ∈ sh) → cur.filter (inOp .In sh) = sh → oth.filter (inOp .In sh) = sh → mergeGo cur oth ov out = dueGo sh cur oth out
  | [], cur, oth, ov, out, _, _, _, hm, _, _ => by
    have := mergeGo_pre cur [] oth ov out fun k _ h => (nomatch (hm k).mp h)
    rw [List.append_nil] at this
    rw [this, mergeGo]
    rfl
  | x :: t, cur, oth, ov, out, hc, ho, hv, hm, h1, h2 => by
    obtain ⟨a1, b1, c1, d1⟩ := split_first hc h1
    obtain ⟨a2, b2, c2, d2⟩ := split_first ho h2
    have hxov : x ∈ ov := (hm x).mpr (.head _)
    have hxt : ¬ x ∈ t := by
      have : (x :: t).Nodup := by rw [← h1]; exact hc.filter _
      exact (List.nodup_cons.mp this).1
    have hme : ∀ k, k ∈ ov.erase x ↔ k ∈ t := fun k => by
      rw [hv.mem_erase_iff, hm, List.mem_cons]
      constructor
      · rintro ⟨p, q⟩
        exact q.resolve_left p
      · intro q
        exact ⟨fun e => hxt (e ▸ q), .inr q⟩
    rw [dueGo, ← mergeGo_due t _ _ (ov.erase x) _ (ho.sublist (List.drop_sublist _ _)) (hc.sublist (List.drop_sublist _ _)) (hv.erase x) hme c2 c1]
    conv => lhs; rw [a1]
    rw [mergeGo_pre _ _ _ _ _ fun k hk q => b1 k hk ((hm k).mp q), mergeGo, if_pos hxov]
    conv => lhs; rw [a2]
    rw [mergeGo_pre _ _ _ _ _ fun k hk q => b2 k hk (.tail _ ((hme k).mp q)), mergeGo, if_neg fun q => hxt ((hme x).mp q)]

theorem mergeGo_law {xa xb acc : List Int} (hna : xa.Nodup) (hnb : xb.Nodup) (hn : acc.Nodup) (hm : ∀ k, k ∈ acc ↔ k ∈ xa ∧ k ∈ xb) (he : xb.filter (inOp .In xa) = xa.filter (inOp .In xb)) : mergeGo xa xb acc [] = dueGo (xa.filter (inOp .In xb)) xa xb [] := by
  refine mergeGo_due _ _ _ _ _ hna hnb hn (fun k => ?_) ?_ ?_
  · rw [hm, List.mem_filter, inOp_iff]
  · refine List.filter_congr fun k hk => ?_
    rw [Bool.eq_iff_iff, inOp_iff, List.mem_filter]
    exact ⟨fun q => q.2, fun q => ⟨hk, q⟩⟩
  · conv => rhs; rw [← he]
    refine List.filter_congr fun k hk => ?_
    rw [Bool.eq_iff_iff, inOp_iff, inOp_iff, List.mem_filter, inOp_iff]
    exact ⟨fun q => q.1, fun q => ⟨q, hk⟩⟩
theorem cat_lt {xa xb : List Int} {p : Int → Bool} (ha : xa.length ≤ 7) (hb : xb.length ≤ 7) : (xa ++ xb.filter p).length < 64 := by
  have := List.length_filter_le p xb
  rw [List.length_append]
  omega
theorem cat_le {xa xb : List Int} {p : Int → Bool} (ha : xa.length ≤ 7) (hb : xb.length ≤ 7) : xa.length + (xb.filter p).length ≤ sizeLine := by
  have := List.length_filter_le p xb
  rw [sizeLine_eq]
  omega
theorem sorted_same {xa xb acc n1 n2 : List Int} (p1 : n1.Perm (mergeGo xa xb acc [])) (p2 : n2.Perm (xa ++ xb.filter (inOp .NotIn xa))) (o1 : n1.Pairwise (· ≤ ·)) (o2 : n2.Pairwise (· ≤ ·)) (hna : xa.Nodup) (hnb : xb.Nodup) (hn : acc.Nodup) (hm : ∀ k, k ∈ acc ↔ k ∈ xa ∧ k ∈ xb) : n1 = n2 :=
  ksm_same ((p1.trans (mergeGo_perm hna hnb hn hm)).trans p2.symm) o1 o2

section
variable {prog : Program} {w : World} {A : Around} {E : Value → Shared → Prop} {s : Shared} {a b : Addr} {xs ys : List Value} {ns ms : List Int} {Q : Value → Shared → Prop}
theorem ne_same_ints (ha : s.heap.IsList a xs.toArray) (hb : s.heap.IsList b ys.toArray) (hi : IntsAre xs ns) (hj : IntsAre ys ms) (e : ns = ms) (hu : A.units + 64 < cLine) (h : Q (.bool false) s) :
    wpAny (model prog w) A (compareOp .NotEq (.ref a) (.ref b)) Q E s := ke_ne_ints ha hb hi hj hu (by subst e; simpa using h)
theorem eq_same_ints (ha : s.heap.IsList a xs.toArray) (hb : s.heap.IsList b ys.toArray) (hi : IntsAre xs ns) (hj : IntsAre ys ms) (e : ns = ms) (hu : A.units + 64 < cLine) (h : Q (.bool true) s) :
    wpAny (model prog w) A (compareOp .Eq (.ref a) (.ref b)) Q E s := ke_eq_ints ha hb hi hj hu (by subst e; simpa using h)
end

end Mine
end

section
set_option maxRecDepth 100000
namespace Mine
open PySem PySem.W PySem.Spec PySem.Calls PyProof.Rows

/-- what stands at the head of turn i: rows a and b after the first i shared things, due so far -/
structure LoopOk (xsh D0 : List Int) (i : Nat) (xa xb xd : List Int) : Prop where
  na : xa.Nodup
  nb : xb.Nodup
  fa : xa.filter (inOp .In (xsh.drop i)) = xsh.drop i
  fb : xb.filter (inOp .In (xsh.drop i)) = xsh.drop i
  la : xa.length ≤ 7
  lb : xb.length ≤ 7
  lt : xd.length + xa.length + xb.length ≤ 14
  go : dueGo (xsh.drop i) (if i % 2 = 0 then xa else xb) (if i % 2 = 0 then xb else xa) xd = D0

theorem LoopOk.start {xa xb acc : List Int} (hna : xa.Nodup) (hnb : xb.Nodup) (hn : acc.Nodup) (hm : ∀ k, k ∈ acc ↔ k ∈ xa ∧ k ∈ xb) (he : xb.filter (inOp .In xa) = xa.filter (inOp .In xb)) (ha : xa.length ≤ 7) (hb : xb.length ≤ 7) :
    LoopOk (xa.filter (inOp .In xb)) (mergeGo xa xb acc []) 0 xa xb [] where
  na := hna
  nb := hnb
  fa := by
    rw [List.drop_zero]
    refine List.filter_congr fun k hk => ?_
    rw [Bool.eq_iff_iff, inOp_iff, List.mem_filter]
    exact ⟨fun q => q.2, fun q => ⟨hk, q⟩⟩
  fb := by
    rw [List.drop_zero]
    conv => rhs; rw [← he]
    refine List.filter_congr fun k hk => ?_
    rw [Bool.eq_iff_iff, inOp_iff, inOp_iff, List.mem_filter, inOp_iff]
    exact ⟨fun q => q.1, fun q => ⟨q, hk⟩⟩
  la := ha
  lb := hb
  lt := by simp; omega
  go := (mergeGo_law hna hnb hn hm he).symm

theorem LoopOk.mem {xsh D0 xa xb xd : List Int} {i : Nat} {x : Int} (h : LoopOk xsh D0 i xa xb xd) (hx : xsh[i]? = some x) : x ∈ xa ∧ x ∈ xb := by
  have e := drop_cons hx
  have m : x ∈ xsh.drop i := by rw [e]; exact .head _
  have m1 := h.fa ▸ m
  have m2 := h.fb ▸ m
  exact ⟨(List.mem_filter.mp m1).1, (List.mem_filter.mp m2).1⟩

theorem LoopOk.next {xsh D0 xa xb xd : List Int} {i : Nat} {x : Int} (h : LoopOk xsh D0 i xa xb xd) (hx : xsh[i]? = some x) :
    LoopOk xsh D0 (i + 1) (xa.drop (xa.idxOf x + 1)) (xb.drop (xb.idxOf x + 1)) (if i % 2 = 0 then xd ++ xa.take (xa.idxOf x) ++ xb.take (xb.idxOf x) ++ [x] else xd ++ xb.take (xb.idxOf x) ++ xa.take (xa.idxOf x) ++ [x]) := by
  have e := drop_cons hx
  have fa := h.fa
  have fb := h.fb
  have go := h.go
  rw [e] at fa fb go
  obtain ⟨a1, b1, c1, d1⟩ := split_first h.na fa
  obtain ⟨a2, b2, c2, d2⟩ := split_first h.nb fb
  have la := h.la
  have lb := h.lb
  have lt := h.lt
  refine ⟨h.na.sublist (List.drop_sublist _ _), h.nb.sublist (List.drop_sublist _ _), c1, c2, ?_, ?_, ?_, ?_⟩
  · rw [List.length_drop]; omega
  · rw [List.length_drop]; omega
  · split <;> (simp only [List.length_append, List.length_take, List.length_drop, List.length_cons, List.length_nil]; omega)
  · rw [dueGo] at go
    by_cases hp : i % 2 = 0
    · have hq : ¬ (i + 1) % 2 = 0 := by omega
      rw [if_pos hp, if_pos hp] at go
      rw [if_neg hq, if_neg hq, if_pos hp]
      exact go
    · have hq : (i + 1) % 2 = 0 := by omega
      rw [if_neg hp, if_neg hp] at go
      rw [if_pos hq, if_pos hq, if_neg hp]
      exact go

theorem LoopOk.done {xsh D0 xa xb xd : List Int} (h : LoopOk xsh D0 xsh.length xa xb xd) : D0 = xd ++ (if xsh.length % 2 = 0 then xa else xb) ++ (if xsh.length % 2 = 0 then xb else xa) := by
  have go := h.go
  rw [List.drop_length, dueGo] at go
  exact go.symm
theorem fmod0 {i : Nat} (h : i % 2 = 0) : Int.fmod (i : Int) 2 = 0 := by
  rw [Int.fmod_eq_emod_of_nonneg _ (by decide)]
  omega
theorem fmod1 {i : Nat} (h : ¬ i % 2 = 0) : Int.fmod (i : Int) 2 = 1 := by
  rw [Int.fmod_eq_emod_of_nonneg _ (by decide)]
  omega
end Mine
end

section
set_option maxRecDepth 100000
namespace Mine
open PySem PySem.W PySem.Spec PySem.Calls PyProof.Rows

def lawFn : List Stmt × Scope := match PySem.Challenge.pw_eu0026_01.main.body with
  | _ :: _ :: _ :: _ :: _ :: .FunctionDef _ _ b _ _ _ sc _ _ _ :: _ => (b, sc)
  | _ => ([], { kind := .function, names := [], isGenerator := false, isCoroutine := false, more := [] })
def lawTl (i : Nat) : List Stmt := lawFn.1.drop i
abbrev lawEnv (L fa : Addr) (cd : Value) : Env := envX (Str.ofString "law") lawFn.2 L fa cd (cellsFrom (L + 1) lawFn.2.names [])
abbrev lawA (L fa : Addr) (cd : Value) : Around := callerA.deeper (lawEnv L fa cd)


theorem fr_pick {h₀ h : Heap} {L : Addr} {m : Str → Option Value} {x : Str} {v : Value} (F : Fr h₀ L h m) (e : m x = some v) : Fr h₀ L h (fun y => if y = x then some v else m y) := by
  have : (fun y => if y = x then some v else m y) = m := by
    funext y
    by_cases hy : y = x
    · rw [if_pos hy, hy, e]
    · rw [if_neg hy]
  rw [this]
  exact F
def OffCells (L a : Addr) : Prop := (@Ne Nat (L+1+1+1+1+1+1+1) a) ∧ (@Ne Nat (L+1+1+1+1+1+1) a) ∧ (@Ne Nat (L+1+1+1+1+1) a) ∧ (@Ne Nat (L+1+1+1+1) a) ∧ (@Ne Nat (L+1+1+1) a) ∧ (@Ne Nat (L+1+1) a) ∧ (@Ne Nat (L+1) a)

theorem pick6 {h₀ h : Heap} {L : Addr} {d1 d2 d3 d4 d5 d6 r : Addr × Obj} {cs : List (Addr × Obj)} (N : News h₀ L h (d1 :: d2 :: d3 :: d4 :: r :: d5 :: d6 :: cs)) : News h₀ L h (r :: cs) := N.perm fun p hp => by
  simp only [List.mem_cons] at hp ⊢
  rcases hp with hp | hp <;> simp only [hp, true_or, or_true]
theorem pick8 {h₀ h : Heap} {L : Addr} {d1 d2 d3 d4 : Addr × Obj} {cs : List (Addr × Obj)} (N : News h₀ L h (d1 :: d2 :: d3 :: d4 :: cs)) : News h₀ L h cs := N.perm fun p hp => by
  simp only [List.mem_cons]
  simp only [hp, or_true]
theorem pick1 {h₀ h : Heap} {L : Addr} {d1 : Addr × Obj} {cs : List (Addr × Obj)} (N : News h₀ L h (d1 :: cs)) : News h₀ L h cs := N.perm fun p hp => .tail _ hp

end Mine
end

section
set_option maxRecDepth 100000
namespace Mine
open PySem PySem.W PySem.Spec PySem.Calls PyProof.Rows

section
variable {prog : Program} {w : World} {A : Around} {E : Value → Shared → Prop} {s : Shared} {h₀ : Heap} {L : Addr} {m : Str → Option Value} {news : List (Addr × Obj)}

def RngAt (h₀ : Heap) (L : Addr) (n : Nat) (J : Nat → (Str → Option Value) → List (Addr × Obj) → Prop) (s₀ : Shared) (v : Value) (s₁ : Shared) : Prop :=
  ∃ r t u t' h tk m' nx, v = .ref r ∧ s₁ = { s₀ with heap := h, toks := tk } ∧ IsRange h r 0 (n : Int) 1 t u t' ∧ Fr h₀ L h m' ∧ News h₀ L h nx ∧ J 0 m' nx

theorem rng_call {n : Nat} {J : Nat → (Str → Option Value) → List (Addr × Obj) → Prop} {s₀ : Shared} {t : Tok} (F : Fr h₀ L s.heap m) (N : News h₀ L s.heap news) (hj : J 0 m news) (hs : ∃ h tk, s = { s₀ with heap := h, toks := tk }) :
    wpAny (model prog w) A (call (.type "range") [.int (n : Int) t]) (RngAt h₀ L n J s₀) E s := by
  obtain ⟨h, tk, rfl⟩ := hs
  refine call_range_1 ⟨_, _, _, _, _, _, m, news, rfl, rfl, IsRange.new _ _ _ _ _ _ _, F.push _, fun p hp => ⟨Heap.get?_push_of_some _ (N p hp).1, (N p hp).2⟩, hj⟩

def RngNext (h₀ : Heap) (L I : Addr) (o : Obj) (Jn : (Str → Option Value) → List (Addr × Obj) → Prop) (s s₂ : Shared) : Prop :=
  ∃ h' tk' m' nx', s₂ = { s with heap := h', toks := tk' } ∧ Fr h₀ L h' m' ∧ News h₀ L h' ((I, o) :: nx') ∧ (∀ p ∈ nx', p.1 ≠ I) ∧ Jn m' nx'
theorem RngNext.intro {h₀ h' : Heap} {L I : Addr} {o : Obj} {Jn : (Str → Option Value) → List (Addr × Obj) → Prop} {s : Shared} {tk' : Nat} {m' : Str → Option Value} {nx' : List (Addr × Obj)}
    (F : Fr h₀ L h' m') (N : News h₀ L h' ((I, o) :: nx')) (e : ∀ p ∈ nx', p.1 ≠ I) (j : Jn m' nx') : RngNext h₀ L I o Jn s { s with heap := h', toks := tk' } := ⟨h', tk', m', nx', rfl, F, N, e, j⟩

/-- a for over a range, any target -/
theorem for_rng {env : Env} {tg iter : PySem.Expr} {pos : Pos} {body orelse : List Stmt} {Q : Flow → Shared → Prop} {n : Nat} (J : Nat → (Str → Option Value) → List (Addr × Obj) → Prop)
    (hh : A.handled = none) (hsm : Builtin.Range.small 0 (n : Int) 1 = true)
    (hit : wpAny (model prog w) A (eval iter env) (RngAt h₀ env.locals n J s) E s)
    (turn : ∀ i t m₁ nx I o h tk, i < n → J i m₁ nx → Fr h₀ env.locals h m₁ → News h₀ env.locals h ((I, o) :: nx) → (∀ p ∈ nx, p.1 ≠ I) →
      wpAny (model prog w) A (assign tg env (.int (i : Int) t)) (fun _ s₁ => wpAny (model prog w) A (execs body env) (fun f s₂ => match f with
        | .ret v => Q (.ret v) s₂
        | .brk => Q .next s₂
        | _ => RngNext h₀ env.locals I o (J (i + 1)) s s₂) E s₁) E { s with heap := h, toks := tk })
    (done : ∀ m₁ nx h tk, J n m₁ nx → Fr h₀ env.locals h m₁ → News h₀ env.locals h nx → wpAny (model prog w) A (execs orelse env) Q E { s with heap := h, toks := tk })
    (hE : PassesOwn (model prog w) A env E)
    (hgo : ∀ it v, letOwnedTupleGo tg it v = pure () := by intro _ _; rfl)
    (hs : ∀ x, foldedSetIterable iter env x = pure x := by intro _; rfl) :
    wpAny (model prog w) A (exec (.For tg iter body orelse pos) env) Q E s := by
  refine wpAny_For (wpAny_mono hit (fun v s₁ h₁ => ?_) fun _ _ e => e) hs
  obtain ⟨r, t, u, t', hp, tk0, m', nx0, rfl, rfl, hr, F0, N0, hj0⟩ := h₁
  refine wpAny_pyIter_range (s := { s with heap := hp, toks := tk0 }) hr hsm ?_
  have hrs : Builtin.Range.rangeSize 0 (n : Int) 1 = (n : Int) := by
    rw [rangeSize_one]
    split
    · omega
    · omega
  rw [hrs]
  generalize hIa : hp.objs.size = I
  have hIl : I ≠ env.locals := by rw [← hIa]; exact Ne.symm (Nat.ne_of_lt F0.ns.lt)
  have hI0 : h₀.get? I = none := by rw [← hIa]; exact next_is_new F0
  have F1 : Fr h₀ env.locals (hp.push { cls := .type "range_iterator", data := .fields #[rawInt 0, rawInt (n : Int), rawInt 1] }) m' := F0.push _
  have N1 : News h₀ env.locals (hp.push { cls := .type "range_iterator", data := .fields #[rawInt 0, rawInt (n : Int), rawInt 1] }) nx0 := fun p hp => ⟨Heap.get?_push_of_some _ (N0 p hp).1, (N0 p hp).2⟩
  have hoff : ∀ p ∈ nx0, p.1 ≠ I := fun p hp => by rw [← hIa]; exact Nat.ne_of_lt (Heap.lt_size (N0 p hp).1)
  have hst : IsRangeIter (hp.push { cls := .type "range_iterator", data := .fields #[rawInt 0, rawInt (n : Int), rawInt 1] }) I 0 (n : Int) 1 := by
    rw [← hIa]
    exact Heap.get?_push_size _ rfl
  generalize hp.push { cls := .type "range_iterator", data := .fields #[rawInt 0, rawInt (n : Int), rawInt 1] } = hq at F1 N1 hst
  refine codeAny_forLoop (R := fun r s' => match r with | .ok f => Q f s' | .error e => cameBackBy (model prog w) A env E e s')
    (fun k s' => ∃ h' tk m' nx, ∃ i : Nat, s' = { s with heap := h', toks := tk } ∧ Fr h₀ env.locals h' m' ∧ News h₀ env.locals h' nx ∧ (∀ p ∈ nx, p.1 ≠ I) ∧ IsRangeIter h' I (i : Int) ((n : Int) - (i : Nat)) 1 ∧ J i m' nx ∧ i ≤ n ∧ k = n + 1 - i) ?_ (n + 1)
    ⟨hq, tk0, m', nx0, 0, rfl, F1, N1, hoff, by simpa using hst, hj0, Nat.zero_le _, rfl⟩ (fun v => hgo _ v)
  rintro k s' ⟨h', tk, m', nx, i, rfl, F', N', hoff', hit', hJ, hi', rfl⟩
  by_cases hlt : i < n
  · refine wpAny_pyNext_range_item (s := { s with heap := h', toks := tk }) hit' (by omega) fun h1 hit1 hs1 => ?_
    have F2 : Fr h₀ env.locals h1 m' := F'.change hs1 hIl hI0
    obtain ⟨oI, hoI, hIe⟩ : ∃ o : Obj, h1.get? I = some o ∧ o = { cls := .type "range_iterator", data := .fields #[rawInt ((i : Int) + 1), rawInt ((n : Int) - (i : Nat) - 1), rawInt 1] } := ⟨_, hit1, rfl⟩
    have N2 : News h₀ env.locals h1 ((I, oI) :: nx) := fun p hp => by
      rcases List.mem_cons.mp hp with rfl | hp
      · exact ⟨hoI, hIl, hI0⟩
      · exact ⟨hs1.extBut _ _ (hoff' p hp) (N' p hp).1, (N' p hp).2⟩
    refine wpAny_mono (turn i _ m' nx I oI h1 _ hlt hJ F2 N2 hoff') (fun _ s₁ h₁ => wpAny_mono h₁ (fun f s₂ q => ?_) hE) hE
    have fin : RngNext h₀ env.locals I oI (J (i + 1)) s s₂ → ∃ m_1, m_1 < n + 1 - i ∧ ∃ h' tk m' nx, ∃ i : Nat, s₂ = { s with heap := h', toks := tk } ∧ Fr h₀ env.locals h' m' ∧ News h₀ env.locals h' nx ∧ (∀ p ∈ nx, p.1 ≠ I) ∧ IsRangeIter h' I (i : Int) ((n : Int) - (i : Nat)) 1 ∧ J i m' nx ∧ i ≤ n ∧ m_1 = n + 1 - i := by
      rintro ⟨h3, tk3, m3, nx3, rfl, F3, N3, ho3, hJ3⟩
      refine ⟨_, by omega, h3, tk3, m3, nx3, i + 1, rfl, F3, N3.perm fun p hp => .tail _ hp, ho3, ?_, hJ3, hlt, rfl⟩
      have := (N3 _ (.head _)).1
      have e1 : ((i + 1 : Nat) : Int) = (i : Int) + 1 := by push_cast; rfl
      have e2 : (n : Int) - ((i + 1 : Nat) : Int) = (n : Int) - (i : Int) - 1 := by push_cast; omega
      rw [e1, show (n : Int) - ((i : Int) + 1) = (n : Int) - (i : Int) - 1 by omega]
      rw [hIe] at this
      exact this
    cases f with
    | ret v => exact q
    | brk => exact q
    | next => exact fin q
    | cont => exact fin q
  · have hin : i = n := by omega
    subst hin
    refine wpAny_pyNext_range_end (s := { s with heap := h', toks := tk }) hh hit' (by omega) fun h1 he => ?_
    have F2 : Fr h₀ env.locals h1 m' := ⟨F'.ns.at' fun ob e => he _ ob (Ne.symm hIl) e, fun b ob e => he b ob (fun x => by rw [x, hI0] at e; cases e) (F'.keep b ob e), F'.above⟩
    have N2 : News h₀ env.locals h1 nx := fun p hp => ⟨he _ _ (hoff' p hp) (N' p hp).1, (N' p hp).2⟩
    exact wpAny_mono (done m' nx h1 tk hJ F2 N2) (fun _ _ q => q) hE
end
end Mine
end

section
set_option maxRecDepth 100000
namespace Mine
open PySem PySem.W PySem.Spec PySem.Calls PyProof.Rows

theorem off1_find {D a : Addr} {l : List (Addr × Obj)} (h : LCg.Off1 D l) (hm : a ∈ l.map (·.1)) : @Ne Nat a D := by
  induction l with
  | nil => exact nomatch hm
  | cons p r ih =>
    rcases List.mem_cons.mp hm with rfl | hm
    · exact h.1
    · exact ih h.2 hm

section
variable {prog : Program} {w : World} {A : Around} {E : Value → Shared → Prop} {s : Shared} {h₀ : Heap} {L : Addr} {m : Str → Option Value} {news : List (Addr × Obj)}

theorem item_x {value slice : PySem.Expr} {l : Addr} {vs : List Value} {ns : List Int} {i : Nat} {x : Int} {u : Tok} {Q : Value → Shared → Prop} (hl : s.heap.IsList l vs.toArray) (hi : IntsAre vs ns) (hx : ns[i]? = some x) (h7 : i ≤ 1000) (h : ∀ t, Q (.int x t) s)
    (hs : subscripted slice false (.ref l) (.int (i : Int) u) = operate [.ref l, .int (i : Int) u] (getItem (.ref l) (.int (i : Int) u))) :
    wpAny (model prog w) A (subscriptTail value slice (.ref l) (.int (i : Int) u)) Q E s := by
  obtain ⟨hlt, he⟩ := List.getElem?_eq_some_iff.mp hx
  refine item_list_intsR hl hi (by omega) (by omega) (by omega) (fun t => ?_) hs
  have : ns.getD (i : Int).toNat 0 = x := by simp [hx]
  rw [this]
  exact h t

theorem index_x {l : Addr} {vs : List Value} {ns : List Int} {n : Nat} {x : Int} {t : Tok} {Q : Value → Shared → Prop} (N : News h₀ L s.heap news) (hm : (l, listOf vs.toArray n) ∈ news) (hi : IntsAre vs ns) (hk : x ∈ ns) (h7 : ns.length ≤ 1000)
    (h : ∀ t', Q (.int (ns.idxOf x : Nat) t') { s with toks := s.toks + 1 }) : wpAny (model prog w) A (call (.builtin "list.index") [.ref l, .int x t]) Q E s := by
  have hg := (N _ hm).1
  have hlen := hi.length
  have hj : ns.idxOf x < ns.length := List.idxOf_lt_length_iff.mpr hk
  refine call_meets PySem.F.slot_list_index ⟨_, hg, rfl⟩ PySem.F.entry_list_index (PySem.F.args_list_index_2 _ _)
    (PySem.SeqAt.list_indexAt l vs.toArray n none #[] (.int x t) (isInt x) (ns.idxOf x) (by rw [List.size_toArray, hlen]; exact hj) (by omega) ?_ ?_) ⟨hg, fun y hy => (eq_isInt x t hi y (by simpa using hy)).at _ _, h _⟩
  · have := isInt_at x hi (ns.idxOf x) (by omega) hj
    simpa [this] using List.getElem_idxOf hj
  · intro j hj1 hj2
    have := isInt_at x hi j (by simpa using hj1) (by omega)
    simpa [this] using ne_of_lt_idxOf hj2 (by omega)

theorem mod_x {a b c : Int} {t u : Tok} {Q : Value → Shared → Prop} (hp : a.fmod b = c) (hb : b ≠ 0) (h : Q (.int c s.toks) { s with toks := s.toks + 1 }) : wpAny (model prog w) A (binaryOp .Mod (.int a t) (.int b u)) Q E s :=
  mod_int' hb (by rw [hp]; exact h)

theorem sub_x {a b c : Int} {t u : Tok} {Q : Value → Shared → Prop} (hp : a - b = c) (h : Q (.int c s.toks) { s with toks := s.toks + 1 }) : wpAny (model prog w) A (binaryOp .Sub (.int a t) (.int b u)) Q E s :=
  PyProof.Rows.sub_int (by rw [hp]; exact h)

theorem item_lit {value slice : PySem.Expr} {l : Addr} {vs : List Value} {ns : List Int} {k x : Int} {u : Tok} {Q : Value → Shared → Prop} (hl : s.heap.IsList l vs.toArray) (hi : IntsAre vs ns) (hk : 0 ≤ k ∧ k ≤ 1000) (hx : ns[k.toNat]? = some x) (h : ∀ t, Q (.int x t) s)
    (hs : subscripted slice false (.ref l) (.int k u) = operate [.ref l, .int k u] (getItem (.ref l) (.int k u))) :
    wpAny (model prog w) A (subscriptTail value slice (.ref l) (.int k u)) Q E s := by
  obtain ⟨hlt, he⟩ := List.getElem?_eq_some_iff.mp hx
  refine item_list_intsR hl hi hk.1 (by omega) (by omega) (fun t => ?_) hs
  have : ns.getD k.toNat 0 = x := by simp [hx]
  rw [this]
  exact h t

theorem ext_K {D b : Addr} {vd vb : List Value} {c nb : Nat} {g : Obj → List (Addr × Obj)} {Q : Value → Shared → Prop} (F : Fr h₀ L s.heap m) (N : News h₀ L s.heap news) (hb : (b, listOf vb.toArray nb) ∈ news) (U : UpdF D (listOf vd.toArray c) news g) (hz : vd.length + vb.length ≤ 1000)
    (h : ∀ h' c', Fr h₀ L h' m → News h₀ L h' (g (listOf (vd ++ vb).toArray c')) → Q .none { s with heap := h' }) :
    wpAny (model prog w) A (call (.builtin "list.extend") [.ref D, .ref b]) Q E s := by
  obtain ⟨pre, post, rfl, hg, ha, hp⟩ := U.split
  refine extend_in (its2 := vb.toArray) (n2 := nb) F N ha hp (N _ hb).1 (fun h' n' F' N' => h h' n' F' ?_) (by rw [List.size_toArray, sizeLine_eq]; omega)
  rw [hg]
  exact N'

theorem app_K {D : Addr} {vd : List Value} {c : Nat} {v : Value} {g : Obj → List (Addr × Obj)} {Q : Value → Shared → Prop} (F : Fr h₀ L s.heap m) (N : News h₀ L s.heap news) (U : UpdF D (listOf vd.toArray c) news g) (hz : vd.length ≤ 1000)
    (h : ∀ h', Fr h₀ L h' m → News h₀ L h' (g (listOf (vd ++ [v]).toArray (c + 1))) → Q .none { s with heap := h' }) :
    wpAny (model prog w) A (call (.builtin "list.append") [.ref D, v]) Q E s := by
  obtain ⟨pre, post, rfl, hg, ha, hp⟩ := U.split
  have e : vd.toArray.push v = (vd ++ [v]).toArray := by simp
  have U' : Upd D (listOf vd.toArray c) (listOf (vd.toArray.push v) (c + 1)) (pre ++ (D, listOf vd.toArray c) :: post) (pre ++ (D, listOf (vd.toArray.push v) (c + 1)) :: post) := by
    clear hg N U
    induction pre with
    | nil => exact .head hp
    | cons p r ih => exact .tail (ha p (.head _)) (ih fun q hq => ha q (.tail _ hq))
  refine append_K F N U' (fun h' F' N' => h h' F' ?_) (by rw [List.size_toArray, sizeLine_eq]; omega)
  rw [e] at N'
  rw [hg]
  exact N'

theorem ext_I {D b : Addr} {vd vb : List Value} {xd xb : List Int} {c nb : Nat} {g : Obj → List (Addr × Obj)} {Q : Value → Shared → Prop} (F : Fr h₀ L s.heap m) (N : News h₀ L s.heap news) (hb : (b, listOf vb.toArray nb) ∈ news) (U : UpdF D (listOf vd.toArray c) news g) (hid : IntsAre vd xd) (hib : IntsAre vb xb) (hz : xd.length + xb.length ≤ 1000)
    (h : ∀ h' vs' c', Fr h₀ L h' m → News h₀ L h' (g (listOf (List.toArray vs') c')) → IntsAre vs' (xd ++ xb) → Q .none { s with heap := h' }) :
    wpAny (model prog w) A (call (.builtin "list.extend") [.ref D, .ref b]) Q E s :=
  ext_K F N hb U (by rw [hid.length, hib.length]; exact hz) fun h' c' F' N' => h h' _ c' F' N' (hid.append hib)

theorem app_I {D : Addr} {vd : List Value} {xd : List Int} {c : Nat} {k : Int} {t : Tok} {g : Obj → List (Addr × Obj)} {Q : Value → Shared → Prop} (F : Fr h₀ L s.heap m) (N : News h₀ L s.heap news) (U : UpdF D (listOf vd.toArray c) news g) (hid : IntsAre vd xd) (hz : xd.length ≤ 1000)
    (h : ∀ h' vs' c', Fr h₀ L h' m → News h₀ L h' (g (listOf (List.toArray vs') c')) → IntsAre vs' (xd ++ [k]) → Q .none { s with heap := h' }) :
    wpAny (model prog w) A (call (.builtin "list.append") [.ref D, .int k t]) Q E s :=
  app_K F N U (by rw [hid.length]; exact hz) fun h' F' N' => h h' _ _ F' N' (hid.append (.cons k t .nil))
end
end Mine
end

section
set_option maxRecDepth 100000
namespace Mine
open PySem PySem.W PySem.Spec PySem.Calls PyProof.Rows

section
variable {prog : Program} {w : World} {A : Around} {E : Value → Shared → Prop} {s : Shared} {h₀ : Heap} {L : Addr} {m : Str → Option Value} {news : List (Addr × Obj)} {env : Env}

theorem slice_R {value slice : PySem.Expr} {l : Addr} {vs : List Value} {ns ms : List Int} {n : Nat} {vl vu : Value} {lo hi : Option Int} {Q : Value → Shared → Prop} (F : Fr h₀ L s.heap m) (N : News h₀ L s.heap news) (hm : (l, listOf vs.toArray n) ∈ news) (pl : IsPart vl lo) (pu : IsPart vu hi)
    (hi' : IntsAre vs ns) (hms : IntsAre (slicePick vs.toArray lo hi none).toList ms) (hz : ns.length ≤ 1000)
    (h : ∀ D ws h', Fr h₀ L h' m → News h₀ L h' ((D, listOf (List.toArray ws) 0) :: news) → (∀ p ∈ news, p.1 < D) → IntsAre ws ms → Q (.ref D) { s with heap := h' })
    (hs : subscripted slice false (.ref l) (.ref s.heap.objs.size) = operate [.ref s.heap.objs.size, .ref l] (getItem (.ref l) (.ref s.heap.objs.size))) :
    wpAny (model prog w) A (subscriptTail value slice (.ref l) (.ref s.heap.objs.size)) Q E { s with heap := s.heap.push { cls := .type "slice", data := .fields #[vl, vu, .none] } } := by
  have hl : s.heap.IsList l vs.toArray := PySem.IsL.isList (n := n) (N _ hm).1
  have hT := Heap.IsList.typeIs (s := { s with heap := s.heap.push { cls := .type "slice", data := .fields #[vl, vu, .none] } }) (hl.push _)
  have hvl := hi'.length
  unfold subscriptTail
  refine wpAny_bind ?_
  rw [getitemInPython_of_ne hT.not_modules]
  refine wpAny_bind (wpAny_specialOf hT list_getitem_lookup ?_)
  have fin : wpAny (model prog w) A (subscripted slice false (.ref l) (.ref s.heap.objs.size)) (fun r s₃ => wpAny (model prog w) A (letTemporaryGo value (.ref l) r >>= fun _ => pure r) Q E s₃) E { s with heap := s.heap.push { cls := .type "slice", data := .fields #[vl, vu, .none] } } := by
    rw [hs]
    refine wpAny_operating (wpAny_getItem_list_slice (hl.push _) (Heap.IsSliceOf.new ..) pl pu .none (by simp) ?_ (by rw [List.size_toArray, hvl, sizeLine_eq]; omega))
    refine wpAny_bind (wpAny_letTemporaryGo (wpAny_pure ?_))
    have N1 := News.push (F.push { cls := .type "slice", data := .fields #[vl, vu, .none] }) (N.grown fun _ _ e => Heap.get?_push_of_some _ e) { cls := .type "list", data := .seq (slicePick vs.toArray lo hi none) }
    refine h _ (slicePick vs.toArray lo hi none).toList _ ((F.push _).push _) ?_ (fun p hp => ?_) hms
    · rw [Array.toArray_toList]
      exact N1
    · exact Heap.lt_size (Heap.get?_push_of_some _ (N p hp).1)
  exact wpAny_pure (wpAny_bind fin)

theorem elt_cut {x y z : Str} {p3 p4 p5 p6 apos cpos : Pos} {scope : Scope} {cl : List (Str × Addr)} {C cy cz ly r : Addr} {oC oy oz : Obj} {m₂ : Str → Option Value} {vy vr : List Value} {xy xr : List Int} {ny nr i : Nat} {xv : Int} {t : Tok} {all : List (Addr × Obj)} {Q : Value → Shared → Prop}
    (N : News h₀ L s.heap all) (hC : (C, oC) ∈ all) (hoC : LCg.NsObj oC m₂) (hx : m₂ x = some (.ref r)) (hr : (r, listOf vr.toArray nr) ∈ all) (hir : IntsAre vr xr) (hxr : xv ∈ xr) (hr7 : xr.length ≤ 1000)
    (hy : cl.lookup y = some cy) (hcy : (cy, oy) ∈ all) (hdy : oy.data = .cell (some (.ref ly))) (hly : (ly, listOf vy.toArray ny) ∈ all) (hiy : IntsAre vy xy) (hxy : xy[i]? = some xv) (hi : i ≤ 1000)
    (hz : cl.lookup z = some cz) (hcz : (cz, oz) ∈ all) (hdz : oz.data = .cell (some (.int (i : Int) t)))
    (hkk : (compEnvC scope cl C env).scope.kind = .function) (hxk : (compEnvC scope cl C env).kindOf x = some .local) (hyk : (compEnvC scope cl C env).kindOf y = some .cell) (hzk : (compEnvC scope cl C env).kindOf z = some .cell)
    (hxd : (x == ("__debug__" : Str)) = false) (hyd : (y == ("__debug__" : Str)) = false) (hzd : (z == ("__debug__" : Str)) = false)
    (hbase : attributeBase (.Name x p5) "index" (compEnvC scope cl C env) (eval (.Name x p5) (compEnvC scope cl C env)) = eval (.Name x p5) (compEnvC scope cl C env)) (hline : (apos.endLine == cpos.line) = true)
    (htrees : backTo cpos (starEach [PySem.Expr.Subscript (.Name y p3) (.Name z p4) p6] (compEnvC scope cl C env)) = [(false, eval (PySem.Expr.Subscript (.Name y p3) (.Name z p4) p6) (compEnvC scope cl C env))])
    (h : ∀ t' tk, Q (.int (xr.idxOf xv : Nat) t') { s with toks := tk }) :
    wpAny (model prog w) A (eval (.Call (.Attribute (.Name x p5) "index" apos) [.Subscript (.Name y p3) (.Name z p4) p6] [] cpos) (compEnvC scope cl C env)) Q E s := by
  refine wpAny_Call_method1_late hbase hline htrees (LCgL.ld_own N hC hoC hx ?_ hkk hxk hxd)
  refine ⟨"list", "list.index", PySem.F.plainAttrs_list, PySem.F.slot_list_index, PySem.F.type_list_index, ⟨_, (N _ hr).1, rfl⟩, (fun a e => by cases e; exact ⟨_, (N _ hr).1, rfl⟩), ?_⟩
  refine Calls.callWith_builtin rfl (Calls.evalArgs_plain (Calls.spliced_cons (Subscript_ ?_)))
  refine lcf_cell N hy hcy hdy ?_ hkk hyk hyd
  refine lcf_cell N hz hcz hdz ?_ hkk hzk hzd
  refine item_x (PySem.IsL.isList (n := ny) (N _ hly).1) hiy hxy hi (fun t' => Calls.spliced_nil ?_) rfl
  exact index_x N hr hir hxr hr7 fun t' => h t' _

theorem comp_cuts {iter : PySem.Expr} {x y z : Str} {px p3 p4 p5 p6 apos cpos pos : Pos} {scope : Scope} {cl : List (Str × Addr)} {cy cz la ly ra rb : Addr} {oy oz : Obj} {vy va vb : List Value} {na ny nra nrb i : Nat} {xy xa xb : List Int} {xv : Int} {t : Tok} {Q : Value → Shared → Prop}
    (F : Fr h₀ L s.heap m) (N : News h₀ L s.heap news) (hh : A.handled = none)
    (hclos : closureFor scope env = pure cl) (hcell : ∀ y ∈ scope.names, y.2 ≠ .cell) (hkind : scope.kind = .function)
    (hnames : ∀ y ∈ scope.names, y.2 = .local → scope.names.lookup y.1 = some .local) (hx : scope.names.lookup x = some .local)
    (hy : cl.lookup y = some cy) (hz : cl.lookup z = some cz) (hyk : ∀ C, (compEnvC scope cl C env).kindOf y = some .cell) (hzk : ∀ C, (compEnvC scope cl C env).kindOf z = some .cell) (hxk : ∀ C, (compEnvC scope cl C env).kindOf x = some .local)
    (hxd : (x == ("__debug__" : Str)) = false) (hyd : (y == ("__debug__" : Str)) = false) (hzd : (z == ("__debug__" : Str)) = false)
    (hcy : (cy, oy) ∈ news) (hdy : oy.data = .cell (some (.ref ly))) (hly : (ly, listOf vy.toArray ny) ∈ news) (hiy : IntsAre vy xy) (hxy : xy[i]? = some xv) (hi : i ≤ 1000)
    (hcz : (cz, oz) ∈ news) (hdz : oz.data = .cell (some (.int (i : Int) t)))
    (hla : (la, listOf #[.ref ra, .ref rb] na) ∈ news) (hra : (ra, listOf va.toArray nra) ∈ news) (hrb : (rb, listOf vb.toArray nrb) ∈ news) (hia : IntsAre va xa) (hib : IntsAre vb xb) (hxa : xv ∈ xa) (hxb : xv ∈ xb) (ha7 : xa.length ≤ 1000) (hb7 : xb.length ≤ 1000)
    (hiter : ∀ Q' : Value → Shared → Prop, Q' (.ref la) s → wpAny (model prog w) A (eval iter env) Q' E s)
    (h : ∀ D ys h' tk, Fr h₀ L h' m → News h₀ L h' ((D, listOf (List.toArray ys) ys.length) :: news) → LCg.Off1 D news → IntsAre ys [((xa.idxOf xv : Nat) : Int), ((xb.idxOf xv : Nat) : Int)] → Q (.ref D) { s with heap := h', toks := tk })
    (hs : ∀ x, foldedSetIterable iter env x = pure x)
    (hbase : ∀ C, attributeBase (.Name x p5) "index" (compEnvC scope cl C env) (eval (.Name x p5) (compEnvC scope cl C env)) = eval (.Name x p5) (compEnvC scope cl C env)) (hline : (apos.endLine == cpos.line) = true)
    (htrees : ∀ C, backTo cpos (starEach [PySem.Expr.Subscript (.Name y p3) (.Name z p4) p6] (compEnvC scope cl C env)) = [(false, eval (PySem.Expr.Subscript (.Name y p3) (.Name z p4) p6) (compEnvC scope cl C env))]) :
    wpAny (model prog w) A (eval (.ListComp (.Call (.Attribute (.Name x p5) "index" apos) [.Subscript (.Name y p3) (.Name z p4) p6] [] cpos) [⟨.Name x px, iter, [], 0⟩] scope pos) env) Q E s := by
  have hkk : ∀ C, (compEnvC scope cl C env).scope.kind = .function := fun C => hkind
  refine LCg.ListComp_U F hclos hcell hkind hnames hx (hiter _ (LCg.CompSrc.ledger hh F N hla (by rw [sizeLine_eq]; exact Nat.le_of_ble_eq_true rfl) fun g => ?_)) hs
  have mem3 : ∀ {q p1 p2 p3 : Addr × Obj}, q ∈ news → q ∈ p1 :: p2 :: p3 :: news := fun hq => .tail _ (.tail _ (.tail _ hq))
  have hS : LCg.SrcAt h₀ la #[.ref ra, .ref rb] news := .inr ⟨_, hla, rfl, na, rfl⟩
  refine compRest_ind (fun j ys nx => nx = news ∧ IntsAre ys (([((xa.idxOf xv : Nat) : Int), ((xb.idxOf xv : Nat) : Int)] : List Int).take j)) ⟨rfl, .nil⟩ ?_ ?_
  · intro j ys nx v I oI C oC D m₂ hp tk E' hlt hInv hv hoC hm2 F' N' off ne
    obtain ⟨rfl, hys⟩ := hInv
    match j, hlt, hv, hys with
    | 0, _, hv, hys =>
      have hv' : v = .ref ra := (Option.some.inj hv).symm
      subst hv'
      refine elt_cut N' (.tail _ (.head _)) hoC hm2 (mem3 hra) hia hxa ha7 hy (mem3 hcy) hdy (mem3 hly) hiy hxy hi hz (mem3 hcz) hdz (hkk C) (hxk C) (hyk C) (hzk C) hxd hyd hzd (hbase C) hline (htrees C) fun t' tk' => ?_
      exact LCg.CompEnd.intro F' N' nx (fun q hq => hq) off hS ⟨rfl, hys.append (.cons _ _ .nil)⟩
    | 1, _, hv, hys =>
      have hv' : v = .ref rb := (Option.some.inj hv).symm
      subst hv'
      refine elt_cut N' (.tail _ (.head _)) hoC hm2 (mem3 hrb) hib hxb hb7 hy (mem3 hcy) hdy (mem3 hly) hiy hxy hi hz (mem3 hcz) hdz (hkk C) (hxk C) (hyk C) (hzk C) hxd hyd hzd (hbase C) hline (htrees C) fun t' tk' => ?_
      exact LCg.CompEnd.intro F' N' nx (fun q hq => hq) off hS ⟨rfl, hys.append (.cons _ _ .nil)⟩
    | j + 2, hlt, _, _ => exact absurd hlt (by show ¬ j + 2 < 2; omega)
  · intro ys nx hInv
    obtain ⟨rfl, hys⟩ := hInv
    exact fun D hE tkE F2 N2 off2 => h D ys hE tkE F2 N2 off2 hys

theorem elt_row {x y z : Str} {p1 p2 p3 p4 p5 p6 p7 p8 p9 p10 : Pos} {k0 : Nat} {scope : Scope} {cl : List (Str × Addr)} {C cy cz lr lc r ra rb : Addr} {oC oy oz : Obj} {m₂ : Str → Option Value} {vc vr : List Value} {xr : List Int} {nr nc nw j c : Nat} {j' : Int} {cs : List Int} {t : Tok} {all : List (Addr × Obj)} {Q : Value → Shared → Prop}
    (F : Fr h₀ L s.heap m) (N : News h₀ L s.heap all) (hC : (C, oC) ∈ all) (hoC : LCg.NsObj oC m₂) (hx : m₂ x = some (.int j' t)) (hj : j' = (j : Int)) (hj2 : j ≤ 2)
    (hy : cl.lookup y = some cy) (hcy : (cy, oy) ∈ all) (hdy : oy.data = .cell (some (.ref lr))) (hlr : (lr, listOf #[.ref ra, .ref rb] nw) ∈ all) (hrj : #[Value.ref ra, Value.ref rb][j]? = some (.ref r))
    (hz : cl.lookup z = some cz) (hcz : (cz, oz) ∈ all) (hdz : oz.data = .cell (some (.ref lc))) (hlc : (lc, listOf vc.toArray nc) ∈ all) (hic : IntsAre vc cs) (hcj : cs[j]? = some (c : Int))
    (hr : (r, listOf vr.toArray nr) ∈ all) (hir : IntsAre vr xr) (hr7 : xr.length ≤ 1000)
    (hkk : (compEnvC scope cl C env).scope.kind = .function) (hxk : (compEnvC scope cl C env).kindOf x = some .local) (hyk : (compEnvC scope cl C env).kindOf y = some .cell) (hzk : (compEnvC scope cl C env).kindOf z = some .cell)
    (hxd : (x == ("__debug__" : Str)) = false) (hyd : (y == ("__debug__" : Str)) = false) (hzd : (z == ("__debug__" : Str)) = false)
    (h : ∀ D ws h' tk, Fr h₀ L h' m → News h₀ L h' ((D, listOf (List.toArray ws) 0) :: all) → (∀ p ∈ all, p.1 < D) → IntsAre ws (xr.drop (c + 1)) → Q (.ref D) { s with heap := h', toks := tk }) :
    wpAny (model prog w) A (eval (.Subscript (.Subscript (.Name y p1) (.Name x p2) p3) (.Slice (some (.BinOp (.Subscript (.Name z p4) (.Name x p5) p6) .Add (.Constant (.int 1) k0 p7) p8)) none none p9) p10) (compEnvC scope cl C env)) Q E s := by
  subst hj
  refine Subscript_ (Subscript_ ?_)
  refine lcf_cell N hy hcy hdy ?_ hkk hyk hyd
  refine LCgL.ld_own N hC hoC hx ?_ hkk hxk hxd
  refine item_listR (PySem.IsL.isList (n := nw) (N _ hlr).1) (by omega) (by omega) (x := .ref r) (by simpa using hrj) ?_ rfl
  refine wpAny_Slice (wpAny_evalPart_some (wpAny_BinOp (Subscript_ ?_)))
  refine lcf_cell N hz hcz hdz ?_ hkk hzk hzd
  refine LCgL.ld_own N hC hoC hx ?_ hkk hxk hxd
  refine item_x (PySem.IsL.isList (n := nc) (N _ hlc).1) hic hcj (by omega) (fun t' => ?_) rfl
  refine wpAny_Constant_int (PyProof.Rows.add_int ?_)
  refine wpAny_evalPart_none (wpAny_evalPart_none ?_)
  have e : (((c : Int) + 1)).toNat = c + 1 := by omega
  exact slice_R (s := { s with toks := s.toks + 1 + 1 }) (vl := .int ((c : Int) + 1) _) F N hr (.int _ _) .none hir (e ▸ kmk_from hir (by omega)) hr7 (fun D ws h' F' N' l1 hI => h D ws h' _ F' N' l1 hI) rfl

theorem comp_rows {iter : PySem.Expr} {x y z : Str} {px p1 p2 p3 p4 p5 p6 p7 p8 p9 p10 pos : Pos} {k0 : Nat} {scope : Scope} {cl : List (Str × Addr)} {cy cz lr lc ra rb : Addr} {oy oz : Obj} {vc va vb : List Value} {nc nw nra nrb ca cb : Nat} {xa xb : List Int} {Q : Value → Shared → Prop}
    (F : Fr h₀ L s.heap m) (N : News h₀ L s.heap news) (hh : A.handled = none)
    (hclos : closureFor scope env = pure cl) (hcell : ∀ y ∈ scope.names, y.2 ≠ .cell) (hkind : scope.kind = .function)
    (hnames : ∀ y ∈ scope.names, y.2 = .local → scope.names.lookup y.1 = some .local) (hx : scope.names.lookup x = some .local)
    (hy : cl.lookup y = some cy) (hz : cl.lookup z = some cz) (hyk : ∀ C, (compEnvC scope cl C env).kindOf y = some .cell) (hzk : ∀ C, (compEnvC scope cl C env).kindOf z = some .cell) (hxk : ∀ C, (compEnvC scope cl C env).kindOf x = some .local)
    (hxd : (x == ("__debug__" : Str)) = false) (hyd : (y == ("__debug__" : Str)) = false) (hzd : (z == ("__debug__" : Str)) = false)
    (hcy : (cy, oy) ∈ news) (hdy : oy.data = .cell (some (.ref lr))) (hlr : (lr, listOf #[.ref ra, .ref rb] nw) ∈ news)
    (hcz : (cz, oz) ∈ news) (hdz : oz.data = .cell (some (.ref lc))) (hlc : (lc, listOf vc.toArray nc) ∈ news) (hic : IntsAre vc [(ca : Int), (cb : Int)])
    (hra : (ra, listOf va.toArray nra) ∈ news) (hrb : (rb, listOf vb.toArray nrb) ∈ news) (hia : IntsAre va xa) (hib : IntsAre vb xb) (ha7 : xa.length ≤ 1000) (hb7 : xb.length ≤ 1000)
    (hiter : wpAny (model prog w) A (eval iter env) (RngAt h₀ L 2 (fun _ m' nx => m' = m ∧ nx = news) s) E s)
    (h : ∀ D R1 R2 v1 v2 h' tk, Fr h₀ L h' m → News h₀ L h' ((D, listOf #[.ref R1, .ref R2] 2) :: (R2, listOf (List.toArray v2) 0) :: (R1, listOf (List.toArray v1) 0) :: news) → (@Ne Nat R2 D) → (@Ne Nat R1 D) → LCg.Off1 D news → (@LT.lt Nat _ R1 R2) → (∀ p ∈ news, p.1 < R1) → IntsAre v1 (xa.drop (ca + 1)) → IntsAre v2 (xb.drop (cb + 1)) → Q (.ref D) { s with heap := h', toks := tk })
    (hs : ∀ x, foldedSetIterable iter env x = pure x) :
    wpAny (model prog w) A (eval (.ListComp (.Subscript (.Subscript (.Name y p1) (.Name x p2) p3) (.Slice (some (.BinOp (.Subscript (.Name z p4) (.Name x p5) p6) .Add (.Constant (.int 1) k0 p7) p8)) none none p9) p10) [⟨.Name x px, iter, [], 0⟩] scope pos) env) Q E s := by
  have hkk : ∀ C, (compEnvC scope cl C env).scope.kind = .function := fun C => hkind
  refine LCg.ListComp_U F hclos hcell hkind hnames hx (wpAny_mono hiter (fun v s₁ h₁ => ?_) fun _ _ e => e) hs
  obtain ⟨r, t, u, t', hp0, tk0, m', nx, rfl, rfl, hr, F1, N1, rfl, rfl⟩ := h₁
  refine LCg.CompSrc.range (s₁ := { s with heap := hp0, toks := tk0 }) hh F1 N1 hr (by decide) (n := 2) (by rfl) (by rw [sizeLine_eq]; decide) fun g => ?_
  have mem3 : ∀ {q p1 p2 p3 : Addr × Obj} {l : List (Addr × Obj)}, q ∈ l → q ∈ p1 :: p2 :: p3 :: l := fun hq => .tail _ (.tail _ (.tail _ hq))
  refine LCg.CompRest.succ fun v I oI C oC D m₂ hp tk E' hv hoC hm2 F' N' off ne => ?_
  obtain ⟨t1, rfl⟩ := hv
  refine elt_row (j := 0) F' N' (.tail _ (.head _)) hoC hm2 (by rfl) (by decide) hy (mem3 hcy) hdy (mem3 hlr) (by rfl) hz (mem3 hcz) hdz (mem3 hlc) hic (by rfl) (mem3 hra) hia ha7 (hkk C) (hxk C) (hyk C) (hzk C) hxd hyd hzd fun R1 v1 h1 tk1 F2 N2 l1 hI1 => ?_
  have lI := l1 _ (.head _)
  have lC := l1 _ (.tail _ (.head _))
  have lD := l1 _ (.tail _ (.tail _ (.head _)))
  refine LCg.CompEnd.intro F2 N2 ((R1, listOf v1.toArray 0) :: nx) (fun q hq => ?_) ⟨⟨Ne.symm (Nat.ne_of_lt lI), Ne.symm (Nat.ne_of_lt lC), Ne.symm (Nat.ne_of_lt lD)⟩, off⟩ trivial ?_
  · simp only [List.mem_cons] at hq ⊢
    rcases hq with hq | hq | hq | hq | hq <;> simp only [hq, true_or, or_true]
  refine LCg.CompRest.succ fun v I oI C oC D m₂ hp tk E' hv hoC hm2 F' N' off ne => ?_
  obtain ⟨t1, rfl⟩ := hv
  refine elt_row (j := 1) F' N' (.tail _ (.head _)) hoC hm2 (by rfl) (by decide) hy (mem3 (.tail _ hcy)) hdy (mem3 (.tail _ hlr)) (by rfl) hz (mem3 (.tail _ hcz)) hdz (mem3 (.tail _ hlc)) hic (by rfl) (mem3 (.tail _ hrb)) hib hb7 (hkk C) (hxk C) (hyk C) (hzk C) hxd hyd hzd fun R2 v2 h1 tk2 F2 N2 l2 hI2 => ?_
  have lI := l2 _ (.head _)
  have lC := l2 _ (.tail _ (.head _))
  have lD := l2 _ (.tail _ (.tail _ (.head _)))
  have lR := l2 _ (.tail _ (.tail _ (.tail _ (.head _))))
  refine LCg.CompEnd.intro F2 N2 ((R2, listOf v2.toArray 0) :: (R1, listOf v1.toArray 0) :: nx) (fun q hq => ?_) ⟨⟨Ne.symm (Nat.ne_of_lt lI), Ne.symm (Nat.ne_of_lt lC), Ne.symm (Nat.ne_of_lt lD)⟩, off⟩ trivial ?_
  · simp only [List.mem_cons] at hq ⊢
    rcases hq with hq | hq | hq | hq | hq | hq <;> simp only [hq, true_or, or_true]
  refine LCg.CompRest.zero ?_
  exact fun D hE tkE F3 N3 off3 => h D R1 R2 v1 v2 hE tkE F3 N3 off3.1 off3.2.1 off3.2.2 lR (fun p hp => l1 p (mem3 hp)) hI1 hI2
end
end Mine
end

section
set_option maxRecDepth 100000
namespace Mine
open PySem PySem.W PySem.Spec PySem.Calls PyProof.Rows

theorem off1_of {D : Addr} : ∀ {l : List (Addr × Obj)}, (∀ p ∈ l, p.1 ≠ D) → LCg.Off1 D l
  | [], _ => trivial
  | _ :: _, h => ⟨h _ (.head _), off1_of fun p hp => h p (.tail _ hp)⟩
theorem off1_mem {D : Addr} {l : List (Addr × Obj)} (h : LCg.Off1 D l) : ∀ p ∈ l, p.1 ≠ D := by
  induction l with
  | nil => exact fun p hp => nomatch hp
  | cons q r ih =>
    intro p hp
    rcases List.mem_cons.mp hp with rfl | hp
    · exact h.1
    · exact ih h.2 p hp

section
variable {prog : Program} {w : World} {A : Around} {E : Value → Shared → Prop} {s : Shared} {h₀ : Heap} {L : Addr} {m : Str → Option Value} {news : List (Addr × Obj)}

def IntsAt (h₀ : Heap) (L : Addr) (ns : List Int) (J : Nat → (Str → Option Value) → List (Addr × Obj) → Prop) (s₀ : Shared) (v : Value) (s₁ : Shared) : Prop :=
  ∃ l vs nn h tk m' nx, v = .ref l ∧ s₁ = { s₀ with heap := h, toks := tk } ∧ IntsAre vs ns ∧ Fr h₀ L h m' ∧ News h₀ L h ((l, listOf (List.toArray vs) nn) :: nx) ∧ LCg.Off1 l nx ∧ J 0 m' nx

def IntsNext (h₀ : Heap) (L I l : Addr) (oI ol : Obj) (Jn : (Str → Option Value) → List (Addr × Obj) → Prop) (s s₂ : Shared) : Prop :=
  ∃ h' tk' m' nx', s₂ = { s with heap := h', toks := tk' } ∧ Fr h₀ L h' m' ∧ News h₀ L h' ((I, oI) :: (l, ol) :: nx') ∧ LCg.Off1 I nx' ∧ LCg.Off1 l nx' ∧ Jn m' nx'

/-- a for over a list of ints that stands in the ledger -/
theorem for_ints {env : Env} {x : Str} {px pos : Pos} {iter : PySem.Expr} {body orelse : List Stmt} {Q : Flow → Shared → Prop} {ns : List Int} (J : Nat → (Str → Option Value) → List (Addr × Obj) → Prop)
    (hh : A.handled = none) (hx : env.kindOf x = some .local) (hpx : (env.scope.kind == .class || (env.scope.kind == .module && env.locals != env.globals)) = false)
    (hit : wpAny (model prog w) A (eval iter env) (IntsAt h₀ env.locals ns J s) E s)
    (turn : ∀ i k t m₁ nx l I ol oI h tk, ns[i]? = some k → J i m₁ nx → Fr h₀ env.locals h (fun y => if y = x then some (.int k t) else m₁ y) → News h₀ env.locals h ((I, oI) :: (l, ol) :: nx) → LCg.Off1 I nx → LCg.Off1 l nx → (@Ne Nat l I) →
      wpAny (model prog w) A (execs body env) (fun f s₂ => match f with
        | .ret v => Q (.ret v) s₂
        | .brk => Q .next s₂
        | _ => IntsNext h₀ env.locals I l oI ol (J (i + 1)) s s₂) E { s with heap := h, toks := tk })
    (done : ∀ m₁ nx h tk, J ns.length m₁ nx → Fr h₀ env.locals h m₁ → News h₀ env.locals h nx → wpAny (model prog w) A (execs orelse env) Q E { s with heap := h, toks := tk })
    (hE : PassesOwn (model prog w) A env E)
    (hs : ∀ x, foldedSetIterable iter env x = pure x := by intro _; rfl) :
    wpAny (model prog w) A (exec (.For (.Name x px) iter body orelse pos) env) Q E s := by
  refine wpAny_For (wpAny_mono hit (fun v s₁ h₁ => ?_) fun _ _ e => e) hs
  obtain ⟨l, vs, nn, hp, tk0, m', nx0, rfl, rfl, hi, F0, N0, hl0, hj0⟩ := h₁
  have hl : hp.IsList l vs.toArray := PySem.IsL.isList (n := nn) (N0 _ (.head _)).1
  refine wpAny_pyIter_list (s := { s with heap := hp, toks := tk0 }) hl ?_
  have hvl : vs.length = ns.length := IntsAre.length hi
  generalize hIa : hp.objs.size = I
  have hIl : I ≠ env.locals := by rw [← hIa]; exact Ne.symm (Nat.ne_of_lt F0.ns.lt)
  have hI0 : h₀.get? I = none := by rw [← hIa]; exact next_is_new F0
  have hlI : l ≠ I := by rw [← hIa]; exact Nat.ne_of_lt (Heap.lt_size (N0 _ (.head _)).1)
  have hll := (N0 _ (.head _)).2
  have F1 : Fr h₀ env.locals (hp.push { cls := .type "list_iterator", data := .fields #[.ref l, .int 0 0] }) m' := F0.push _
  have N1 : News h₀ env.locals (hp.push { cls := .type "list_iterator", data := .fields #[.ref l, .int 0 0] }) ((l, listOf vs.toArray nn) :: nx0) := fun p hp => ⟨Heap.get?_push_of_some _ (N0 p hp).1, (N0 p hp).2⟩
  have hoff : LCg.Off1 I nx0 := off1_of fun p hp => by rw [← hIa]; exact Nat.ne_of_lt (Heap.lt_size (N0 p (.tail _ hp)).1)
  have hst : (hp.push { cls := .type "list_iterator", data := .fields #[.ref l, .int 0 0] }).IsListIter I l 0 := by
    rw [← hIa]
    exact ⟨_, Heap.get?_push_size _ rfl, rfl, rfl⟩
  generalize hp.push { cls := .type "list_iterator", data := .fields #[.ref l, .int 0 0] } = hq at F1 N1 hst
  refine codeAny_forLoop (R := fun r s' => match r with | .ok f => Q f s' | .error e => cameBackBy (model prog w) A env E e s')
    (fun k s' => ∃ h' tk m' nx, ∃ i : Nat, s' = { s with heap := h', toks := tk } ∧ Fr h₀ env.locals h' m' ∧ News h₀ env.locals h' ((l, listOf vs.toArray nn) :: nx) ∧ LCg.Off1 I nx ∧ LCg.Off1 l nx ∧ h'.IsListIter I l i ∧ J i m' nx ∧ i ≤ ns.length ∧ k = ns.length + 1 - i) ?_ (ns.length + 1)
    ⟨hq, tk0, m', nx0, 0, rfl, F1, N1, hoff, hl0, hst, hj0, Nat.zero_le _, rfl⟩
  rintro k s' ⟨h', tk, m', nx, i, rfl, F', N', hoff', hl', hit', hJ, hi', rfl⟩
  have hl : h'.IsList l vs.toArray := PySem.IsL.isList (n := nn) (N' _ (.head _)).1
  by_cases hlt : i < ns.length
  · obtain ⟨t, hxv⟩ := hi.get i ns[i] (by simp [hlt])
    refine wpAny_pyNext_list_item (s := { s with heap := h', toks := tk }) hit' hl (by simpa using hxv) fun h1 hit1 hs1 => ?_
    obtain ⟨oI, hoI, hIc, hId⟩ := hit1
    have F2 : Fr h₀ env.locals h1 m' := F'.change hs1 hIl hI0
    have N2 : News h₀ env.locals h1 ((I, oI) :: (l, listOf vs.toArray nn) :: nx) := fun p hp => by
      rcases List.mem_cons.mp hp with rfl | hp
      · exact ⟨hoI, hIl, hI0⟩
      · refine ⟨hs1.extBut _ _ ?_ (N' p hp).1, (N' p hp).2⟩
        rcases List.mem_cons.mp hp with rfl | hp
        · exact hlI
        · exact off1_mem hoff' p hp
    refine wpAny_assign_Name (wpAny_storeName_local hx F2.ns (fun h2 hn2 hs2 => ?_) hpx)
    have F3 := F2.set hn2 hs2
    have N3 := N2.set hs2
    refine wpAny_mono (turn i _ t m' nx l I _ oI h2 _ (by simp [hlt]) hJ F3 N3 hoff' hl' hlI) (fun f s₂ q => ?_) hE
    have fin : IntsNext h₀ env.locals I l oI (listOf vs.toArray nn) (J (i + 1)) s s₂ → ∃ m_1, m_1 < ns.length + 1 - i ∧ ∃ h' tk m' nx, ∃ i : Nat, s₂ = { s with heap := h', toks := tk } ∧ Fr h₀ env.locals h' m' ∧ News h₀ env.locals h' ((l, listOf vs.toArray nn) :: nx) ∧ LCg.Off1 I nx ∧ LCg.Off1 l nx ∧ h'.IsListIter I l i ∧ J i m' nx ∧ i ≤ ns.length ∧ m_1 = ns.length + 1 - i := by
      rintro ⟨h3, tk3, m3, nx3, rfl, F3, N3, ho3, hl3, hJ3⟩
      exact ⟨_, by omega, h3, tk3, m3, nx3, i + 1, rfl, F3, N3.perm fun p hp => .tail _ hp, ho3, hl3, ⟨oI, (N3 _ (.head _)).1, hIc, hId⟩, hJ3, hlt, rfl⟩
    cases f with
    | ret v => exact q
    | brk => exact q
    | next => exact fin q
    | cont => exact fin q
  · have hin : i = ns.length := by omega
    subst hin
    refine wpAny_pyNext_list_end (s := { s with heap := h', toks := tk }) hh hit' hl (by simp [hvl]) fun h1 he => ?_
    have F2 : Fr h₀ env.locals h1 m' := ⟨F'.ns.at' fun ob e => he _ ob (Ne.symm hIl) e, fun b ob e => he b ob (fun x => by rw [x, hI0] at e; cases e) (F'.keep b ob e), F'.above⟩
    have N2 : News h₀ env.locals h1 nx := fun p hp => ⟨he _ _ (off1_mem hoff' p hp) (N' p (.tail _ hp)).1, (N' p (.tail _ hp)).2⟩
    exact wpAny_mono (done m' nx h1 tk hJ F2 N2) (fun _ _ q => q) hE
end
end Mine
end

section
set_option maxRecDepth 100000
namespace Mine
open PySem PySem.W PySem.Spec PySem.Calls PyProof.Rows

def lawFor : PySem.Expr × PySem.Expr × List Stmt := match lawTl 11 with
  | .For tg it body _ _ :: _ => (tg, it, body)
  | _ => (.Constant .none 0 default, .Constant .none 0 default, [])
def lawIn : PySem.Expr × PySem.Expr × List Stmt := match lawFor.2.2 with
  | _ :: .For tg it body _ _ :: _ => (tg, it, body)
  | _ => (.Constant .none 0 default, .Constant .none 0 default, [])
def lawEnd : PySem.Expr × PySem.Expr × List Stmt := match lawTl 12 with
  | .For tg it body _ _ :: _ => (tg, it, body)
  | _ => (.Constant .none 0 default, .Constant .none 0 default, [])
end Mine
end

section
set_option maxRecDepth 100000
namespace Mine
open PySem PySem.W PySem.Spec PySem.Calls PyProof.Rows
local macro_rules | `(tactic| k_ne) => `(tactic| (refine neN ?_; (try dsimp only); first | (with_reducible assumption) | (refine Ne.symm ?_; with_reducible assumption) | (k_dflt (refine off1_find (by with_reducible assumption) ?_; k_mem)) | (k_dflt (refine Ne.symm (off1_find (by with_reducible assumption) ?_); k_mem))))
local macro_rules | `(tactic| walk_at "binaryOp Mod int int") => `(tactic| (k_here; k_dflt (refine' mod_x ?h ?b ?_; (case h => assumption); (case b => decide))))
local macro_rules | `(tactic| walk_at "call builtin:list.extend") => `(tactic| (k_here; (with_reducible show wpAny _ _ (call (Value.builtin _) [Value.ref _, Value.ref _]) _ _ _); k_dflt (refine' ext_I ?F ?N ?b ?U ?i ?j ?z ?_; (case F => k_asm); (case N => k_asm); (case b => k_mem); (case U => k_updF); (case i => assumption); (case j => assumption); (case z => ((try simp only [List.length_append, List.length_take, List.length_drop, List.length_cons, List.length_nil]); omega))); intro hX vX cX FX NX IX; (try dsimp only at NX); (try k_sweep)))
local macro_rules | `(tactic| walk_at "call builtin:list.append") => `(tactic| (k_here; (with_reducible show wpAny _ _ (call (Value.builtin _) [Value.ref _, Value.int _ _]) _ _ _); k_dflt (refine' app_I ?F ?N ?U ?i ?z ?_; (case F => k_asm); (case N => k_asm); (case U => k_updF); (case i => assumption); (case z => ((try simp only [List.length_append, List.length_take, List.length_drop, List.length_cons, List.length_nil]); omega))); intro hX vX cX FX NX IX; (try dsimp only at NX); (try k_sweep)))
local macro_rules | `(tactic| walk_at "subscriptTail Name Name ref int") => `(tactic| (k_here; (with_reducible show wpAny _ _ (subscriptTail (PySem.Expr.Name (Str.ofString "shared") _) _ _ _) _ _ _); k_dflt (refine' item_x ?l ?i ?x ?n ?_ ?s; (case l => kmk_list); (case i => assumption); (case x => assumption); (case n => omega); (case s => with_unfolding_all rfl)); intro t'))
local macro_rules | `(tactic| walk_at "subscriptTail Name Name ref int") => `(tactic| (k_here; (with_reducible show wpAny _ _ (subscriptTail (PySem.Expr.Name (Str.ofString "cuts") _) _ _ _) _ _ _); k_dflt (refine' item_lit ?l ?i ?k ?x ?_ ?s; (case l => kmk_list); (case i => assumption); (case k => exact ⟨by decide, by decide⟩); (case x => exact rfl); (case s => with_unfolding_all rfl)); intro t'))
local macro_rules | `(tactic| walk_at "binaryOp Sub int int") => `(tactic| (k_here; k_dflt (refine' sub_x (c := 1) ?h ?_; (case h => decide))))
local macro_rules | `(tactic| walk_at "eval ListComp") => `(tactic| (refine stopHere ?_))
local macro_rules | `(tactic| walk_at "exec Assign cons ListComp") => `(tactic| fail "mine")
local macro_rules | `(tactic| walk_at "subscriptTail Subscript Slice ref ref") => `(tactic| (k_here; (with_reducible show wpAny _ _ (subscriptTail _ (PySem.Expr.Slice _ _ none _) (Value.ref _) (Value.ref _)) _ _ _); k_dflt (refine' slice_R ?F ?N ?m ?p ?q ?i ?j ?z ?_ ?s; (case F => k_asm); (case N => k_asm); (case m => k_mem); (case p => kmk_part); (case q => kmk_part); (case i => assumption); (case j => first | exact kmk_from (by assumption) (by omega) | exact kmk_upto (by assumption) (by omega)); (case z => omega); (case s => with_unfolding_all rfl)); intro D' ws' h' F' N' l1 hI'; (try k_lt l1); (try k_sweep)))
set_option maxHeartbeats 400000 in
theorem turn0 {w : World} {h₀ : Heap} {L fa : Addr} {cd : Value} {mg mb m : Str → Option Value} {loose : List Str} {mean : ExcName → Option Value} {s : Shared} {Q : Flow → Shared → Prop} {E : Value → Shared → Prop}
   {I2 l2 cu I rw ra rb du td sh : Addr} {vc va vb vd vt vsh : List Value} {xa xb xd : List Int} {nc nw na nb nd nt nsh ca cb : Nat} {t : Tok} {oI2 ol2 o o3 o5 o6 o7 : Obj}
   (X : (hd.heap_39 w.params).In h₀) (T : Top hd.view_39 loose mean mg mb h₀) (B : Below callerA h₀ [] h₀) (F : Fr h₀ L s.heap (fun y => if y = Str.ofString "j" then some (.int 0 t) else if y = Str.ofString "due" then some (.ref du) else if y = Str.ofString "told" then some (.ref td) else m y))
   (N : News h₀ L s.heap [(I2, oI2), (l2, ol2), (cu, listOf vc.toArray nc), (I, o), (rw, listOf #[.ref ra, .ref rb] nw), (ra, listOf va.toArray na), (rb, listOf vb.toArray nb), (du, listOf vd.toArray nd), (td, listOf vt.toArray nt), (sh, listOf vsh.toArray nsh), (L+1+1+1+1+1+1+1, o7), (L+1+1+1+1+1+1, o6), (L+1+1+1+1+1, o5), (L+1+1+1, o3)])
   (d5 : o5.data = .cell (some (.ref rw))) (d7 : o7.data = .cell (some (.ref cu)))
   (hic : IntsAre vc [(ca : Int), (cb : Int)]) (hia : IntsAre va xa) (hib : IntsAre vb xb) (hid : IntsAre vd xd)
   (ha7 : xa.length ≤ 7) (hb7 : xb.length ≤ 7) (hd7 : xd.length ≤ 30)
   (cI : LCg.Off1 I2 [(cu, o), (I, o), (rw, o), (ra, o), (rb, o), (du, o), (td, o), (sh, o), (L+1+1+1+1+1+1+1, o), (L+1+1+1+1+1+1, o), (L+1+1+1+1+1, o), (L+1+1+1, o)])
   (cl : LCg.Off1 l2 [(cu, o), (I, o), (rw, o), (ra, o), (rb, o), (du, o), (td, o), (sh, o), (L+1+1+1+1+1+1+1, o), (L+1+1+1+1+1+1, o), (L+1+1+1+1+1, o), (L+1+1+1, o)])
   (cc : LCg.Off1 cu [(I, o), (rw, o), (ra, o), (rb, o), (du, o), (td, o), (sh, o), (L+1+1+1+1+1+1+1, o), (L+1+1+1+1+1+1, o), (L+1+1+1+1+1, o), (L+1+1+1, o)])
   (cd' : LCg.Off1 du [(I, o), (rw, o), (ra, o), (rb, o), (td, o), (sh, o), (L+1+1+1+1+1+1+1, o), (L+1+1+1+1+1+1, o), (L+1+1+1+1+1, o), (L+1+1+1, o)])
   (k : ∀ hh tk vd' nd', Fr h₀ L hh (fun y => if y = Str.ofString "j" then some (.int 0 t) else if y = Str.ofString "due" then some (.ref du) else if y = Str.ofString "told" then some (.ref td) else m y) →
     News h₀ L hh [(I2, oI2), (l2, ol2), (cu, listOf vc.toArray nc), (I, o), (rw, listOf #[.ref ra, .ref rb] nw), (ra, listOf va.toArray na), (rb, listOf vb.toArray nb), (du, listOf (List.toArray vd') nd'), (td, listOf vt.toArray nt), (sh, listOf vsh.toArray nsh), (L+1+1+1+1+1+1+1, o7), (L+1+1+1+1+1+1, o6), (L+1+1+1+1+1, o5), (L+1+1+1, o3)] →
     IntsAre vd' (xd ++ xa.take ca) → Q .next { s with heap := hh, toks := tk })
   : wpAny (model PySem.Challenge.rw_eu0026_01.row.prog w) (lawA L fa cd) (execs lawIn.2.2 (lawEnv L fa cd)) Q E s := by
  w_top off
  k_with_none
  revert X
  k_fill
  intro X
  delta lawIn lawFor lawTl lawA lawEnv lawFn PySem.Challenge.pw_eu0026_01
  dsimp only [List.drop]
  k_steps
  rename_i F1 N1 I1
  exact k _ _ _ _ F1 (pick1 N1) I1
set_option maxHeartbeats 400000 in
theorem turn1 {w : World} {h₀ : Heap} {L fa : Addr} {cd : Value} {mg mb m : Str → Option Value} {loose : List Str} {mean : ExcName → Option Value} {s : Shared} {Q : Flow → Shared → Prop} {E : Value → Shared → Prop}
   {I2 l2 cu I rw ra rb du td sh : Addr} {vc va vb vd vt vsh : List Value} {xa xb xd : List Int} {nc nw na nb nd nt nsh ca cb : Nat} {t : Tok} {oI2 ol2 o o3 o5 o6 o7 : Obj}
   (X : (hd.heap_39 w.params).In h₀) (T : Top hd.view_39 loose mean mg mb h₀) (B : Below callerA h₀ [] h₀) (F : Fr h₀ L s.heap (fun y => if y = Str.ofString "j" then some (.int 1 t) else if y = Str.ofString "due" then some (.ref du) else if y = Str.ofString "told" then some (.ref td) else m y))
   (N : News h₀ L s.heap [(I2, oI2), (l2, ol2), (cu, listOf vc.toArray nc), (I, o), (rw, listOf #[.ref ra, .ref rb] nw), (ra, listOf va.toArray na), (rb, listOf vb.toArray nb), (du, listOf vd.toArray nd), (td, listOf vt.toArray nt), (sh, listOf vsh.toArray nsh), (L+1+1+1+1+1+1+1, o7), (L+1+1+1+1+1+1, o6), (L+1+1+1+1+1, o5), (L+1+1+1, o3)])
   (d5 : o5.data = .cell (some (.ref rw))) (d7 : o7.data = .cell (some (.ref cu)))
   (hic : IntsAre vc [(ca : Int), (cb : Int)]) (hia : IntsAre va xa) (hib : IntsAre vb xb) (hid : IntsAre vd xd)
   (ha7 : xa.length ≤ 7) (hb7 : xb.length ≤ 7) (hd7 : xd.length ≤ 30)
   (cI : LCg.Off1 I2 [(cu, o), (I, o), (rw, o), (ra, o), (rb, o), (du, o), (td, o), (sh, o), (L+1+1+1+1+1+1+1, o), (L+1+1+1+1+1+1, o), (L+1+1+1+1+1, o), (L+1+1+1, o)])
   (cl : LCg.Off1 l2 [(cu, o), (I, o), (rw, o), (ra, o), (rb, o), (du, o), (td, o), (sh, o), (L+1+1+1+1+1+1+1, o), (L+1+1+1+1+1+1, o), (L+1+1+1+1+1, o), (L+1+1+1, o)])
   (cc : LCg.Off1 cu [(I, o), (rw, o), (ra, o), (rb, o), (du, o), (td, o), (sh, o), (L+1+1+1+1+1+1+1, o), (L+1+1+1+1+1+1, o), (L+1+1+1+1+1, o), (L+1+1+1, o)])
   (cd' : LCg.Off1 du [(I, o), (rw, o), (ra, o), (rb, o), (td, o), (sh, o), (L+1+1+1+1+1+1+1, o), (L+1+1+1+1+1+1, o), (L+1+1+1+1+1, o), (L+1+1+1, o)])
   (k : ∀ hh tk vd' nd', Fr h₀ L hh (fun y => if y = Str.ofString "j" then some (.int 1 t) else if y = Str.ofString "due" then some (.ref du) else if y = Str.ofString "told" then some (.ref td) else m y) →
     News h₀ L hh [(I2, oI2), (l2, ol2), (cu, listOf vc.toArray nc), (I, o), (rw, listOf #[.ref ra, .ref rb] nw), (ra, listOf va.toArray na), (rb, listOf vb.toArray nb), (du, listOf (List.toArray vd') nd'), (td, listOf vt.toArray nt), (sh, listOf vsh.toArray nsh), (L+1+1+1+1+1+1+1, o7), (L+1+1+1+1+1+1, o6), (L+1+1+1+1+1, o5), (L+1+1+1, o3)] →
     IntsAre vd' (xd ++ xb.take cb) → Q .next { s with heap := hh, toks := tk })
   : wpAny (model PySem.Challenge.rw_eu0026_01.row.prog w) (lawA L fa cd) (execs lawIn.2.2 (lawEnv L fa cd)) Q E s := by
  w_top off
  k_with_none
  revert X
  k_fill
  intro X
  delta lawIn lawFor lawTl lawA lawEnv lawFn PySem.Challenge.pw_eu0026_01
  dsimp only [List.drop]
  k_steps
  rename_i F1 N1 I1
  exact k _ _ _ _ F1 (pick1 N1) I1
end Mine
end

section
set_option maxRecDepth 100000
namespace Mine
open PySem PySem.W PySem.Spec PySem.Calls PyProof.Rows
theorem pickL {h₀ h : Heap} {L : Addr} {d2 r2 r1 cu i w a b : Addr × Obj} {cs : List (Addr × Obj)} (N : News h₀ L h (d2 :: r2 :: r1 :: cu :: i :: w :: a :: b :: cs)) : News h₀ L h (i :: d2 :: r1 :: r2 :: cs) := N.perm fun p hp => by
  simp only [List.mem_cons] at hp ⊢
  rcases hp with hp | hp | hp | hp | hp <;> simp only [hp, true_or, or_true]
local macro_rules | `(tactic| k_ne) => `(tactic| (refine neN ?_; (try dsimp only); first | (with_reducible assumption) | (refine Ne.symm ?_; with_reducible assumption) | (k_dflt (refine off1_find (by with_reducible assumption) ?_; k_mem)) | (k_dflt (refine Ne.symm (off1_find (by with_reducible assumption) ?_); k_mem))))
local macro_rules | `(tactic| walk_at "binaryOp Mod int int") => `(tactic| (k_here; k_dflt (refine' mod_x ?h ?b ?_; (case h => assumption); (case b => decide))))
local macro_rules | `(tactic| walk_at "call builtin:list.extend") => `(tactic| (k_here; (with_reducible show wpAny _ _ (call (Value.builtin _) [Value.ref _, Value.ref _]) _ _ _); k_dflt (refine' ext_I ?F ?N ?b ?U ?i ?j ?z ?_; (case F => k_asm); (case N => k_asm); (case b => k_mem); (case U => k_updF); (case i => assumption); (case j => assumption); (case z => ((try simp only [List.length_append, List.length_take, List.length_drop, List.length_cons, List.length_nil]); omega))); intro hX vX cX FX NX IX; (try dsimp only at NX); (try k_sweep)))
local macro_rules | `(tactic| walk_at "call builtin:list.append") => `(tactic| (k_here; (with_reducible show wpAny _ _ (call (Value.builtin _) [Value.ref _, Value.int _ _]) _ _ _); k_dflt (refine' app_I ?F ?N ?U ?i ?z ?_; (case F => k_asm); (case N => k_asm); (case U => k_updF); (case i => assumption); (case z => ((try simp only [List.length_append, List.length_take, List.length_drop, List.length_cons, List.length_nil]); omega))); intro hX vX cX FX NX IX; (try dsimp only at NX); (try k_sweep)))
local macro_rules | `(tactic| walk_at "subscriptTail Name Name ref int") => `(tactic| (k_here; (with_reducible show wpAny _ _ (subscriptTail (PySem.Expr.Name (Str.ofString "shared") _) _ _ _) _ _ _); k_dflt (refine' item_x ?l ?i ?x ?n ?_ ?s; (case l => kmk_list); (case i => assumption); (case x => assumption); (case n => omega); (case s => with_unfolding_all rfl)); intro t'))
local macro_rules | `(tactic| walk_at "subscriptTail Name Name ref int") => `(tactic| (k_here; (with_reducible show wpAny _ _ (subscriptTail (PySem.Expr.Name (Str.ofString "cuts") _) _ _ _) _ _ _); k_dflt (refine' item_lit ?l ?i ?k ?x ?_ ?s; (case l => kmk_list); (case i => assumption); (case k => exact ⟨by decide, by decide⟩); (case x => exact rfl); (case s => with_unfolding_all rfl)); intro t'))
local macro_rules | `(tactic| walk_at "eval ListComp") => `(tactic| (refine stopHere ?_))
local macro_rules | `(tactic| walk_at "exec Assign cons ListComp") => `(tactic| fail "mine")
local macro_rules | `(tactic| walk_at "subscriptTail Subscript Slice ref ref") => `(tactic| (k_here; (with_reducible show wpAny _ _ (subscriptTail _ (PySem.Expr.Slice _ _ none _) (Value.ref _) (Value.ref _)) _ _ _); k_dflt (refine' slice_R ?F ?N ?m ?p ?q ?i ?j ?z ?_ ?s; (case F => k_asm); (case N => k_asm); (case m => k_mem); (case p => kmk_part); (case q => kmk_part); (case i => assumption); (case j => first | exact kmk_from (by assumption) (by omega) | exact kmk_upto (by assumption) (by omega)); (case z => omega); (case s => with_unfolding_all rfl)); intro D' ws' h' F' N' l1 hI'; (try k_lt l1); (try k_sweep)))
local macro_rules | `(tactic| walk_at "call type:range") => `(tactic| (k_here; k_dflt (refine' rng_call (n := 2) ?F ?N ?j ?s; (case F => k_asm); (case N => k_asm); (case j => exact ⟨rfl, rfl⟩); (case s => exact ⟨_, _, rfl⟩))))
local macro_rules | `(tactic| walk_at "execs cons") => `(tactic| ((with_reducible show wpAny _ _ (execs (Stmt.For _ _ _ _ _ :: _) _) _ _ _); refine stopHere ?_))
local macro_rules | `(tactic| walk_at "binaryOp Sub int int") => `(tactic| (k_here; k_dflt (refine' sub_x (c := 1) ?h ?_; (case h => decide))))
set_option maxHeartbeats 1000000 in
theorem segL0 {w : World} {h₀ : Heap} {L fa : Addr} {cd : Value} {mg mb m : Str → Option Value} {loose : List Str} {mean : ExcName → Option Value} {s : Shared} {Q : Flow → Shared → Prop} {E : Value → Shared → Prop}
   {I rw ra rb du td sh : Addr} {va vb vd vt vsh : List Value} {xa xb xd xsh : List Int} {x : Int} {nw na nb nd nt nsh i : Nat} {t : Tok} {o o3 o5 o6 o7 : Obj} {v6 v7 : Option Value}
   (X : (hd.heap_39 w.params).In h₀) (T : Top hd.view_39 loose mean mg mb h₀) (B : Below callerA h₀ [] h₀) (F : Fr h₀ L s.heap (fun y => if y = Str.ofString "due" then some (.ref du) else if y = Str.ofString "told" then some (.ref td) else m y))
   (N : News h₀ L s.heap [(I, o), (rw, listOf #[.ref ra, .ref rb] nw), (ra, listOf va.toArray na), (rb, listOf vb.toArray nb), (du, listOf vd.toArray nd), (td, listOf vt.toArray nt), (sh, listOf vsh.toArray nsh), (L+1+1+1+1+1+1+1, o7), (L+1+1+1+1+1+1, o6), (L+1+1+1+1+1, o5), (L+1+1+1, o3)])
   (d3 : o3.data = .cell (some (.ref sh))) (d5 : o5.data = .cell (some (.ref rw))) (d6 : o6.data = .cell v6) (d7 : o7.data = .cell v7)
   (hia : IntsAre va xa) (hib : IntsAre vb xb) (hid : IntsAre vd xd) (his : IntsAre vsh xsh)
   (hxa : x ∈ xa) (hxb : x ∈ xb) (hsx : xsh[i]? = some x) (hi7 : i ≤ 7) (ha7 : xa.length ≤ 7) (hb7 : xb.length ≤ 7) (hd7 : xd.length ≤ 14) (hpar : Int.fmod (i : Int) 2 = 0) (hE : PassesOwn (model PySem.Challenge.rw_eu0026_01.row.prog w) (lawA L fa cd) (lawEnv L fa cd) E)
   (c5 : LCg.Off1 (L+1+1+1+1+1) [(I, o), (rw, o), (ra, o), (rb, o), (du, o), (td, o), (sh, o), (L+1+1+1+1+1+1+1, o), (L+1+1+1+1+1+1, o), (L+1+1+1, o)])
   (c6 : LCg.Off1 (L+1+1+1+1+1+1) [(I, o), (rw, o), (ra, o), (rb, o), (du, o), (td, o), (sh, o), (L+1+1+1+1+1+1+1, o), (L+1+1+1+1+1, o), (L+1+1+1, o)])
   (c7 : LCg.Off1 (L+1+1+1+1+1+1+1) [(I, o), (rw, o), (ra, o), (rb, o), (du, o), (td, o), (sh, o), (L+1+1+1+1+1+1, o), (L+1+1+1+1+1, o), (L+1+1+1, o)])
   (cd' : LCg.Off1 du [(I, o), (rw, o), (ra, o), (rb, o), (td, o), (sh, o), (L+1+1+1+1+1+1+1, o), (L+1+1+1+1+1+1, o), (L+1+1+1+1+1, o), (L+1+1+1, o)])
   (cI : LCg.Off1 I [(rw, o), (ra, o), (rb, o), (du, o), (td, o), (sh, o), (L+1+1+1+1+1+1+1, o), (L+1+1+1+1+1+1, o), (L+1+1+1+1+1, o), (L+1+1+1, o)])
   (k : ∀ (hh : Heap) (tk : Nat) (u : Str → Option Value) (rw' ra' rb' : Addr) (va' vb' vd' : List Value) (nd' : Nat) (o5' o6' o7' : Obj) (v6' v7' : Option Value), Fr h₀ L hh (fun y => if y = Str.ofString "due" then some (.ref du) else if y = Str.ofString "told" then some (.ref td) else u y) → News h₀ L hh [(I, o), (rw', listOf #[.ref ra', .ref rb'] 2), (ra', listOf (List.toArray va') 0), (rb', listOf (List.toArray vb') 0), (du, listOf (List.toArray vd') nd'), (td, listOf vt.toArray nt), (sh, listOf vsh.toArray nsh), (L+1+1+1+1+1+1+1, o7'), (L+1+1+1+1+1+1, o6'), (L+1+1+1+1+1, o5'), (L+1+1+1, o3)] →
     o5'.data = .cell (some (.ref rw')) → o6'.data = .cell v6' → o7'.data = .cell v7' → IntsAre va' (xa.drop (xa.idxOf x + 1)) → IntsAre vb' (xb.drop (xb.idxOf x + 1)) → IntsAre vd' (xd ++ xa.take (xa.idxOf x) ++ xb.take (xb.idxOf x) ++ [x]) →
     LCg.Off1 (L+1+1+1+1+1) [(I, o), (rw', o), (ra', o), (rb', o), (du, o), (td, o), (sh, o), (L+1+1+1+1+1+1+1, o), (L+1+1+1+1+1+1, o), (L+1+1+1, o)] → LCg.Off1 (L+1+1+1+1+1+1) [(I, o), (rw', o), (ra', o), (rb', o), (du, o), (td, o), (sh, o), (L+1+1+1+1+1+1+1, o), (L+1+1+1+1+1, o), (L+1+1+1, o)] → LCg.Off1 (L+1+1+1+1+1+1+1) [(I, o), (rw', o), (ra', o), (rb', o), (du, o), (td, o), (sh, o), (L+1+1+1+1+1+1, o), (L+1+1+1+1+1, o), (L+1+1+1, o)] → LCg.Off1 du [(I, o), (rw', o), (ra', o), (rb', o), (td, o), (sh, o), (L+1+1+1+1+1+1+1, o), (L+1+1+1+1+1+1, o), (L+1+1+1+1+1, o), (L+1+1+1, o)] → LCg.Off1 I [(rw', o), (ra', o), (rb', o), (du, o), (td, o), (sh, o), (L+1+1+1+1+1+1+1, o), (L+1+1+1+1+1+1, o), (L+1+1+1+1+1, o), (L+1+1+1, o)] →
     Q .next { s with heap := hh, toks := tk })
   : wpAny (model PySem.Challenge.rw_eu0026_01.row.prog w) (lawA L fa cd) (assign lawFor.1 (lawEnv L fa cd) (.int (i : Int) t)) (fun _ s₁ => wpAny (model PySem.Challenge.rw_eu0026_01.row.prog w) (lawA L fa cd) (execs lawFor.2.2 (lawEnv L fa cd)) Q E s₁) E s := by
  w_top off
  k_with_none
  have zz := k
  clear k
  revert X
  k_fill
  intro X
  delta lawFor lawTl lawA lawEnv lawFn PySem.Challenge.pw_eu0026_01
  dsimp only [List.drop]
  k_steps
  delta StopHere
  rename_i hA o6a F1 N1 d6a
  refine comp_cuts F1 N1 (by rfl) (by with_unfolding_all rfl) (by decide) (by rfl) (by decide) (by rfl) (by rfl) (by rfl) (fun _ => rfl) (fun _ => rfl) (fun _ => rfl) (by decide) (by decide) (by decide) (by k_mem) d3 (by k_mem) his hsx (by omega) (by k_mem) d6a (by k_mem) (by k_mem) (by k_mem) hia hib hxa hxb (by omega) (by omega) (fun Q' hQ' => nameX_C N1 (by rfl) (by k_mem) d5 hQ' (by rfl) (by rfl)) ?_ (fun _ => rfl) (fun _ => rfl) (by rfl) (fun _ => rfl)
  intro cu ys1 hB tk1 F2 N2 off1 hI1
  clear F1 N1
  k_steps
  delta StopHere
  rename_i hC o7a F3 N3 d7a
  refine wpAny_execs_cons ?_
  refine for_ints (h₀ := h₀) (ns := [0, 1]) (fun i' m' nx => ∃ (u : Str → Option Value) (vd' : List Value) (nd' : Nat), m' = (fun y => if y = Str.ofString "due" then some (.ref du) else if y = Str.ofString "told" then some (.ref td) else u y) ∧ nx = [(cu, listOf (List.toArray ys1) ys1.length), (I, o), (rw, listOf #[.ref ra, .ref rb] nw), (ra, listOf va.toArray na), (rb, listOf vb.toArray nb), (du, listOf (List.toArray vd') nd'), (td, listOf vt.toArray nt), (sh, listOf vsh.toArray nsh), (L+1+1+1+1+1+1+1, o7a), (L+1+1+1+1+1+1, o6a), (L+1+1+1+1+1, o5), (L+1+1+1, o3)] ∧ IntsAre vd' (xd ++ (match i' with | 0 => [] | 1 => xa.take (xa.idxOf x) | _ => xa.take (xa.idxOf x) ++ xb.take (xb.idxOf x)))) (by rfl) (by rfl) (by rfl) ?_ ?_ ?_ ?_
  · clear zz
    k_steps
    rename_i l2 hD F4 N4 l1
    refine ⟨l2, [.int 0 _, .int 1 _], 0, _, _, _, _, rfl, rfl, .cons _ _ (.cons _ _ .nil), F4, N4, ?_, m, vd, nd, rfl, rfl, by simpa using hid⟩
    simp only [LCg.Off1, and_true]
    refine ⟨?_, ?_, ?_, ?_, ?_, ?_, ?_, ?_, ?_, ?_, ?_, ?_⟩ <;> (refine neN ?_; omega)
  · intro i' kk tt m₁ nx l2 I2 ol2 oI2 hD tkD hk hJ F4 N4 offI offl nlI
    clear zz
    obtain ⟨u, vd', nd', rfl, rfl, hvd⟩ := hJ
    match i', hk, hvd with
    | 0, hk, hvd =>
      have hk' : kk = 0 := (Option.some.inj hk).symm
      subst hk'
      have hvd0 : IntsAre vd' xd := by simpa using hvd
      refine turn0 (s := { s with heap := hD, toks := tkD }) (xd := xd) X T B F4 N4 d5 d7a hI1 hia hib hvd0 ha7 hb7 (by omega) offI offl off1 cd' fun hh tk vd2 nd2 F5 N5 I5 => ?_
      exact ⟨_, _, _, _, rfl, fr_pick (x := Str.ofString "due") (fr_pick (x := Str.ofString "told") F5 rfl) rfl, N5, offI, offl, _, vd2, nd2, rfl, rfl, I5⟩
    | 1, hk, hvd =>
      have hk' : kk = 1 := (Option.some.inj hk).symm
      subst hk'
      refine turn1 (s := { s with heap := hD, toks := tkD }) (xd := xd ++ xa.take (xa.idxOf x)) X T B F4 N4 d5 d7a hI1 hia hib hvd ha7 hb7 (by rw [List.length_append, List.length_take]; omega) offI offl off1 cd' fun hh tk vd2 nd2 F5 N5 I5 => ?_
      exact ⟨_, _, _, _, rfl, fr_pick (x := Str.ofString "due") (fr_pick (x := Str.ofString "told") F5 rfl) rfl, N5, offI, offl, _, vd2, nd2, rfl, rfl, by rw [List.append_assoc] at I5; exact I5⟩
    | i' + 2, hk, _ => exact absurd hk (by simp)
  · intro m₁ nx hD tkD hJ F4 N4
    obtain ⟨u, vd', nd', rfl, rfl, hvd⟩ := hJ
    have hvd2 : IntsAre vd' (xd ++ (xa.take (xa.idxOf x) ++ xb.take (xb.idxOf x))) := hvd
    clear hvd hid
    refine wpAny_execs_nil ?_
    dsimp only
    k_steps
    delta StopHere
    rename_i F5 N5 I5
    refine comp_rows F5 N5 (by rfl) (by with_unfolding_all rfl) (by decide) (by rfl) (by decide) (by rfl) (by rfl) (by rfl) (fun _ => rfl) (fun _ => rfl) (fun _ => rfl) (by decide) (by decide) (by decide) (by k_mem) d5 (by k_mem) (by k_mem) d7a (by k_mem) hI1 (by k_mem) (by k_mem) hia hib (by omega) (by omega) ?_ ?_ (fun _ => rfl)
    · clear zz
      k_steps
    · intro D2 R1 R2 v1 v2 hG tkG F6 N6 ne2 ne1 offD lR l6 hJ1 hJ2
      clear F5 N5
      k_lt l6
      k_steps
      rename_i hH o5b F7 N7 d5b
      refine zz _ _ _ D2 R1 R2 v1 v2 _ _ o5b o6a o7a _ _ F7 (pickL N7) d5b d6a d7a hJ1 hJ2 (by simpa only [List.append_assoc] using I5) ?_ ?_ ?_ ?_ ?_ <;> (simp only [LCg.Off1, and_true]; refine ⟨?_, ?_, ?_, ?_, ?_, ?_, ?_, ?_, ?_, ?_⟩ <;> k_ne)
  · passes_own
local macro_rules | `(tactic| walk_at "binaryOp Sub int int") => `(tactic| (k_here; k_dflt (refine' sub_x (c := 0) ?h ?_; (case h => decide))))
set_option maxHeartbeats 1000000 in
theorem segL1 {w : World} {h₀ : Heap} {L fa : Addr} {cd : Value} {mg mb m : Str → Option Value} {loose : List Str} {mean : ExcName → Option Value} {s : Shared} {Q : Flow → Shared → Prop} {E : Value → Shared → Prop}
   {I rw ra rb du td sh : Addr} {va vb vd vt vsh : List Value} {xa xb xd xsh : List Int} {x : Int} {nw na nb nd nt nsh i : Nat} {t : Tok} {o o3 o5 o6 o7 : Obj} {v6 v7 : Option Value}
   (X : (hd.heap_39 w.params).In h₀) (T : Top hd.view_39 loose mean mg mb h₀) (B : Below callerA h₀ [] h₀) (F : Fr h₀ L s.heap (fun y => if y = Str.ofString "due" then some (.ref du) else if y = Str.ofString "told" then some (.ref td) else m y))
   (N : News h₀ L s.heap [(I, o), (rw, listOf #[.ref ra, .ref rb] nw), (ra, listOf va.toArray na), (rb, listOf vb.toArray nb), (du, listOf vd.toArray nd), (td, listOf vt.toArray nt), (sh, listOf vsh.toArray nsh), (L+1+1+1+1+1+1+1, o7), (L+1+1+1+1+1+1, o6), (L+1+1+1+1+1, o5), (L+1+1+1, o3)])
   (d3 : o3.data = .cell (some (.ref sh))) (d5 : o5.data = .cell (some (.ref rw))) (d6 : o6.data = .cell v6) (d7 : o7.data = .cell v7)
   (hia : IntsAre va xa) (hib : IntsAre vb xb) (hid : IntsAre vd xd) (his : IntsAre vsh xsh)
   (hxa : x ∈ xa) (hxb : x ∈ xb) (hsx : xsh[i]? = some x) (hi7 : i ≤ 7) (ha7 : xa.length ≤ 7) (hb7 : xb.length ≤ 7) (hd7 : xd.length ≤ 14) (hpar : Int.fmod (i : Int) 2 = 1) (hE : PassesOwn (model PySem.Challenge.rw_eu0026_01.row.prog w) (lawA L fa cd) (lawEnv L fa cd) E)
   (c5 : LCg.Off1 (L+1+1+1+1+1) [(I, o), (rw, o), (ra, o), (rb, o), (du, o), (td, o), (sh, o), (L+1+1+1+1+1+1+1, o), (L+1+1+1+1+1+1, o), (L+1+1+1, o)])
   (c6 : LCg.Off1 (L+1+1+1+1+1+1) [(I, o), (rw, o), (ra, o), (rb, o), (du, o), (td, o), (sh, o), (L+1+1+1+1+1+1+1, o), (L+1+1+1+1+1, o), (L+1+1+1, o)])
   (c7 : LCg.Off1 (L+1+1+1+1+1+1+1) [(I, o), (rw, o), (ra, o), (rb, o), (du, o), (td, o), (sh, o), (L+1+1+1+1+1+1, o), (L+1+1+1+1+1, o), (L+1+1+1, o)])
   (cd' : LCg.Off1 du [(I, o), (rw, o), (ra, o), (rb, o), (td, o), (sh, o), (L+1+1+1+1+1+1+1, o), (L+1+1+1+1+1+1, o), (L+1+1+1+1+1, o), (L+1+1+1, o)])
   (cI : LCg.Off1 I [(rw, o), (ra, o), (rb, o), (du, o), (td, o), (sh, o), (L+1+1+1+1+1+1+1, o), (L+1+1+1+1+1+1, o), (L+1+1+1+1+1, o), (L+1+1+1, o)])
   (k : ∀ (hh : Heap) (tk : Nat) (u : Str → Option Value) (rw' ra' rb' : Addr) (va' vb' vd' : List Value) (nd' : Nat) (o5' o6' o7' : Obj) (v6' v7' : Option Value), Fr h₀ L hh (fun y => if y = Str.ofString "due" then some (.ref du) else if y = Str.ofString "told" then some (.ref td) else u y) → News h₀ L hh [(I, o), (rw', listOf #[.ref ra', .ref rb'] 2), (ra', listOf (List.toArray va') 0), (rb', listOf (List.toArray vb') 0), (du, listOf (List.toArray vd') nd'), (td, listOf vt.toArray nt), (sh, listOf vsh.toArray nsh), (L+1+1+1+1+1+1+1, o7'), (L+1+1+1+1+1+1, o6'), (L+1+1+1+1+1, o5'), (L+1+1+1, o3)] →
     o5'.data = .cell (some (.ref rw')) → o6'.data = .cell v6' → o7'.data = .cell v7' → IntsAre va' (xa.drop (xa.idxOf x + 1)) → IntsAre vb' (xb.drop (xb.idxOf x + 1)) → IntsAre vd' (xd ++ xb.take (xb.idxOf x) ++ xa.take (xa.idxOf x) ++ [x]) →
     LCg.Off1 (L+1+1+1+1+1) [(I, o), (rw', o), (ra', o), (rb', o), (du, o), (td, o), (sh, o), (L+1+1+1+1+1+1+1, o), (L+1+1+1+1+1+1, o), (L+1+1+1, o)] → LCg.Off1 (L+1+1+1+1+1+1) [(I, o), (rw', o), (ra', o), (rb', o), (du, o), (td, o), (sh, o), (L+1+1+1+1+1+1+1, o), (L+1+1+1+1+1, o), (L+1+1+1, o)] → LCg.Off1 (L+1+1+1+1+1+1+1) [(I, o), (rw', o), (ra', o), (rb', o), (du, o), (td, o), (sh, o), (L+1+1+1+1+1+1, o), (L+1+1+1+1+1, o), (L+1+1+1, o)] → LCg.Off1 du [(I, o), (rw', o), (ra', o), (rb', o), (td, o), (sh, o), (L+1+1+1+1+1+1+1, o), (L+1+1+1+1+1+1, o), (L+1+1+1+1+1, o), (L+1+1+1, o)] → LCg.Off1 I [(rw', o), (ra', o), (rb', o), (du, o), (td, o), (sh, o), (L+1+1+1+1+1+1+1, o), (L+1+1+1+1+1+1, o), (L+1+1+1+1+1, o), (L+1+1+1, o)] →
     Q .next { s with heap := hh, toks := tk })
   : wpAny (model PySem.Challenge.rw_eu0026_01.row.prog w) (lawA L fa cd) (assign lawFor.1 (lawEnv L fa cd) (.int (i : Int) t)) (fun _ s₁ => wpAny (model PySem.Challenge.rw_eu0026_01.row.prog w) (lawA L fa cd) (execs lawFor.2.2 (lawEnv L fa cd)) Q E s₁) E s := by
  w_top off
  k_with_none
  have zz := k
  clear k
  revert X
  k_fill
  intro X
  delta lawFor lawTl lawA lawEnv lawFn PySem.Challenge.pw_eu0026_01
  dsimp only [List.drop]
  k_steps
  delta StopHere
  rename_i hA o6a F1 N1 d6a
  refine comp_cuts F1 N1 (by rfl) (by with_unfolding_all rfl) (by decide) (by rfl) (by decide) (by rfl) (by rfl) (by rfl) (fun _ => rfl) (fun _ => rfl) (fun _ => rfl) (by decide) (by decide) (by decide) (by k_mem) d3 (by k_mem) his hsx (by omega) (by k_mem) d6a (by k_mem) (by k_mem) (by k_mem) hia hib hxa hxb (by omega) (by omega) (fun Q' hQ' => nameX_C N1 (by rfl) (by k_mem) d5 hQ' (by rfl) (by rfl)) ?_ (fun _ => rfl) (fun _ => rfl) (by rfl) (fun _ => rfl)
  intro cu ys1 hB tk1 F2 N2 off1 hI1
  clear F1 N1
  k_steps
  delta StopHere
  rename_i hC o7a F3 N3 d7a
  refine wpAny_execs_cons ?_
  refine for_ints (h₀ := h₀) (ns := [1, 0]) (fun i' m' nx => ∃ (u : Str → Option Value) (vd' : List Value) (nd' : Nat), m' = (fun y => if y = Str.ofString "due" then some (.ref du) else if y = Str.ofString "told" then some (.ref td) else u y) ∧ nx = [(cu, listOf (List.toArray ys1) ys1.length), (I, o), (rw, listOf #[.ref ra, .ref rb] nw), (ra, listOf va.toArray na), (rb, listOf vb.toArray nb), (du, listOf (List.toArray vd') nd'), (td, listOf vt.toArray nt), (sh, listOf vsh.toArray nsh), (L+1+1+1+1+1+1+1, o7a), (L+1+1+1+1+1+1, o6a), (L+1+1+1+1+1, o5), (L+1+1+1, o3)] ∧ IntsAre vd' (xd ++ (match i' with | 0 => [] | 1 => xb.take (xb.idxOf x) | _ => xb.take (xb.idxOf x) ++ xa.take (xa.idxOf x)))) (by rfl) (by rfl) (by rfl) ?_ ?_ ?_ ?_
  · clear zz
    k_steps
    rename_i l2 hD F4 N4 l1
    refine ⟨l2, [.int 1 _, .int 0 _], 0, _, _, _, _, rfl, rfl, .cons _ _ (.cons _ _ .nil), F4, N4, ?_, m, vd, nd, rfl, rfl, by simpa using hid⟩
    simp only [LCg.Off1, and_true]
    refine ⟨?_, ?_, ?_, ?_, ?_, ?_, ?_, ?_, ?_, ?_, ?_, ?_⟩ <;> (refine neN ?_; omega)
  · intro i' kk tt m₁ nx l2 I2 ol2 oI2 hD tkD hk hJ F4 N4 offI offl nlI
    clear zz
    obtain ⟨u, vd', nd', rfl, rfl, hvd⟩ := hJ
    match i', hk, hvd with
    | 0, hk, hvd =>
      have hk' : kk = 1 := (Option.some.inj hk).symm
      subst hk'
      have hvd0 : IntsAre vd' xd := by simpa using hvd
      refine turn1 (s := { s with heap := hD, toks := tkD }) (xd := xd) X T B F4 N4 d5 d7a hI1 hia hib hvd0 ha7 hb7 (by omega) offI offl off1 cd' fun hh tk vd2 nd2 F5 N5 I5 => ?_
      exact ⟨_, _, _, _, rfl, fr_pick (x := Str.ofString "due") (fr_pick (x := Str.ofString "told") F5 rfl) rfl, N5, offI, offl, _, vd2, nd2, rfl, rfl, I5⟩
    | 1, hk, hvd =>
      have hk' : kk = 0 := (Option.some.inj hk).symm
      subst hk'
      refine turn0 (s := { s with heap := hD, toks := tkD }) (xd := xd ++ xb.take (xb.idxOf x)) X T B F4 N4 d5 d7a hI1 hia hib hvd ha7 hb7 (by rw [List.length_append, List.length_take]; omega) offI offl off1 cd' fun hh tk vd2 nd2 F5 N5 I5 => ?_
      exact ⟨_, _, _, _, rfl, fr_pick (x := Str.ofString "due") (fr_pick (x := Str.ofString "told") F5 rfl) rfl, N5, offI, offl, _, vd2, nd2, rfl, rfl, by rw [List.append_assoc] at I5; exact I5⟩
    | i' + 2, hk, _ => exact absurd hk (by simp)
  · intro m₁ nx hD tkD hJ F4 N4
    obtain ⟨u, vd', nd', rfl, rfl, hvd⟩ := hJ
    have hvd2 : IntsAre vd' (xd ++ (xb.take (xb.idxOf x) ++ xa.take (xa.idxOf x))) := hvd
    clear hvd hid
    refine wpAny_execs_nil ?_
    dsimp only
    k_steps
    delta StopHere
    rename_i F5 N5 I5
    refine comp_rows F5 N5 (by rfl) (by with_unfolding_all rfl) (by decide) (by rfl) (by decide) (by rfl) (by rfl) (by rfl) (fun _ => rfl) (fun _ => rfl) (fun _ => rfl) (by decide) (by decide) (by decide) (by k_mem) d5 (by k_mem) (by k_mem) d7a (by k_mem) hI1 (by k_mem) (by k_mem) hia hib (by omega) (by omega) ?_ ?_ (fun _ => rfl)
    · clear zz
      k_steps
    · intro D2 R1 R2 v1 v2 hG tkG F6 N6 ne2 ne1 offD lR l6 hJ1 hJ2
      clear F5 N5
      k_lt l6
      k_steps
      rename_i hH o5b F7 N7 d5b
      refine zz _ _ _ D2 R1 R2 v1 v2 _ _ o5b o6a o7a _ _ F7 (pickL N7) d5b d6a d7a hJ1 hJ2 (by simpa only [List.append_assoc] using I5) ?_ ?_ ?_ ?_ ?_ <;> (simp only [LCg.Off1, and_true]; refine ⟨?_, ?_, ?_, ?_, ?_, ?_, ?_, ?_, ?_, ?_⟩ <;> k_ne)
  · passes_own
end Mine
end

section
set_option maxRecDepth 100000
namespace Mine
open PySem PySem.W PySem.Spec PySem.Calls PyProof.Rows
local macro_rules | `(tactic| k_ne) => `(tactic| (refine neN ?_; (try dsimp only); first | (with_reducible assumption) | (refine Ne.symm ?_; with_reducible assumption) | (k_dflt (refine off1_find (by with_reducible assumption) ?_; k_mem)) | (k_dflt (refine Ne.symm (off1_find (by with_reducible assumption) ?_); k_mem))))
local macro_rules | `(tactic| walk_at "binaryOp Mod int int") => `(tactic| (k_here; k_dflt (refine' mod_x ?h ?b ?_; (case h => assumption); (case b => decide))))
local macro_rules | `(tactic| walk_at "call builtin:list.extend") => `(tactic| (k_here; (with_reducible show wpAny _ _ (call (Value.builtin _) [Value.ref _, Value.ref _]) _ _ _); k_dflt (refine' ext_I ?F ?N ?b ?U ?i ?j ?z ?_; (case F => k_asm); (case N => k_asm); (case b => k_mem); (case U => k_updF); (case i => assumption); (case j => assumption); (case z => ((try simp only [List.length_append, List.length_take, List.length_drop, List.length_cons, List.length_nil]); omega))); intro hX vX cX FX NX IX; (try dsimp only at NX); (try k_sweep)))
local macro_rules | `(tactic| walk_at "call builtin:list.append") => `(tactic| (k_here; (with_reducible show wpAny _ _ (call (Value.builtin _) [Value.ref _, Value.int _ _]) _ _ _); k_dflt (refine' app_I ?F ?N ?U ?i ?z ?_; (case F => k_asm); (case N => k_asm); (case U => k_updF); (case i => assumption); (case z => ((try simp only [List.length_append, List.length_take, List.length_drop, List.length_cons, List.length_nil]); omega))); intro hX vX cX FX NX IX; (try dsimp only at NX); (try k_sweep)))
local macro_rules | `(tactic| walk_at "subscriptTail Name Name ref int") => `(tactic| (k_here; (with_reducible show wpAny _ _ (subscriptTail (PySem.Expr.Name (Str.ofString "shared") _) _ _ _) _ _ _); k_dflt (refine' item_x ?l ?i ?x ?n ?_ ?s; (case l => kmk_list); (case i => assumption); (case x => assumption); (case n => omega); (case s => with_unfolding_all rfl)); intro t'))
local macro_rules | `(tactic| walk_at "subscriptTail Name Name ref int") => `(tactic| (k_here; (with_reducible show wpAny _ _ (subscriptTail (PySem.Expr.Name (Str.ofString "cuts") _) _ _ _) _ _ _); k_dflt (refine' item_lit ?l ?i ?k ?x ?_ ?s; (case l => kmk_list); (case i => assumption); (case k => exact ⟨by decide, by decide⟩); (case x => exact rfl); (case s => with_unfolding_all rfl)); intro t'))
local macro_rules | `(tactic| walk_at "subscriptTail Subscript Slice ref ref") => `(tactic| (k_here; (with_reducible show wpAny _ _ (subscriptTail _ (PySem.Expr.Slice _ _ none _) (Value.ref _) (Value.ref _)) _ _ _); k_dflt (refine' slice_R ?F ?N ?m ?p ?q ?i ?j ?z ?_ ?s; (case F => k_asm); (case N => k_asm); (case m => k_mem); (case p => kmk_part); (case q => kmk_part); (case i => assumption); (case j => first | exact kmk_from (by assumption) (by omega) | exact kmk_upto (by assumption) (by omega)); (case z => omega); (case s => with_unfolding_all rfl)); intro D' ws' h' F' N' l1 hI'; (try k_lt l1); (try k_sweep)))
local macro_rules | `(tactic| walk_at "execs cons") => `(tactic| ((with_reducible show wpAny _ _ (execs (Stmt.For _ _ _ _ _ :: _) _) _ _ _); refine stopHere ?_))
local macro_rules | `(tactic| walk_at "compareOp Eq ref ref") => `(tactic| (k_here; (with_reducible show wpAny _ _ (compareOp CmpOp.Eq (Value.ref _) (Value.ref _)) _ _ _); k_dflt (refine' eq_same_ints ?a ?b ?i ?j ?e ?u ?_; (case a => kmk_list); (case b => kmk_list); (case i => assumption); (case j => assumption); (case e => assumption); (case u => ke_room))))
set_option maxHeartbeats 400000 in
theorem turnE0 {w : World} {h₀ : Heap} {L fa : Addr} {cd : Value} {mg mb m : Str → Option Value} {loose : List Str} {mean : ExcName → Option Value} {s : Shared} {Q : Flow → Shared → Prop} {E : Value → Shared → Prop}
   {I2 l2 rw ra rb du td sh : Addr} {va vb vd vt vsh : List Value} {xa xb xd : List Int} {nw na nb nd nt nsh : Nat} {t : Tok} {oI2 ol2 o o3 o5 o6 o7 : Obj}
   (X : (hd.heap_39 w.params).In h₀) (T : Top hd.view_39 loose mean mg mb h₀) (B : Below callerA h₀ [] h₀) (F : Fr h₀ L s.heap (fun y => if y = Str.ofString "j" then some (.int 0 t) else if y = Str.ofString "due" then some (.ref du) else if y = Str.ofString "told" then some (.ref td) else m y))
   (N : News h₀ L s.heap [(I2, oI2), (l2, ol2), (rw, listOf #[.ref ra, .ref rb] nw), (ra, listOf va.toArray na), (rb, listOf vb.toArray nb), (du, listOf vd.toArray nd), (td, listOf vt.toArray nt), (sh, listOf vsh.toArray nsh), (L+1+1+1+1+1+1+1, o7), (L+1+1+1+1+1+1, o6), (L+1+1+1+1+1, o5), (L+1+1+1, o3)])
   (d5 : o5.data = .cell (some (.ref rw)))
   (hia : IntsAre va xa) (hib : IntsAre vb xb) (hid : IntsAre vd xd) (ha7 : xa.length ≤ 7) (hb7 : xb.length ≤ 7) (hd7 : xd.length ≤ 30)
   (cI : LCg.Off1 I2 [(rw, o), (ra, o), (rb, o), (du, o), (td, o), (sh, o), (L+1+1+1+1+1+1+1, o), (L+1+1+1+1+1+1, o), (L+1+1+1+1+1, o), (L+1+1+1, o)])
   (cl : LCg.Off1 l2 [(rw, o), (ra, o), (rb, o), (du, o), (td, o), (sh, o), (L+1+1+1+1+1+1+1, o), (L+1+1+1+1+1+1, o), (L+1+1+1+1+1, o), (L+1+1+1, o)])
   (cd' : LCg.Off1 du [(rw, o), (ra, o), (rb, o), (td, o), (sh, o), (L+1+1+1+1+1+1+1, o), (L+1+1+1+1+1+1, o), (L+1+1+1+1+1, o), (L+1+1+1, o)])
   (k : ∀ hh tk vd' nd', Fr h₀ L hh (fun y => if y = Str.ofString "j" then some (.int 0 t) else if y = Str.ofString "due" then some (.ref du) else if y = Str.ofString "told" then some (.ref td) else m y) → News h₀ L hh [(I2, oI2), (l2, ol2), (rw, listOf #[.ref ra, .ref rb] nw), (ra, listOf va.toArray na), (rb, listOf vb.toArray nb), (du, listOf (List.toArray vd') nd'), (td, listOf vt.toArray nt), (sh, listOf vsh.toArray nsh), (L+1+1+1+1+1+1+1, o7), (L+1+1+1+1+1+1, o6), (L+1+1+1+1+1, o5), (L+1+1+1, o3)] → IntsAre vd' (xd ++ xa) → Q .next { s with heap := hh, toks := tk })
   : wpAny (model PySem.Challenge.rw_eu0026_01.row.prog w) (lawA L fa cd) (execs lawEnd.2.2 (lawEnv L fa cd)) Q E s := by
  w_top off
  k_with_none
  have zz := k
  clear k
  revert X
  k_fill
  intro X
  delta lawEnd lawTl lawA lawEnv lawFn PySem.Challenge.pw_eu0026_01
  dsimp only [List.drop]
  k_steps
  rename_i F1 N1 I1
  exact zz _ _ _ _ F1 N1 I1
set_option maxHeartbeats 400000 in
theorem turnE1 {w : World} {h₀ : Heap} {L fa : Addr} {cd : Value} {mg mb m : Str → Option Value} {loose : List Str} {mean : ExcName → Option Value} {s : Shared} {Q : Flow → Shared → Prop} {E : Value → Shared → Prop}
   {I2 l2 rw ra rb du td sh : Addr} {va vb vd vt vsh : List Value} {xa xb xd : List Int} {nw na nb nd nt nsh : Nat} {t : Tok} {oI2 ol2 o o3 o5 o6 o7 : Obj}
   (X : (hd.heap_39 w.params).In h₀) (T : Top hd.view_39 loose mean mg mb h₀) (B : Below callerA h₀ [] h₀) (F : Fr h₀ L s.heap (fun y => if y = Str.ofString "j" then some (.int 1 t) else if y = Str.ofString "due" then some (.ref du) else if y = Str.ofString "told" then some (.ref td) else m y))
   (N : News h₀ L s.heap [(I2, oI2), (l2, ol2), (rw, listOf #[.ref ra, .ref rb] nw), (ra, listOf va.toArray na), (rb, listOf vb.toArray nb), (du, listOf vd.toArray nd), (td, listOf vt.toArray nt), (sh, listOf vsh.toArray nsh), (L+1+1+1+1+1+1+1, o7), (L+1+1+1+1+1+1, o6), (L+1+1+1+1+1, o5), (L+1+1+1, o3)])
   (d5 : o5.data = .cell (some (.ref rw)))
   (hia : IntsAre va xa) (hib : IntsAre vb xb) (hid : IntsAre vd xd) (ha7 : xa.length ≤ 7) (hb7 : xb.length ≤ 7) (hd7 : xd.length ≤ 30)
   (cI : LCg.Off1 I2 [(rw, o), (ra, o), (rb, o), (du, o), (td, o), (sh, o), (L+1+1+1+1+1+1+1, o), (L+1+1+1+1+1+1, o), (L+1+1+1+1+1, o), (L+1+1+1, o)])
   (cl : LCg.Off1 l2 [(rw, o), (ra, o), (rb, o), (du, o), (td, o), (sh, o), (L+1+1+1+1+1+1+1, o), (L+1+1+1+1+1+1, o), (L+1+1+1+1+1, o), (L+1+1+1, o)])
   (cd' : LCg.Off1 du [(rw, o), (ra, o), (rb, o), (td, o), (sh, o), (L+1+1+1+1+1+1+1, o), (L+1+1+1+1+1+1, o), (L+1+1+1+1+1, o), (L+1+1+1, o)])
   (k : ∀ hh tk vd' nd', Fr h₀ L hh (fun y => if y = Str.ofString "j" then some (.int 1 t) else if y = Str.ofString "due" then some (.ref du) else if y = Str.ofString "told" then some (.ref td) else m y) → News h₀ L hh [(I2, oI2), (l2, ol2), (rw, listOf #[.ref ra, .ref rb] nw), (ra, listOf va.toArray na), (rb, listOf vb.toArray nb), (du, listOf (List.toArray vd') nd'), (td, listOf vt.toArray nt), (sh, listOf vsh.toArray nsh), (L+1+1+1+1+1+1+1, o7), (L+1+1+1+1+1+1, o6), (L+1+1+1+1+1, o5), (L+1+1+1, o3)] → IntsAre vd' (xd ++ xb) → Q .next { s with heap := hh, toks := tk })
   : wpAny (model PySem.Challenge.rw_eu0026_01.row.prog w) (lawA L fa cd) (execs lawEnd.2.2 (lawEnv L fa cd)) Q E s := by
  w_top off
  k_with_none
  have zz := k
  clear k
  revert X
  k_fill
  intro X
  delta lawEnd lawTl lawA lawEnv lawFn PySem.Challenge.pw_eu0026_01
  dsimp only [List.drop]
  k_steps
  rename_i F1 N1 I1
  exact zz _ _ _ _ F1 N1 I1
local macro_rules | `(tactic| walk_at "binaryOp Sub int int") => `(tactic| (k_here; k_dflt (refine' sub_x (c := 1) ?h ?_; (case h => decide))))
set_option maxHeartbeats 1000000 in
theorem segE0 {w : World} {h₀ : Heap} {L fa : Addr} {cd : Value} {mg mb m : Str → Option Value} {loose : List Str} {mean : ExcName → Option Value} {s : Shared} {Q : Flow → Shared → Prop} {E : Value → Shared → Prop}
   {rw ra rb du td sh : Addr} {va vb vd vt vsh : List Value} {xa xb xd xsh D0 : List Int} {nw na nb nd nt nsh : Nat} {o o3 o5 o6 o7 : Obj}
   (X : (hd.heap_39 w.params).In h₀) (T : Top hd.view_39 loose mean mg mb h₀) (B : Below callerA h₀ [] h₀) (F : Fr h₀ L s.heap (fun y => if y = Str.ofString "due" then some (.ref du) else if y = Str.ofString "told" then some (.ref td) else m y))
   (N : News h₀ L s.heap [(rw, listOf #[.ref ra, .ref rb] nw), (ra, listOf va.toArray na), (rb, listOf vb.toArray nb), (du, listOf vd.toArray nd), (td, listOf vt.toArray nt), (sh, listOf vsh.toArray nsh), (L+1+1+1+1+1+1+1, o7), (L+1+1+1+1+1+1, o6), (L+1+1+1+1+1, o5), (L+1+1+1, o3)])
   (d3 : o3.data = .cell (some (.ref sh))) (d5 : o5.data = .cell (some (.ref rw)))
   (hia : IntsAre va xa) (hib : IntsAre vb xb) (hid : IntsAre vd xd) (his : IntsAre vsh xsh) (hit : IntsAre vt D0) (hD : D0 = xd ++ xa ++ xb)
   (ha7 : xa.length ≤ 7) (hb7 : xb.length ≤ 7) (hd7 : xd.length ≤ 14) (hs7 : xsh.length ≤ 7) (hpar : Int.fmod ((xsh.length : Nat) : Int) 2 = 0) (hE : PassesOwn (model PySem.Challenge.rw_eu0026_01.row.prog w) (lawA L fa cd) (lawEnv L fa cd) E)
   (cd' : LCg.Off1 du [(rw, o), (ra, o), (rb, o), (td, o), (sh, o), (L+1+1+1+1+1+1+1, o), (L+1+1+1+1+1+1, o), (L+1+1+1+1+1, o), (L+1+1+1, o)])
   (hQ : ∀ hh tk m', Fr h₀ L hh m' → Q (.ret (.bool true)) { s with heap := hh, toks := tk })
   : wpAny (model PySem.Challenge.rw_eu0026_01.row.prog w) (lawA L fa cd) (execs (lawTl 12) (lawEnv L fa cd)) Q E s := by
  w_top off
  k_with_none
  have zz := hQ
  clear hQ
  revert X
  k_fill
  intro X
  delta lawTl lawA lawEnv lawFn PySem.Challenge.pw_eu0026_01
  dsimp only [List.drop]
  refine wpAny_execs_cons ?_
  refine for_ints (h₀ := h₀) (ns := [0, 1]) (fun i' m' nx => ∃ (u : Str → Option Value) (vd' : List Value) (nd' : Nat), m' = (fun y => if y = Str.ofString "due" then some (.ref du) else if y = Str.ofString "told" then some (.ref td) else u y) ∧ nx = [(rw, listOf #[.ref ra, .ref rb] nw), (ra, listOf va.toArray na), (rb, listOf vb.toArray nb), (du, listOf (List.toArray vd') nd'), (td, listOf vt.toArray nt), (sh, listOf vsh.toArray nsh), (L+1+1+1+1+1+1+1, o7), (L+1+1+1+1+1+1, o6), (L+1+1+1+1+1, o5), (L+1+1+1, o3)] ∧ IntsAre vd' (xd ++ (match i' with | 0 => [] | 1 => xa | _ => xa ++ xb))) (by rfl) (by rfl) (by rfl) ?_ ?_ ?_ ?_
  · clear zz
    k_steps
    rename_i l2 hD F4 N4 l1
    refine ⟨l2, [.int 0 _, .int 1 _], 0, _, _, _, _, rfl, rfl, .cons _ _ (.cons _ _ .nil), F4, N4, ?_, m, vd, nd, rfl, rfl, by simpa using hid⟩
    simp only [LCg.Off1, and_true]
    refine ⟨?_, ?_, ?_, ?_, ?_, ?_, ?_, ?_, ?_, ?_⟩ <;> (refine neN ?_; omega)
  · intro i' kk tt m₁ nx l2 I2 ol2 oI2 hD' tkD hk hJ F4 N4 offI offl nlI
    clear zz
    obtain ⟨u, vd', nd', rfl, rfl, hvd⟩ := hJ
    match i', hk, hvd with
    | 0, hk, hvd =>
      have hk' : kk = 0 := (Option.some.inj hk).symm
      subst hk'
      have hvd0 : IntsAre vd' xd := by simpa using hvd
      refine turnE0 (s := { s with heap := hD', toks := tkD }) (xd := xd) X T B F4 N4 d5 hia hib hvd0 ha7 hb7 (by omega) offI offl cd' fun hh tk vd2 nd2 F5 N5 I5 => ?_
      exact ⟨_, _, _, _, rfl, fr_pick (x := Str.ofString "due") (fr_pick (x := Str.ofString "told") F5 rfl) rfl, N5, offI, offl, _, vd2, nd2, rfl, rfl, I5⟩
    | 1, hk, hvd =>
      have hk' : kk = 1 := (Option.some.inj hk).symm
      subst hk'
      refine turnE1 (s := { s with heap := hD', toks := tkD }) (xd := xd ++ xa) X T B F4 N4 d5 hia hib hvd ha7 hb7 (by rw [List.length_append]; omega) offI offl cd' fun hh tk vd2 nd2 F5 N5 I5 => ?_
      exact ⟨_, _, _, _, rfl, fr_pick (x := Str.ofString "due") (fr_pick (x := Str.ofString "told") F5 rfl) rfl, N5, offI, offl, _, vd2, nd2, rfl, rfl, by rw [List.append_assoc] at I5; exact I5⟩
    | i' + 2, hk, _ => exact absurd hk (by simp)
  · intro m₁ nx hD' tkD hJ F4 N4
    obtain ⟨u, vd', nd', rfl, rfl, hvd⟩ := hJ
    have hvd2 : IntsAre vd' (xd ++ (xa ++ xb)) := hvd
    rw [← List.append_assoc] at hvd2
    clear hvd hid
    refine wpAny_execs_nil ?_
    dsimp only
    k_steps
    exact zz _ _ _ F4
  · passes_own
local macro_rules | `(tactic| walk_at "binaryOp Sub int int") => `(tactic| (k_here; k_dflt (refine' sub_x (c := 0) ?h ?_; (case h => decide))))
set_option maxHeartbeats 1000000 in
theorem segE1 {w : World} {h₀ : Heap} {L fa : Addr} {cd : Value} {mg mb m : Str → Option Value} {loose : List Str} {mean : ExcName → Option Value} {s : Shared} {Q : Flow → Shared → Prop} {E : Value → Shared → Prop}
   {rw ra rb du td sh : Addr} {va vb vd vt vsh : List Value} {xa xb xd xsh D0 : List Int} {nw na nb nd nt nsh : Nat} {o o3 o5 o6 o7 : Obj}
   (X : (hd.heap_39 w.params).In h₀) (T : Top hd.view_39 loose mean mg mb h₀) (B : Below callerA h₀ [] h₀) (F : Fr h₀ L s.heap (fun y => if y = Str.ofString "due" then some (.ref du) else if y = Str.ofString "told" then some (.ref td) else m y))
   (N : News h₀ L s.heap [(rw, listOf #[.ref ra, .ref rb] nw), (ra, listOf va.toArray na), (rb, listOf vb.toArray nb), (du, listOf vd.toArray nd), (td, listOf vt.toArray nt), (sh, listOf vsh.toArray nsh), (L+1+1+1+1+1+1+1, o7), (L+1+1+1+1+1+1, o6), (L+1+1+1+1+1, o5), (L+1+1+1, o3)])
   (d3 : o3.data = .cell (some (.ref sh))) (d5 : o5.data = .cell (some (.ref rw)))
   (hia : IntsAre va xa) (hib : IntsAre vb xb) (hid : IntsAre vd xd) (his : IntsAre vsh xsh) (hit : IntsAre vt D0) (hD : D0 = xd ++ xb ++ xa)
   (ha7 : xa.length ≤ 7) (hb7 : xb.length ≤ 7) (hd7 : xd.length ≤ 14) (hs7 : xsh.length ≤ 7) (hpar : Int.fmod ((xsh.length : Nat) : Int) 2 = 1) (hE : PassesOwn (model PySem.Challenge.rw_eu0026_01.row.prog w) (lawA L fa cd) (lawEnv L fa cd) E)
   (cd' : LCg.Off1 du [(rw, o), (ra, o), (rb, o), (td, o), (sh, o), (L+1+1+1+1+1+1+1, o), (L+1+1+1+1+1+1, o), (L+1+1+1+1+1, o), (L+1+1+1, o)])
   (hQ : ∀ hh tk m', Fr h₀ L hh m' → Q (.ret (.bool true)) { s with heap := hh, toks := tk })
   : wpAny (model PySem.Challenge.rw_eu0026_01.row.prog w) (lawA L fa cd) (execs (lawTl 12) (lawEnv L fa cd)) Q E s := by
  w_top off
  k_with_none
  have zz := hQ
  clear hQ
  revert X
  k_fill
  intro X
  delta lawTl lawA lawEnv lawFn PySem.Challenge.pw_eu0026_01
  dsimp only [List.drop]
  refine wpAny_execs_cons ?_
  refine for_ints (h₀ := h₀) (ns := [1, 0]) (fun i' m' nx => ∃ (u : Str → Option Value) (vd' : List Value) (nd' : Nat), m' = (fun y => if y = Str.ofString "due" then some (.ref du) else if y = Str.ofString "told" then some (.ref td) else u y) ∧ nx = [(rw, listOf #[.ref ra, .ref rb] nw), (ra, listOf va.toArray na), (rb, listOf vb.toArray nb), (du, listOf (List.toArray vd') nd'), (td, listOf vt.toArray nt), (sh, listOf vsh.toArray nsh), (L+1+1+1+1+1+1+1, o7), (L+1+1+1+1+1+1, o6), (L+1+1+1+1+1, o5), (L+1+1+1, o3)] ∧ IntsAre vd' (xd ++ (match i' with | 0 => [] | 1 => xb | _ => xb ++ xa))) (by rfl) (by rfl) (by rfl) ?_ ?_ ?_ ?_
  · clear zz
    k_steps
    rename_i l2 hD F4 N4 l1
    refine ⟨l2, [.int 1 _, .int 0 _], 0, _, _, _, _, rfl, rfl, .cons _ _ (.cons _ _ .nil), F4, N4, ?_, m, vd, nd, rfl, rfl, by simpa using hid⟩
    simp only [LCg.Off1, and_true]
    refine ⟨?_, ?_, ?_, ?_, ?_, ?_, ?_, ?_, ?_, ?_⟩ <;> (refine neN ?_; omega)
  · intro i' kk tt m₁ nx l2 I2 ol2 oI2 hD' tkD hk hJ F4 N4 offI offl nlI
    clear zz
    obtain ⟨u, vd', nd', rfl, rfl, hvd⟩ := hJ
    match i', hk, hvd with
    | 0, hk, hvd =>
      have hk' : kk = 1 := (Option.some.inj hk).symm
      subst hk'
      have hvd0 : IntsAre vd' xd := by simpa using hvd
      refine turnE1 (s := { s with heap := hD', toks := tkD }) (xd := xd) X T B F4 N4 d5 hia hib hvd0 ha7 hb7 (by omega) offI offl cd' fun hh tk vd2 nd2 F5 N5 I5 => ?_
      exact ⟨_, _, _, _, rfl, fr_pick (x := Str.ofString "due") (fr_pick (x := Str.ofString "told") F5 rfl) rfl, N5, offI, offl, _, vd2, nd2, rfl, rfl, I5⟩
    | 1, hk, hvd =>
      have hk' : kk = 0 := (Option.some.inj hk).symm
      subst hk'
      refine turnE0 (s := { s with heap := hD', toks := tkD }) (xd := xd ++ xb) X T B F4 N4 d5 hia hib hvd ha7 hb7 (by rw [List.length_append]; omega) offI offl cd' fun hh tk vd2 nd2 F5 N5 I5 => ?_
      exact ⟨_, _, _, _, rfl, fr_pick (x := Str.ofString "due") (fr_pick (x := Str.ofString "told") F5 rfl) rfl, N5, offI, offl, _, vd2, nd2, rfl, rfl, by rw [List.append_assoc] at I5; exact I5⟩
    | i' + 2, hk, _ => exact absurd hk (by simp)
  · intro m₁ nx hD' tkD hJ F4 N4
    obtain ⟨u, vd', nd', rfl, rfl, hvd⟩ := hJ
    have hvd2 : IntsAre vd' (xd ++ (xb ++ xa)) := hvd
    rw [← List.append_assoc] at hvd2
    clear hvd hid
    refine wpAny_execs_nil ?_
    dsimp only
    k_steps
    exact zz _ _ _ F4
  · passes_own
end Mine
end

section
set_option maxRecDepth 100000
namespace Mine
open PySem PySem.W PySem.Spec PySem.Calls PyProof.Rows
theorem small7 : ∀ n : Nat, n ≤ 7 → Builtin.Range.small 0 (n : Int) 1 = true := by decide
local macro_rules | `(tactic| k_ne) => `(tactic| (refine neN ?_; (try dsimp only); first | (with_reducible assumption) | (refine Ne.symm ?_; with_reducible assumption) | (k_dflt (refine off1_find (by with_reducible assumption) ?_; k_mem)) | (k_dflt (refine Ne.symm (off1_find (by with_reducible assumption) ?_); k_mem))))
local macro_rules | `(tactic| walk_at "execs cons") => `(tactic| ((with_reducible show wpAny _ _ (execs (Stmt.For _ _ _ _ _ :: _) _) _ _ _); refine stopHere ?_))
local macro_rules | `(tactic| walk_at "call type:range") => `(tactic| (refine stopHere ?_))
def LoopJ (L : Addr) (du td sh : Addr) (vt vsh : List Value) (nt nsh : Nat) (o3 : Obj) (xsh D0 : List Int) (i : Nat) (m' : Str → Option Value) (nx : List (Addr × Obj)) : Prop :=
  ∃ (u : Str → Option Value) (rw ra rb : Addr) (va vb vd : List Value) (xa xb xd : List Int) (nw na nb nd : Nat) (o5 o6 o7 : Obj) (v6 v7 : Option Value),
    m' = (fun y => if y = Str.ofString "due" then some (.ref du) else if y = Str.ofString "told" then some (.ref td) else u y) ∧ nx = [(rw, listOf #[.ref ra, .ref rb] nw), (ra, listOf va.toArray na), (rb, listOf vb.toArray nb), (du, listOf vd.toArray nd), (td, listOf vt.toArray nt), (sh, listOf vsh.toArray nsh), (L+1+1+1+1+1+1+1, o7), (L+1+1+1+1+1+1, o6), (L+1+1+1+1+1, o5), (L+1+1+1, o3)] ∧
    o5.data = .cell (some (.ref rw)) ∧ o6.data = .cell v6 ∧ o7.data = .cell v7 ∧ IntsAre va xa ∧ IntsAre vb xb ∧ IntsAre vd xd ∧ LoopOk xsh D0 i xa xb xd ∧
    LCg.Off1 (L+1+1+1+1+1) [(rw, o3), (ra, o3), (rb, o3), (du, o3), (td, o3), (sh, o3), (L+1+1+1+1+1+1+1, o3), (L+1+1+1+1+1+1, o3), (L+1+1+1, o3)] ∧ LCg.Off1 (L+1+1+1+1+1+1) [(rw, o3), (ra, o3), (rb, o3), (du, o3), (td, o3), (sh, o3), (L+1+1+1+1+1+1+1, o3), (L+1+1+1+1+1, o3), (L+1+1+1, o3)] ∧ LCg.Off1 (L+1+1+1+1+1+1+1) [(rw, o3), (ra, o3), (rb, o3), (du, o3), (td, o3), (sh, o3), (L+1+1+1+1+1+1, o3), (L+1+1+1+1+1, o3), (L+1+1+1, o3)] ∧ LCg.Off1 (du) [(rw, o3), (ra, o3), (rb, o3), (td, o3), (sh, o3), (L+1+1+1+1+1+1+1, o3), (L+1+1+1+1+1+1, o3), (L+1+1+1+1+1, o3), (L+1+1+1, o3)]
set_option maxHeartbeats 1000000 in
theorem seg10 {w : World} {h₀ : Heap} {L fa : Addr} {cd : Value} {mg mb m : Str → Option Value} {loose : List Str} {mean : ExcName → Option Value} {s : Shared} {Q : Flow → Shared → Prop} {E : Value → Shared → Prop}
   {la lb td sh : Addr} {va vb vt vsh : List Value} {xa xb xsh D0 : List Int} {na nb nt nsh : Nat} {o1 o2 o3 o4 o5 o6 o7 : Obj} {v5 v6 v7 : Option Value}
   (X : (hd.heap_39 w.params).In h₀) (T : Top hd.view_39 loose mean mg mb h₀) (B : Below callerA h₀ [] h₀) (F : Fr h₀ L s.heap (fun y => if y = Str.ofString "told" then some (.ref td) else m y))
   (N : News h₀ L s.heap [(td, listOf vt.toArray nt), (sh, listOf vsh.toArray nsh), (lb, listOf vb.toArray nb), (la, listOf va.toArray na), (L+1+1+1+1+1+1+1, o7), (L+1+1+1+1+1+1, o6), (L+1+1+1+1+1, o5), (L+1+1+1+1, o4), (L+1+1+1, o3), (L+1+1, o2), (L+1, o1)])
   (d1 : o1.data = .cell (some (.ref la))) (d2 : o2.data = .cell (some (.ref lb))) (d3 : o3.data = .cell (some (.ref sh))) (d5 : o5.data = .cell v5) (d6 : o6.data = .cell v6) (d7 : o7.data = .cell v7)
   (hia : IntsAre va xa) (hib : IntsAre vb xb) (his : IntsAre vsh xsh) (hit : IntsAre vt D0) (hok0 : LoopOk xsh D0 0 xa xb []) (hs7 : xsh.length ≤ 7)
   (ca : OffCells L la) (cb : OffCells L lb) (cs : OffCells L sh) (cr : OffCells L td) (hE : PassesOwn (model PySem.Challenge.rw_eu0026_01.row.prog w) (lawA L fa cd) (lawEnv L fa cd) E)
   (hQ : ∀ hh tk m', Fr h₀ L hh m' → Q (.ret (.bool true)) { s with heap := hh, toks := tk })
   : wpAny (model PySem.Challenge.rw_eu0026_01.row.prog w) (lawA L fa cd) (execs (lawTl 10) (lawEnv L fa cd)) Q E s := by
  have c5 : LCg.Off1 (L+1+1+1+1+1) [(td, o3), (sh, o3), (lb, o3), (la, o3), (L+1+1+1+1+1+1+1, o3), (L+1+1+1+1+1+1, o3), (L+1+1+1+1, o3), (L+1+1+1, o3), (L+1+1, o3), (L+1, o3)] := by
    obtain ⟨a7, a6, a5, a4, a3, a2, a1⟩ := ca
    obtain ⟨b7, b6, b5, b4, b3, b2, b1⟩ := cb
    obtain ⟨s7, s6, s5, s4, s3, s2, s1⟩ := cs
    obtain ⟨r7, r6, r5, r4, r3, r2, r1⟩ := cr
    refine ⟨Ne.symm r5, Ne.symm s5, Ne.symm b5, Ne.symm a5, ?_, ?_, ?_, ?_, ?_, ?_, trivial⟩ <;> (refine neN ?_; dsimp only; omega)
  have c6 : LCg.Off1 (L+1+1+1+1+1+1) [(td, o3), (sh, o3), (lb, o3), (la, o3), (L+1+1+1+1+1+1+1, o3), (L+1+1+1+1+1, o3), (L+1+1+1, o3)] := by
    obtain ⟨a7, a6, a5, a4, a3, a2, a1⟩ := ca
    obtain ⟨b7, b6, b5, b4, b3, b2, b1⟩ := cb
    obtain ⟨s7, s6, s5, s4, s3, s2, s1⟩ := cs
    obtain ⟨r7, r6, r5, r4, r3, r2, r1⟩ := cr
    refine ⟨Ne.symm r6, Ne.symm s6, Ne.symm b6, Ne.symm a6, ?_, ?_, ?_, trivial⟩ <;> (refine neN ?_; dsimp only; omega)
  have c7 : LCg.Off1 (L+1+1+1+1+1+1+1) [(td, o3), (sh, o3), (lb, o3), (la, o3), (L+1+1+1+1+1+1, o3), (L+1+1+1+1+1, o3), (L+1+1+1, o3)] := by
    obtain ⟨a7, a6, a5, a4, a3, a2, a1⟩ := ca
    obtain ⟨b7, b6, b5, b4, b3, b2, b1⟩ := cb
    obtain ⟨s7, s6, s5, s4, s3, s2, s1⟩ := cs
    obtain ⟨r7, r6, r5, r4, r3, r2, r1⟩ := cr
    refine ⟨Ne.symm r7, Ne.symm s7, Ne.symm b7, Ne.symm a7, ?_, ?_, ?_, trivial⟩ <;> (refine neN ?_; dsimp only; omega)
  clear ca cb cs cr
  w_top off
  k_with_none
  have zz := hQ
  clear hQ
  revert X
  k_fill
  intro X
  delta lawTl lawA lawEnv lawFn PySem.Challenge.pw_eu0026_01
  dsimp only [List.drop]
  k_steps
  delta StopHere
  rename_i du hA0 l1a rw0 hA1 l1b D9 hA2 l1c hA3 hA4 hA5 o5a F1 N1 d5a
  have Nj : News h₀ L hA5 [(rw0, listOf #[.ref la, .ref lb] 0), (la, listOf va.toArray na), (lb, listOf vb.toArray nb), (du, listOf (List.toArray []) 0), (td, listOf vt.toArray nt), (sh, listOf vsh.toArray nsh), (L+1+1+1+1+1+1+1, o7), (L+1+1+1+1+1+1, o6), (L+1+1+1+1+1, o5a), (L+1+1+1, o3)] := N1.perm fun p hp => by
    simp only [List.mem_cons, List.not_mem_nil, or_false] at hp ⊢
    rcases hp with hp | hp | hp | hp | hp | hp | hp | hp | hp | hp <;> simp only [hp, true_or, or_true]
  have hJ0 : LoopJ L du td sh vt vsh nt nsh o3 xsh D0 0 (fun y => if y = Str.ofString "due" then some (.ref du) else if y = Str.ofString "told" then some (.ref td) else m y) [(rw0, listOf #[.ref la, .ref lb] 0), (la, listOf va.toArray na), (lb, listOf vb.toArray nb), (du, listOf (List.toArray []) 0), (td, listOf vt.toArray nt), (sh, listOf vsh.toArray nsh), (L+1+1+1+1+1+1+1, o7), (L+1+1+1+1+1+1, o6), (L+1+1+1+1+1, o5a), (L+1+1+1, o3)] := by
    refine ⟨m, rw0, la, lb, va, vb, [], xa, xb, [], 0, na, nb, 0, o5a, o6, o7, v6, v7, rfl, rfl, d5a, d6, d7, hia, hib, .nil, hok0, ?_, ?_, ?_, ?_⟩ <;> (refine ⟨?_, ?_, ?_, ?_, ?_, ?_, ?_, ?_, ?_, trivial⟩ <;> k_ne)
  refine wpAny_execs_cons ?_
  refine for_rng (h₀ := h₀) (n := xsh.length) (LoopJ L du td sh vt vsh nt nsh o3 xsh D0) (by rfl) (small7 _ hs7) ?_ ?_ ?_ (by passes_own)
  · clear N1 zz
    k_steps
    delta StopHere
    exact rng_call F1 Nj hJ0 ⟨_, _, rfl⟩
  · intro i t m₁ nx I o hA tkA hlt hJ F4 N4 offI
    obtain ⟨u, rw, ra, rb, va', vb', vd', xa', xb', xd', nw, na', nb', nd', o5b, o6b, o7b, v6b, v7b, rfl, rfl, e5, e6, e7, i1, i2, i3, hok, q5, q6, q7, qd⟩ := hJ
    have hx : xsh[i]? = some xsh[i] := by simp [hlt]
    have hm := hok.mem hx
    have offI' := off1_of offI
    by_cases hp : i % 2 = 0
    · skip
      refine segL0 (s := { s with heap := hA, toks := tkA }) X T B F4 N4 d3 e5 e6 e7 i1 i2 i3 his hm.1 hm.2 hx (by omega) hok.la hok.lb (by have := hok.lt; omega) (fmod0 hp) hE ⟨fun e => offI _ (.tail _ (.tail _ (.tail _ (.tail _ (.tail _ (.tail _ (.tail _ (.tail _ (.head _))))))))) e.symm, q5⟩ ⟨fun e => offI _ (.tail _ (.tail _ (.tail _ (.tail _ (.tail _ (.tail _ (.tail _ (.head _)))))))) e.symm, q6⟩ ⟨fun e => offI _ (.tail _ (.tail _ (.tail _ (.tail _ (.tail _ (.tail _ (.head _))))))) e.symm, q7⟩ ⟨fun e => offI _ (.tail _ (.tail _ (.tail _ (.head _)))) e.symm, qd⟩ offI' ?_
      intro hh tk' u' rw' ra' rb' va' vb' vd' nd' o5' o6' o7' v6' v7' F5 N5 a5 a6 a7 j1 j2 j3 p5 p6 p7 pd pI
      have hn := hok.next hx
      rw [if_pos hp] at hn
      exact ⟨hh, tk', _, _, rfl, F5, N5, off1_mem pI, u', rw', ra', rb', va', vb', vd', _, _, _, 2, 0, 0, nd', o5', o6', o7', v6', v7', rfl, rfl, a5, a6, a7, j1, j2, j3, hn, p5.2, p6.2, p7.2, pd.2⟩
    · skip
      refine segL1 (s := { s with heap := hA, toks := tkA }) X T B F4 N4 d3 e5 e6 e7 i1 i2 i3 his hm.1 hm.2 hx (by omega) hok.la hok.lb (by have := hok.lt; omega) (fmod1 hp) hE ⟨fun e => offI _ (.tail _ (.tail _ (.tail _ (.tail _ (.tail _ (.tail _ (.tail _ (.tail _ (.head _))))))))) e.symm, q5⟩ ⟨fun e => offI _ (.tail _ (.tail _ (.tail _ (.tail _ (.tail _ (.tail _ (.tail _ (.head _)))))))) e.symm, q6⟩ ⟨fun e => offI _ (.tail _ (.tail _ (.tail _ (.tail _ (.tail _ (.tail _ (.head _))))))) e.symm, q7⟩ ⟨fun e => offI _ (.tail _ (.tail _ (.tail _ (.head _)))) e.symm, qd⟩ offI' ?_
      intro hh tk' u' rw' ra' rb' va' vb' vd' nd' o5' o6' o7' v6' v7' F5 N5 a5 a6 a7 j1 j2 j3 p5 p6 p7 pd pI
      have hn := hok.next hx
      rw [if_neg hp] at hn
      exact ⟨hh, tk', _, _, rfl, F5, N5, off1_mem pI, u', rw', ra', rb', va', vb', vd', _, _, _, 2, 0, 0, nd', o5', o6', o7', v6', v7', rfl, rfl, a5, a6, a7, j1, j2, j3, hn, p5.2, p6.2, p7.2, pd.2⟩
  · intro m₁ nx hA tkA hJ F4 N4
    obtain ⟨u, rw, ra, rb, va', vb', vd', xa', xb', xd', nw, na', nb', nd', o5b, o6b, o7b, v6b, v7b, rfl, rfl, e5, e6, e7, i1, i2, i3, hok, q5, q6, q7, qd⟩ := hJ
    refine wpAny_execs_nil ?_
    by_cases hp : xsh.length % 2 = 0
    · skip
      have hd := hok.done
      rw [if_pos hp, if_pos hp] at hd
      exact segE0 (s := { s with heap := hA, toks := tkA }) (o := o3) X T B F4 N4 d3 e5 i1 i2 i3 his hit hd hok.la hok.lb (by have := hok.lt; omega) hs7 (fmod0 hp) hE qd zz
    · skip
      have hd := hok.done
      rw [if_neg hp, if_neg hp] at hd
      exact segE1 (s := { s with heap := hA, toks := tkA }) (o := o3) X T B F4 N4 d3 e5 i1 i2 i3 his hit hd hok.la hok.lb (by have := hok.lt; omega) hs7 (fmod1 hp) hE qd zz
end Mine
end

section
set_option maxRecDepth 100000
namespace Mine
open PySem PySem.W PySem.Spec PySem.Calls PyProof.Rows
local macro_rules | `(tactic| walk_at "call ref") => `(tactic| (k_here; (with_reducible show wpAny _ _ (call (Value.ref 28) _) _ _ _); k_dflt ((with_unfolding_all refine' next_U (next_tells _) ?k1 ?k2 ?k3 ?k4 ?k5 ?k6 ?k7 ?k8 ?k9 ?k10 ?k11 ?k12 ?k13 ?k14 ?k15 ?k16 ?k17 ?k18 ?k19 ?_); (case k1 => k_asm); (case k2 => k_asm); (case k3 => k_asm); (case k4 => k_asm); (case k5 => k_asm); (case k6 => k_updF); (case k7 => k_mem); (case k8 => omega); (case k9 => assumption); (case k10 => (simp only [List.length_take]; omega)); (case k11 => omega); (case k12 => omega); (case k13 => omega); (case k14 => omega); (case k15 => omega); (case k16 => omega); (case k17 => exact rfl); (case k18 => ktr_room); (case k19 => ktr_units)); intro hpN tkN xN iN rN tN tiN trN cN1 cN2 cN3 cN4 cN5 cN6 FN NN; (try dsimp only at NN); (try dsimp only); (try k_sweep); (try k_fold)))
local macro_rules | `(tactic| walk_at "call ref") => `(tactic| (k_here; (with_reducible show wpAny _ _ (call (Value.ref 35) _) _ _ _); k_dflt ((with_unfolding_all refine' row_U (row_tells _ (next_tells _)) ?k1 ?k2 ?k3 ?k4 ?k5 ?k6 ?k7 ?k8 ?k9 ?k10 ?k11 ?k12 ?k13 ?k14 ?k17 ?k18 ?k19 ?_); (case k1 => k_asm); (case k2 => k_asm); (case k3 => k_asm); (case k4 => k_asm); (case k5 => k_asm); (case k6 => k_updF); (case k7 => k_mem); (case k8 => omega); (case k9 => assumption); (case k10 => (simp only [List.length_take]; omega)); (case k11 => omega); (case k12 => omega); (case k13 => omega); (case k14 => omega); (case k17 => exact rfl); (case k18 => ktr_room); (case k19 => ktr_units)); intro hpR tkR raR vsR nsR nrR iR rR tiR trR cR1 cR2 cR3 cR4 lR cR5 cR6 cR7 cR8 FR NR; (try dsimp only at lR); (try k_lt lR); (try dsimp only at NR); (try dsimp only); (try k_sweep); (try k_fold)))
local macro_rules | `(tactic| walk_at "eval ListComp") => `(tactic| (refine stopHere ?_))
local macro_rules | `(tactic| walk_at "exec Assign cons ListComp") => `(tactic| fail "mine")
local macro_rules | `(tactic| walk_at "execs cons") => `(tactic| ((with_reducible show wpAny _ _ (execs (Stmt.Assign [PySem.Expr.Name (Str.ofString "shared") _] _ _ :: _) _) _ _ _); refine stopHere ?_))
theorem pick4 {h₀ h : Heap} {L : Addr} {d2 r2 d1 r1 t a b : Addr × Obj} {cs : List (Addr × Obj)} (N : News h₀ L h (d2 :: r2 :: d1 :: r1 :: t :: a :: b :: cs)) : News h₀ L h (d2 :: d1 :: a :: b :: cs) := N.perm fun p hp => by
  simp only [List.mem_cons] at hp ⊢
  rcases hp with hp | hp | hp | hp | hp <;> simp only [hp, true_or, or_true]
set_option maxHeartbeats 1000000 in
theorem seg0 {w : World} {h₀ : Heap} {L fa : Addr} {cd : Value} {mg mb : Str → Option Value} {loose : List Str} {mean : ExcName → Option Value} {s : Shared} {Q : Flow → Shared → Prop} {E : Value → Shared → Prop}
   {scr : Addr} {vs : List Value} {ns : List Int} {o1 o2 o3 o4 o5 o6 o7 : Obj}
   (X : (hd.heap_39 w.params).In h₀) (T : Top hd.view_39 loose mean mg mb h₀) (B : Below callerA h₀ [] h₀) (F : Fr h₀ L s.heap (fun z => if z = Str.ofString "script" then some (.ref scr) else none))
   (N : News h₀ L s.heap [(L+1+1+1+1+1+1+1, o7), (L+1+1+1+1+1+1, o6), (L+1+1+1+1+1, o5), (L+1+1+1+1, o4), (L+1+1+1, o3), (L+1+1, o2), (L+1, o1)])
   (d1 : o1.data = .cell none) (d2 : o2.data = .cell none) (d3 : o3.data = .cell none) (d4 : o4.data = .cell none) (d5 : o5.data = .cell none) (d6 : o6.data = .cell none) (d7 : o7.data = .cell none)
   (hl : h₀.IsList scr vs.toArray) (hi : IntsAre vs ns) (h63 : ns.length ≤ 63)
   (k : ∀ (hh : Heap) (tk : Nat) (la lb st sc' : Addr) (va vb vs' : List Value) (xa xb ns' : List Int) (na nb n n' : Nat) (i r : Int) (ti tr : Tok) (m : Str → Option Value) (p1 p2 : Obj), Fr h₀ L hh (fun z => if z = Str.ofString "state" then some (.ref st) else m z) →
      News h₀ L hh [(lb, listOf vb.toArray nb), (la, listOf va.toArray na), (st, stO sc' i r ti tr n), (sc', listOf vs'.toArray n'), (L+1+1+1+1+1+1+1, o7), (L+1+1+1+1+1+1, o6), (L+1+1+1+1+1, o5), (L+1+1+1+1, o4), (L+1+1+1, o3), (L+1+1, p2), (L+1, p1)] →
      p1.data = .cell (some (.ref la)) → p2.data = .cell (some (.ref lb)) → IntsAre va xa → IntsAre vb xb → xa.Nodup → xb.Nodup → xa.length ≤ 7 → xb.length ≤ 7 → IntsAre vs' ns' → ns'.length ≤ 40 → 0 ≤ i → i ≤ (ns'.length : Int) → 0 ≤ r → r < 2147483647 →
      (@LT.lt Nat _ (L+1+1+1+1+1+1+1) sc') → (@LT.lt Nat _ sc' st) → (@LT.lt Nat _ st la) → (@LT.lt Nat _ la lb) →
      wpAny (model PySem.Challenge.rw_eu0026_01.row.prog w) (lawA L fa cd) (execs (lawTl 4) (lawEnv L fa cd)) Q E { s with heap := hh, toks := tk })
   : wpAny (model PySem.Challenge.rw_eu0026_01.row.prog w) (lawA L fa cd) (execs (lawTl 0) (lawEnv L fa cd)) Q E s := by
  w_top off
  k_with_none
  revert X
  k_fill
  intro X
  delta lawTl lawA lawEnv lawFn PySem.Challenge.pw_eu0026_01
  dsimp only [List.drop]
  k_steps
  delta StopHere
  rename_i F1 N1 d2'
  refine' k _ _ _ _ _ _ _ _ _ _ _ _ _ _ _ _ _ _ _ _ _ _ _ (fr_pick F1 rfl) (pick4 N1) ?c1 d2' ?c2 ?c3 ?c4 ?c5 ?c6 ?c7 ?c8 ?c9 ?c10 ?c11 ?c12 ?c13 ?c14 ?c15 ?c16 ?c17
  case c1 => assumption
  case c2 => assumption
  case c3 => assumption
  case c8 => assumption
  case c4 => exact List.Nodup.sublist (List.take_sublist _ _) (by assumption)
  case c5 => exact List.Nodup.sublist (List.take_sublist _ _) (by assumption)
  case c6 => rw [List.length_take]; omega
  case c7 => rw [List.length_take]; omega
  case c9 => rw [List.length_take]; omega
  case c10 => assumption
  case c11 => assumption
  case c12 => assumption
  case c13 => assumption
  all_goals first | assumption | omega
end Mine
end

section
set_option maxRecDepth 100000
namespace Mine
open PySem PySem.W PySem.Spec PySem.Calls PyProof.Rows
local macro_rules | `(tactic| walk_at "call ref") => `(tactic| (k_here; (with_reducible show wpAny _ _ (call (Value.ref 28) _) _ _ _); k_dflt ((with_unfolding_all refine' next_U (next_tells _) ?k1 ?k2 ?k3 ?k4 ?k5 ?k6 ?k7 ?k8 ?k9 ?k10 ?k11 ?k12 ?k13 ?k14 ?k15 ?k16 ?k17 ?k18 ?k19 ?_); (case k1 => k_asm); (case k2 => k_asm); (case k3 => k_asm); (case k4 => k_asm); (case k5 => k_asm); (case k6 => k_updF); (case k7 => k_mem); (case k8 => omega); (case k9 => assumption); (case k10 => ((try simp only [List.length_take]); omega)); (case k11 => omega); (case k12 => omega); (case k13 => omega); (case k14 => omega); (case k15 => omega); (case k16 => omega); (case k17 => exact rfl); (case k18 => ktr_room); (case k19 => ktr_units)); intro hpN tkN xN iN rN tN tiN trN cN1 cN2 cN3 cN4 cN5 cN6 FN NN; (try dsimp only at NN); (try dsimp only); (try k_sweep); (try k_fold)))
local macro_rules | `(tactic| walk_at "call ref") => `(tactic| (k_here; (with_reducible show wpAny _ _ (call (Value.ref 35) _) _ _ _); k_dflt ((with_unfolding_all refine' row_U (row_tells _ (next_tells _)) ?k1 ?k2 ?k3 ?k4 ?k5 ?k6 ?k7 ?k8 ?k9 ?k10 ?k11 ?k12 ?k13 ?k14 ?k17 ?k18 ?k19 ?_); (case k1 => k_asm); (case k2 => k_asm); (case k3 => k_asm); (case k4 => k_asm); (case k5 => k_asm); (case k6 => k_updF); (case k7 => k_mem); (case k8 => omega); (case k9 => assumption); (case k10 => ((try simp only [List.length_take]); omega)); (case k11 => omega); (case k12 => omega); (case k13 => omega); (case k14 => omega); (case k17 => exact rfl); (case k18 => ktr_room); (case k19 => ktr_units)); intro hpR tkR raR vsR nsR nrR iR rR tiR trR cR1 cR2 cR3 cR4 lR cR5 cR6 cR7 cR8 FR NR; (try dsimp only at lR); (try k_lt lR); (try dsimp only at NR); (try dsimp only); (try k_sweep); (try k_fold)))
local macro_rules | `(tactic| walk_at "eval ListComp") => `(tactic| (refine stopHere ?_))
local macro_rules | `(tactic| walk_at "exec Assign cons ListComp") => `(tactic| fail "mine")
local macro_rules | `(tactic| walk_at "eval ListComp") => `(tactic| (k_here; (with_reducible show wpAny _ _ (eval (PySem.Expr.ListComp _ [PySem.Comprehension.mk _ _ [_] _] _ _) _) _ _ _); k_dflt ((with_unfolding_all refine' comp_in ?op ?F ?N (by rfl) ?cl ?ce ?ki ?na ?x ?y ?yk ?xk ?xd ?yd ?hc ?hd ?hlb ?hla ?hia ?hib ?hsz ?hiter ?_ ?mm ?ff); (case op => first | exact .inl rfl | exact .inr rfl); (case F => k_asm); (case N => k_asm); (case hiter => (intro q' hq'; k_dflt (refine' nameX_C ?N ?c ?m ?d hq' ?a ?b; (case a => rfl); (case b => rfl); (case N => k_asm); (case c => rfl); (case m => k_mem); (case d => k_asm)))); (case cl => with_unfolding_all rfl); (case ce => decide); (case ki => rfl); (case na => decide); (case x => rfl); (case y => rfl); (case yk => (intro _; rfl)); (case xk => (intro _; rfl)); (case xd => decide); (case yd => decide); (case hc => k_mem); (case hd => k_asm); (case hlb => k_mem); (case hla => k_mem); (case hia => assumption); (case hib => assumption); (case hsz => omega); (case mm => rfl); (case ff => (intro _; rfl))); intro D' ys' h' tk' F' N' off' hI'; (try simp only [LCg.Off1, and_true] at off'); (try k_sweep)))
local macro_rules | `(tactic| walk_at "subscriptTail Name Slice ref ref") => `(tactic| (k_here; (with_reducible show wpAny _ _ (subscriptTail _ (PySem.Expr.Slice _ _ none _) (Value.ref _) (Value.ref _)) _ _ _); k_dflt (refine' kmk_slice_ints ?F ?N ?l ?p ?q ?i ?m ?c ?_ ?s ?t ?z; (case F => k_asm); (case N => k_asm); (case l => kmk_list); (case p => kmk_part); (case q => kmk_part); (case i => assumption); (case m => first | exact kmk_all (by assumption) | exact kmk_from (by assumption) (by omega) | exact kmk_upto (by assumption) (by omega)); (case c => exact rfl); (case s => with_unfolding_all rfl); (case t => kmk_pure); (case z => (refine kmk_sz (by assumption) ?_; rw [sizeLine_eq]; (try simp only [List.length_take, List.length_drop]); first | omega | exact Nat.le_trans (List.length_filter_le _ _) (by omega)))); intro D' ws' h' F' N' l1 hI' hC' hL'; clear hC' hL'; (try k_lt l1); (try k_sweep)))

local macro_rules | `(tactic| walk_at "execs cons") => `(tactic| ((with_reducible show wpAny _ _ (execs (Stmt.Assign [PySem.Expr.Name (Str.ofString "told") _] _ _ :: _) _) _ _ _); refine stopHere ?_))
local macro_rules | `(tactic| walk_at "call builtin:list.pop") => `(tactic| (k_here; (with_reducible show wpAny _ _ (call (Value.builtin _) [Value.ref _, Value.int _ _]) _ _ _); k_dflt (refine' pop0_K ?F ?N ?U ?i ?e ?z ?_; (case F => k_asm); (case N => k_asm); (case U => k_updF); (case i => assumption); (case e => assumption); (case z => omega)); intro hP tP FP NP hIP; (try dsimp only at NP)))
set_option maxHeartbeats 800000 in
theorem seg4 {w : World} {h₀ : Heap} {L fa : Addr} {cd : Value} {mg mb m : Str → Option Value} {loose : List Str} {mean : ExcName → Option Value} {s : Shared} {Q : Flow → Shared → Prop} {E : Value → Shared → Prop}
   {la lb st sc : Addr} {va vb vs : List Value} {xa xb ns : List Int} {na nb n n' : Nat} {i r : Int} {ti tr : Tok} {o1 o2 o3 o4 o5 o6 o7 : Obj}
   (X : (hd.heap_39 w.params).In h₀) (T : Top hd.view_39 loose mean mg mb h₀) (B : Below callerA h₀ [] h₀) (F : Fr h₀ L s.heap (fun z => if z = Str.ofString "state" then some (.ref st) else m z))
   (N : News h₀ L s.heap [(lb, listOf vb.toArray nb), (la, listOf va.toArray na), (st, stO sc i r ti tr n), (sc, listOf vs.toArray n'), (L+1+1+1+1+1+1+1, o7), (L+1+1+1+1+1+1, o6), (L+1+1+1+1+1, o5), (L+1+1+1+1, o4), (L+1+1+1, o3), (L+1+1, o2), (L+1, o1)])
   (d1 : o1.data = .cell (some (.ref la))) (d2 : o2.data = .cell (some (.ref lb))) (d3 : o3.data = .cell none) (d4 : o4.data = .cell none)
   (hia : IntsAre va xa) (hib : IntsAre vb xb) (hna : xa.Nodup) (hnb : xb.Nodup) (ha7 : xa.length ≤ 7) (hb7 : xb.length ≤ 7)
   (hi : IntsAre vs ns) (h63 : ns.length ≤ 40) (b1 : 0 ≤ i) (b2 : i ≤ (ns.length : Int)) (b3 : 0 ≤ r) (b4 : r < 2147483647)
   (l1 : @LT.lt Nat _ (L+1+1+1+1+1+1+1) sc) (l2 : @LT.lt Nat _ sc st) (l3 : @LT.lt Nat _ st la) (l4 : @LT.lt Nat _ la lb)
   (k : ∀ (hh : Heap) (tk : Nat) (lb' sh : Addr) (vb' vsh : List Value) (xb' : List Int) (nb' nsh : Nat) (p2 p3 p4 : Obj), Fr h₀ L hh (fun z => if z = Str.ofString "state" then some (.ref st) else m z) → News h₀ L hh [(sh, listOf vsh.toArray nsh), (lb', listOf vb'.toArray nb'), (la, listOf va.toArray na), (L+1+1+1+1+1+1+1, o7), (L+1+1+1+1+1+1, o6), (L+1+1+1+1+1, o5), (L+1+1+1+1, p4), (L+1+1+1, p3), (L+1+1, p2), (L+1, o1)] →
      p2.data = .cell (some (.ref lb')) → p3.data = .cell (some (.ref sh)) → IntsAre vb' xb' → xb'.Nodup → xb'.length ≤ 7 → IntsAre vsh (xa.filter (inOp .In xb')) → OffCells L sh → OffCells L lb' →
      wpAny (model PySem.Challenge.rw_eu0026_01.row.prog w) (lawA L fa cd) (execs (lawTl 6) (lawEnv L fa cd)) Q E { s with heap := hh, toks := tk })
   : wpAny (model PySem.Challenge.rw_eu0026_01.row.prog w) (lawA L fa cd) (execs (lawTl 4) (lawEnv L fa cd)) Q E s := by
  w_top off
  k_with_none
  revert X
  k_fill
  intro X
  delta lawTl lawA lawEnv lawFn PySem.Challenge.pw_eu0026_01
  dsimp only [List.drop]
  k_steps
  · rename_i D0 ys0 hA tkA hI0 off0 hB oA dA hpN tkN xN iN rN tN tiN trN cN1 cN2 cN3 cN4 cN5 cN6 aq D1 ws1 hC hI1 lt1 hD oB F1 N1 dB
    delta StopHere
    have hln : (xa.filter (inOp .In xb)).length ≤ 7 := Nat.le_trans (List.length_filter_le _ _) ha7
    refine comp_reB (news := [(D0, listOf ys0.toArray ys0.length), (lb, listOf vb.toArray nb), (la, listOf va.toArray na), (st, stO sc iN rN tiN trN n), (sc, listOf vs.toArray n'), (L+1+1+1+1+1+1+1, o7), (L+1+1+1+1+1+1, o6), (L+1+1+1+1+1, o5), (L+1+1+1+1, oB), (L+1+1+1, oA), (L+1+1, o2), (L+1, o1)]) F1 N1 (by rfl) (by with_unfolding_all rfl) (by decide) (by rfl) (by decide) (by rfl) (by rfl) (by rfl) (fun _ => rfl) (fun _ => rfl) (fun _ => rfl) (by decide) (by decide) (by decide) (by k_mem) dA (by k_mem) dB (by k_mem) (by k_mem) ?_ hib hI0 hI1 (cnt_eq hna hnb) (by omega) (by omega) (fun Q' hQ' => nameX_C N1 (by rfl) (by k_mem) d2 hQ' (by rfl) (by rfl)) ?_ (by rfl) (fun _ => rfl) (fun _ => rfl) (by rfl) (fun _ => rfl)
    · intro p hp
      simp only [List.mem_cons, List.not_mem_nil, or_false] at hp
      rcases hp with h | h | h | h | h | h | h | h | h | h | h | h <;> (subst h; refine neN ?_; dsimp only; omega)
    · intro D2 ys2 hE tkE vr nr F2 N2 ne2 off2 hys
      simp only [LCg.Off1, and_true] at off2
      have zz := k
      clear k
      k_steps
      delta StopHere
      rename_i hF oF F3 N3 dF
      refine zz _ _ D2 D0 ys2 ys0 _ ys2.length ys0.length oF oA oB F3 (N3.perm fun p hp => ?_) dF dA hys ?_ ?_ ?_ ?_ ?_
      · simp only [List.mem_cons, List.not_mem_nil, or_false] at hp ⊢
        rcases hp with hp | hp | hp | hp | hp | hp | hp | hp | hp | hp <;> simp only [hp, true_or, or_true]
      · exact reB_nodup _ _ _ (cnt_eq hna hnb) hnb (hna.filter _) fun k hk => hk
      · rw [reB_length]; exact hb7
      · rw [filter_same (reB_same hna hnb)]; exact hI0
      · obtain ⟨_, _, _, _, a7, a6, a5, a4, a3, a2, a1⟩ := off0
        exact ⟨a7, a6, a5, a4, a3, a2, a1⟩
      · obtain ⟨_, _, _, _, _, a7, a6, a5, a4, a3, a2, a1⟩ := off2
        exact ⟨a7, a6, a5, a4, a3, a2, a1⟩
  · rename_i D0 ys0 hA tkA hI0 off0 hB oA dA hpN tkN xN iN rN tN tiN trN cN1 cN2 cN3 cN4 cN5 cN6 F1 N1 aq
    delta StopHere
    refine k _ _ lb D0 vb ys0 xb nb ys0.length o2 oA o4 F1 (N1.perm fun p hp => ?_) d2 dA hib hnb hb7 hI0 ?_ ?_
    · simp only [List.mem_cons, List.not_mem_nil, or_false] at hp ⊢
      rcases hp with hp | hp | hp | hp | hp | hp | hp | hp | hp | hp <;> simp only [hp, true_or, or_true]
    · obtain ⟨_, _, _, _, a7, a6, a5, a4, a3, a2, a1⟩ := off0
      exact ⟨a7, a6, a5, a4, a3, a2, a1⟩
    · unfold OffCells
      refine ⟨neN ?_, neN ?_, neN ?_, neN ?_, neN ?_, neN ?_, neN ?_⟩ <;> omega
end Mine
end

section
set_option maxRecDepth 100000
namespace Mine
open PySem PySem.W PySem.Spec PySem.Calls PyProof.Rows

local macro_rules | `(tactic| walk_at "eval ListComp") => `(tactic| (refine stopHere ?_))
local macro_rules | `(tactic| walk_at "exec Assign cons ListComp") => `(tactic| fail "mine")
local macro_rules | `(tactic| walk_at "eval ListComp") => `(tactic| (k_here; (with_reducible show wpAny _ _ (eval (PySem.Expr.ListComp _ [PySem.Comprehension.mk _ _ [_] _] _ _) _) _ _ _); k_dflt ((with_unfolding_all refine' comp_in ?op ?F ?N (by rfl) ?cl ?ce ?ki ?na ?x ?y ?yk ?xk ?xd ?yd ?hc ?hd ?hlb ?hla ?hia ?hib ?hsz ?hiter ?_ ?mm ?ff); (case op => first | exact .inl rfl | exact .inr rfl); (case F => k_asm); (case N => k_asm); (case hiter => (intro q' hq'; k_dflt (first | (refine' nameX_C ?N ?c ?m ?d hq' ?a ?b; (case a => rfl); (case b => rfl); (case N => k_asm); (case c => rfl); (case m => k_mem); (case d => k_asm)) | (refine' nameX_L ?F ?v hq' ?a ?b; (case a => rfl); (case b => rfl); (case F => k_asm); (case v => exact rfl))))); (case cl => with_unfolding_all rfl); (case ce => decide); (case ki => rfl); (case na => decide); (case x => rfl); (case y => rfl); (case yk => (intro _; rfl)); (case xk => (intro _; rfl)); (case xd => decide); (case yd => decide); (case hc => k_mem); (case hd => k_asm); (case hlb => k_mem); (case hla => k_mem); (case hia => assumption); (case hib => assumption); (case hsz => first | omega | exact mergeGo_le (by assumption) (by assumption)); (case mm => rfl); (case ff => (intro _; rfl))); intro D' ys' h' tk' F' N' off' hI'; (try simp only [LCg.Off1, and_true] at off'); (try k_sweep)))
local macro_rules | `(tactic| walk_at "subscriptTail Name Slice ref ref") => `(tactic| (k_here; (with_reducible show wpAny _ _ (subscriptTail _ (PySem.Expr.Slice _ _ none _) (Value.ref _) (Value.ref _)) _ _ _); k_dflt (refine' kmk_slice_ints ?F ?N ?l ?p ?q ?i ?m ?c ?_ ?s ?t ?z; (case F => k_asm); (case N => k_asm); (case l => kmk_list); (case p => kmk_part); (case q => kmk_part); (case i => assumption); (case m => first | exact kmk_all (by assumption) | exact kmk_from (by assumption) (by omega) | exact kmk_upto (by assumption) (by omega)); (case c => exact rfl); (case s => with_unfolding_all rfl); (case t => kmk_pure); (case z => (refine kmk_sz (by assumption) ?_; rw [sizeLine_eq]; (try simp only [List.length_take, List.length_drop]); first | omega | exact Nat.le_trans (List.length_filter_le _ _) (by omega)))); intro D' ws' h' F' N' l1 hI' hC' hL'; clear hC' hL'; (try k_lt l1); (try k_sweep)))
local macro_rules | `(tactic| walk_at "call ref") => `(tactic| (k_here; (with_reducible show wpAny _ _ (call (Value.ref 21) _) _ _ _); k_dflt ((with_unfolding_all refine' merge_U (merge_tells _) ?k1 ?k2 ?k3 ?k4 ?k5 ?k6 ?k7 ?k8 ?k9 ?k10 ?k11 ?k12 ?k13 ?k17 ?k18 ?k19 ?_); (case k1 => k_asm); (case k2 => k_asm); (case k3 => k_asm); (case k4 => k_asm); (case k5 => k_asm); (case k6 => k_mem); (case k7 => k_mem); (case k8 => assumption); (case k9 => assumption); (case k10 => assumption); (case k11 => assumption); (case k12 => omega); (case k13 => omega); (case k17 => exact rfl); (case k18 => ktr_room); (case k19 => ktr_units)); intro hpM tkM raM vrM nrM accM cM1 cM2 cM3 lM FM NM; (try dsimp only at lM); (try k_lt lM); (try dsimp only at NM); (try dsimp only); (try k_sweep); (try k_fold)))
local macro_rules | `(tactic| walk_at "call builtin:sorted") => `(tactic| (k_here; (with_reducible show wpAny _ _ (call (Value.builtin _) [Value.ref _]) _ _ _); k_dflt (refine' kso_sorted ?F ?N ?l ?i ?len ?_; (case F => k_asm); (case N => k_asm); (case l => kmk_list); (case i => assumption); (case len => first | exact mergeGo_lt (by assumption) (by assumption) | exact cat_lt (by assumption) (by assumption))); intro D' v' n' c' h' F' N' l1 i' e' p' o' b'; clear b' e'; (try k_lt l1); (try k_sweep)))
local macro_rules | `(tactic| walk_at "binaryOp Add ref ref") => `(tactic| (k_here; (with_reducible show wpAny _ _ (binaryOp _ (Value.ref _) (Value.ref _)) _ _ _); k_dflt (refine' kmk_add_ints ?F ?N ?a ?b ?i ?j ?_ ?z; (case F => k_asm); (case N => k_asm); (case a => kmk_list); (case b => kmk_list); (case i => assumption); (case j => assumption); (case z => exact cat_le (by assumption) (by assumption))); intro D' ws' h' F' N' l1 hI'; (try k_lt l1); (try k_sweep)))
local macro_rules | `(tactic| walk_at "compareOp NotEq ref ref") => `(tactic| (k_here; (with_reducible show wpAny _ _ (compareOp CmpOp.NotEq (Value.ref _) (Value.ref _)) _ _ _); k_dflt (refine' ke_ne_ints ?a ?b ?i ?j ?u ?_; (case a => kmk_list); (case b => kmk_list); (case i => assumption); (case j => assumption); (case u => ke_room))))
local macro_rules | `(tactic| walk_at "compareOp NotEq ref ref") => `(tactic| (k_here; (with_reducible show wpAny _ _ (compareOp CmpOp.NotEq (Value.ref _) (Value.ref _)) _ _ _); k_dflt (refine' ne_same_ints ?a ?b ?i ?j ?e ?u ?_; (case a => kmk_list); (case b => kmk_list); (case i => assumption); (case j => assumption); (case e => first | exact mergeGo_a (by assumption) | exact mergeGo_b (by assumption) | exact sorted_same (by assumption) (by assumption) (by assumption) (by assumption) (by assumption) (by assumption) (by assumption) (by assumption)); (case u => ke_room))))
local macro_rules | `(tactic| walk_at "execs cons") => `(tactic| ((with_reducible show wpAny _ _ (execs (Stmt.If (PySem.Expr.BoolOp _ _ _) _ _ _ :: _) _) _ _ _); refine stopHere ?_))
set_option maxHeartbeats 1000000 in
theorem seg6 {w : World} {h₀ : Heap} {L fa : Addr} {cd : Value} {mg mb m : Str → Option Value} {loose : List Str} {mean : ExcName → Option Value} {s : Shared} {Q : Flow → Shared → Prop} {E : Value → Shared → Prop}
   {la lb sh : Addr} {va vb vsh : List Value} {xa xb : List Int} {na nb nsh : Nat} {o1 o2 o3 o4 o5 o6 o7 : Obj}
   (X : (hd.heap_39 w.params).In h₀) (T : Top hd.view_39 loose mean mg mb h₀) (B : Below callerA h₀ [] h₀) (F : Fr h₀ L s.heap m)
   (N : News h₀ L s.heap [(sh, listOf vsh.toArray nsh), (lb, listOf vb.toArray nb), (la, listOf va.toArray na), (L+1+1+1+1+1+1+1, o7), (L+1+1+1+1+1+1, o6), (L+1+1+1+1+1, o5), (L+1+1+1+1, o4), (L+1+1+1, o3), (L+1+1, o2), (L+1, o1)])
   (d1 : o1.data = .cell (some (.ref la))) (d2 : o2.data = .cell (some (.ref lb))) (d3 : o3.data = .cell (some (.ref sh)))
   (hia : IntsAre va xa) (hib : IntsAre vb xb) (his : IntsAre vsh (xa.filter (inOp .In xb))) (hna : xa.Nodup) (hnb : xb.Nodup) (ha7 : xa.length ≤ 7) (hb7 : xb.length ≤ 7)
   (ca : OffCells L la) (cb : OffCells L lb) (cs : OffCells L sh)
   (k : ∀ (hh : Heap) (tk : Nat) (ra : Addr) (vr : List Value) (nr : Nat) (acc : List Int), Fr h₀ L hh (fun y => if y = Str.ofString "told" then some (.ref ra) else m y) → News h₀ L hh [(ra, listOf vr.toArray nr), (sh, listOf vsh.toArray nsh), (lb, listOf vb.toArray nb), (la, listOf va.toArray na), (L+1+1+1+1+1+1+1, o7), (L+1+1+1+1+1+1, o6), (L+1+1+1+1+1, o5), (L+1+1+1+1, o4), (L+1+1+1, o3), (L+1+1, o2), (L+1, o1)] → IntsAre vr (mergeGo xa xb acc []) → acc.Nodup → (∀ k, k ∈ acc ↔ k ∈ xa ∧ k ∈ xb) → OffCells L ra →
      wpAny (model PySem.Challenge.rw_eu0026_01.row.prog w) (lawA L fa cd) (execs (lawTl 8) (lawEnv L fa cd)) Q E { s with heap := hh, toks := tk })
   : wpAny (model PySem.Challenge.rw_eu0026_01.row.prog w) (lawA L fa cd) (execs (lawTl 6) (lawEnv L fa cd)) Q E s := by
  unfold OffCells at ca cb cs
  w_top off
  k_with_none
  revert X
  k_fill
  intro X
  delta lawTl lawA lawEnv lawFn PySem.Challenge.pw_eu0026_01
  dsimp only [List.drop]
  k_steps
  delta StopHere
  rename_i F1 N1 i1 p1 q1 l1
  refine' k _ _ _ _ _ _ F1 (pick6 N1) ?c1 ?c2 ?c3 ?c4
  case c1 => assumption
  case c2 => assumption
  case c3 => assumption
  case c4 => (unfold OffCells; refine ⟨neN ?_, neN ?_, neN ?_, neN ?_, neN ?_, neN ?_, neN ?_⟩ <;> omega)
end Mine
end

section
set_option maxRecDepth 100000
namespace Mine
open PySem PySem.W PySem.Spec PySem.Calls PyProof.Rows

local macro_rules | `(tactic| walk_at "mine pad 0") => `(tactic| fail "mine")
local macro_rules | `(tactic| walk_at "eval ListComp") => `(tactic| (refine stopHere ?_))
local macro_rules | `(tactic| walk_at "exec Assign cons ListComp") => `(tactic| fail "mine")
local macro_rules | `(tactic| walk_at "eval ListComp") => `(tactic| (k_here; (with_reducible show wpAny _ _ (eval (PySem.Expr.ListComp _ [PySem.Comprehension.mk _ _ [_] _] _ _) _) _ _ _); k_dflt ((with_unfolding_all refine' comp_in ?op ?F ?N (by rfl) ?cl ?ce ?ki ?na ?x ?y ?yk ?xk ?xd ?yd ?hc ?hd ?hlb ?hla ?hia ?hib ?hsz ?hiter ?_ ?mm ?ff); (case op => first | exact .inl rfl | exact .inr rfl); (case F => k_asm); (case N => k_asm); (case hiter => (intro q' hq'; k_dflt (first | (refine' nameX_C ?N ?c ?m ?d hq' ?a ?b; (case a => rfl); (case b => rfl); (case N => k_asm); (case c => rfl); (case m => k_mem); (case d => k_asm)) | (refine' nameX_L ?F ?v hq' ?a ?b; (case a => rfl); (case b => rfl); (case F => k_asm); (case v => exact rfl))))); (case cl => with_unfolding_all rfl); (case ce => decide); (case ki => rfl); (case na => decide); (case x => rfl); (case y => rfl); (case yk => (intro _; rfl)); (case xk => (intro _; rfl)); (case xd => decide); (case yd => decide); (case hc => k_mem); (case hd => k_asm); (case hlb => k_mem); (case hla => k_mem); (case hia => assumption); (case hib => assumption); (case hsz => first | omega | exact mergeGo_le (by assumption) (by assumption)); (case mm => rfl); (case ff => (intro _; rfl))); intro D' ys' h' tk' F' N' off' hI'; (try simp only [LCg.Off1, and_true] at off'); (try k_sweep)))
local macro_rules | `(tactic| walk_at "subscriptTail Name Slice ref ref") => `(tactic| (k_here; (with_reducible show wpAny _ _ (subscriptTail _ (PySem.Expr.Slice _ _ none _) (Value.ref _) (Value.ref _)) _ _ _); k_dflt (refine' kmk_slice_ints ?F ?N ?l ?p ?q ?i ?m ?c ?_ ?s ?t ?z; (case F => k_asm); (case N => k_asm); (case l => kmk_list); (case p => kmk_part); (case q => kmk_part); (case i => assumption); (case m => first | exact kmk_all (by assumption) | exact kmk_from (by assumption) (by omega) | exact kmk_upto (by assumption) (by omega)); (case c => exact rfl); (case s => with_unfolding_all rfl); (case t => kmk_pure); (case z => (refine kmk_sz (by assumption) ?_; rw [sizeLine_eq]; (try simp only [List.length_take, List.length_drop]); first | omega | exact Nat.le_trans (List.length_filter_le _ _) (by omega)))); intro D' ws' h' F' N' l1 hI' hC' hL'; clear hC' hL'; (try k_lt l1); (try k_sweep)))
local macro_rules | `(tactic| walk_at "call ref") => `(tactic| (k_here; (with_reducible show wpAny _ _ (call (Value.ref 21) _) _ _ _); k_dflt ((with_unfolding_all refine' merge_U (merge_tells _) ?k1 ?k2 ?k3 ?k4 ?k5 ?k6 ?k7 ?k8 ?k9 ?k10 ?k11 ?k12 ?k13 ?k17 ?k18 ?k19 ?_); (case k1 => k_asm); (case k2 => k_asm); (case k3 => k_asm); (case k4 => k_asm); (case k5 => k_asm); (case k6 => k_mem); (case k7 => k_mem); (case k8 => assumption); (case k9 => assumption); (case k10 => assumption); (case k11 => assumption); (case k12 => omega); (case k13 => omega); (case k17 => exact rfl); (case k18 => ktr_room); (case k19 => ktr_units)); intro hpM tkM raM vrM nrM accM cM1 cM2 cM3 lM FM NM; (try dsimp only at lM); (try k_lt lM); (try dsimp only at NM); (try dsimp only); (try k_sweep); (try k_fold)))
local macro_rules | `(tactic| walk_at "call builtin:sorted") => `(tactic| (k_here; (with_reducible show wpAny _ _ (call (Value.builtin _) [Value.ref _]) _ _ _); k_dflt (refine' kso_sorted ?F ?N ?l ?i ?len ?_; (case F => k_asm); (case N => k_asm); (case l => kmk_list); (case i => assumption); (case len => first | exact mergeGo_lt (by assumption) (by assumption) | exact cat_lt (by assumption) (by assumption))); intro D' v' n' c' h' F' N' l1 i' e' p' o' b'; clear b' e'; (try k_lt l1); (try k_sweep)))
local macro_rules | `(tactic| walk_at "binaryOp Add ref ref") => `(tactic| (k_here; (with_reducible show wpAny _ _ (binaryOp _ (Value.ref _) (Value.ref _)) _ _ _); k_dflt (refine' kmk_add_ints ?F ?N ?a ?b ?i ?j ?_ ?z; (case F => k_asm); (case N => k_asm); (case a => kmk_list); (case b => kmk_list); (case i => assumption); (case j => assumption); (case z => exact cat_le (by assumption) (by assumption))); intro D' ws' h' F' N' l1 hI'; (try k_lt l1); (try k_sweep)))
local macro_rules | `(tactic| walk_at "compareOp NotEq ref ref") => `(tactic| (k_here; (with_reducible show wpAny _ _ (compareOp CmpOp.NotEq (Value.ref _) (Value.ref _)) _ _ _); k_dflt (refine' ke_ne_ints ?a ?b ?i ?j ?u ?_; (case a => kmk_list); (case b => kmk_list); (case i => assumption); (case j => assumption); (case u => ke_room))))
local macro_rules | `(tactic| walk_at "compareOp NotEq ref ref") => `(tactic| (k_here; (with_reducible show wpAny _ _ (compareOp CmpOp.NotEq (Value.ref _) (Value.ref _)) _ _ _); k_dflt (refine' ne_same_ints ?a ?b ?i ?j ?e ?u ?_; (case a => kmk_list); (case b => kmk_list); (case i => assumption); (case j => assumption); (case e => first | exact mergeGo_a (by assumption) | exact mergeGo_b (by assumption) | exact sorted_same (by assumption) (by assumption) (by assumption) (by assumption) (by assumption) (by assumption) (by assumption) (by assumption)); (case u => ke_room))))
local macro_rules | `(tactic| walk_at "execs cons") => `(tactic| ((with_reducible show wpAny _ _ (execs (Stmt.If (PySem.Expr.Compare _ _ _ _) [Stmt.Return (some (PySem.Expr.Constant (Const.bool true) _ _)) _] _ _ :: _) _) _ _ _); refine stopHere ?_))
set_option maxHeartbeats 1000000 in
theorem seg8 {w : World} {h₀ : Heap} {L fa : Addr} {cd : Value} {mg mb m : Str → Option Value} {loose : List Str} {mean : ExcName → Option Value} {s : Shared} {Q : Flow → Shared → Prop} {E : Value → Shared → Prop}
   {la lb sh ra : Addr} {va vb vsh vr : List Value} {xa xb acc : List Int} {na nb nsh nr : Nat} {o1 o2 o3 o4 o5 o6 o7 : Obj}
   (X : (hd.heap_39 w.params).In h₀) (T : Top hd.view_39 loose mean mg mb h₀) (B : Below callerA h₀ [] h₀) (F : Fr h₀ L s.heap (fun y => if y = Str.ofString "told" then some (.ref ra) else m y))
   (N : News h₀ L s.heap [(ra, listOf vr.toArray nr), (sh, listOf vsh.toArray nsh), (lb, listOf vb.toArray nb), (la, listOf va.toArray na), (L+1+1+1+1+1+1+1, o7), (L+1+1+1+1+1+1, o6), (L+1+1+1+1+1, o5), (L+1+1+1+1, o4), (L+1+1+1, o3), (L+1+1, o2), (L+1, o1)])
   (d1 : o1.data = .cell (some (.ref la))) (d2 : o2.data = .cell (some (.ref lb))) (d3 : o3.data = .cell (some (.ref sh)))
   (hia : IntsAre va xa) (hib : IntsAre vb xb) (his : IntsAre vsh (xa.filter (inOp .In xb))) (hna : xa.Nodup) (hnb : xb.Nodup) (ha7 : xa.length ≤ 7) (hb7 : xb.length ≤ 7)
   (ca : OffCells L la) (cb : OffCells L lb) (cs : OffCells L sh)
   (hir : IntsAre vr (mergeGo xa xb acc [])) (hcn : acc.Nodup) (hcm : ∀ k, k ∈ acc ↔ k ∈ xa ∧ k ∈ xb) (cr : OffCells L ra)
   (k : ∀ (hh : Heap) (tk : Nat), Fr h₀ L hh (fun y => if y = Str.ofString "told" then some (.ref ra) else m y) → News h₀ L hh [(ra, listOf vr.toArray nr), (sh, listOf vsh.toArray nsh), (lb, listOf vb.toArray nb), (la, listOf va.toArray na), (L+1+1+1+1+1+1+1, o7), (L+1+1+1+1+1+1, o6), (L+1+1+1+1+1, o5), (L+1+1+1+1, o4), (L+1+1+1, o3), (L+1+1, o2), (L+1, o1)] →
      wpAny (model PySem.Challenge.rw_eu0026_01.row.prog w) (lawA L fa cd) (execs (lawTl 9) (lawEnv L fa cd)) Q E { s with heap := hh, toks := tk })
   : wpAny (model PySem.Challenge.rw_eu0026_01.row.prog w) (lawA L fa cd) (execs (lawTl 8) (lawEnv L fa cd)) Q E s := by
  unfold OffCells at ca cb cs cr
  w_top off
  k_with_none
  revert X
  k_fill
  intro X
  delta lawTl lawA lawEnv lawFn PySem.Challenge.pw_eu0026_01
  dsimp only [List.drop]
  k_steps
  delta StopHere
  rename_i F1 N1 hI1 off1
  exact k _ _ F1 (pick8 N1)
end Mine
end

section
set_option maxRecDepth 100000
namespace Mine
open PySem PySem.W PySem.Spec PySem.Calls PyProof.Rows

local macro_rules | `(tactic| walk_at "mine pad 0") => `(tactic| fail "mine")
local macro_rules | `(tactic| walk_at "mine pad 1") => `(tactic| fail "mine")
local macro_rules | `(tactic| walk_at "eval ListComp") => `(tactic| (refine stopHere ?_))
local macro_rules | `(tactic| walk_at "exec Assign cons ListComp") => `(tactic| fail "mine")
local macro_rules | `(tactic| walk_at "eval ListComp") => `(tactic| (k_here; (with_reducible show wpAny _ _ (eval (PySem.Expr.ListComp _ [PySem.Comprehension.mk _ _ [_] _] _ _) _) _ _ _); k_dflt ((with_unfolding_all refine' comp_in ?op ?F ?N (by rfl) ?cl ?ce ?ki ?na ?x ?y ?yk ?xk ?xd ?yd ?hc ?hd ?hlb ?hla ?hia ?hib ?hsz ?hiter ?_ ?mm ?ff); (case op => first | exact .inl rfl | exact .inr rfl); (case F => k_asm); (case N => k_asm); (case hiter => (intro q' hq'; k_dflt (first | (refine' nameX_C ?N ?c ?m ?d hq' ?a ?b; (case a => rfl); (case b => rfl); (case N => k_asm); (case c => rfl); (case m => k_mem); (case d => k_asm)) | (refine' nameX_L ?F ?v hq' ?a ?b; (case a => rfl); (case b => rfl); (case F => k_asm); (case v => exact rfl))))); (case cl => with_unfolding_all rfl); (case ce => decide); (case ki => rfl); (case na => decide); (case x => rfl); (case y => rfl); (case yk => (intro _; rfl)); (case xk => (intro _; rfl)); (case xd => decide); (case yd => decide); (case hc => k_mem); (case hd => k_asm); (case hlb => k_mem); (case hla => k_mem); (case hia => assumption); (case hib => assumption); (case hsz => first | omega | exact mergeGo_le (by assumption) (by assumption)); (case mm => rfl); (case ff => (intro _; rfl))); intro D' ys' h' tk' F' N' off' hI'; (try simp only [LCg.Off1, and_true] at off'); (try k_sweep)))
local macro_rules | `(tactic| walk_at "subscriptTail Name Slice ref ref") => `(tactic| (k_here; (with_reducible show wpAny _ _ (subscriptTail _ (PySem.Expr.Slice _ _ none _) (Value.ref _) (Value.ref _)) _ _ _); k_dflt (refine' kmk_slice_ints ?F ?N ?l ?p ?q ?i ?m ?c ?_ ?s ?t ?z; (case F => k_asm); (case N => k_asm); (case l => kmk_list); (case p => kmk_part); (case q => kmk_part); (case i => assumption); (case m => first | exact kmk_all (by assumption) | exact kmk_from (by assumption) (by omega) | exact kmk_upto (by assumption) (by omega)); (case c => exact rfl); (case s => with_unfolding_all rfl); (case t => kmk_pure); (case z => (refine kmk_sz (by assumption) ?_; rw [sizeLine_eq]; (try simp only [List.length_take, List.length_drop]); first | omega | exact Nat.le_trans (List.length_filter_le _ _) (by omega)))); intro D' ws' h' F' N' l1 hI' hC' hL'; clear hC' hL'; (try k_lt l1); (try k_sweep)))
local macro_rules | `(tactic| walk_at "call ref") => `(tactic| (k_here; (with_reducible show wpAny _ _ (call (Value.ref 21) _) _ _ _); k_dflt ((with_unfolding_all refine' merge_U (merge_tells _) ?k1 ?k2 ?k3 ?k4 ?k5 ?k6 ?k7 ?k8 ?k9 ?k10 ?k11 ?k12 ?k13 ?k17 ?k18 ?k19 ?_); (case k1 => k_asm); (case k2 => k_asm); (case k3 => k_asm); (case k4 => k_asm); (case k5 => k_asm); (case k6 => k_mem); (case k7 => k_mem); (case k8 => assumption); (case k9 => assumption); (case k10 => assumption); (case k11 => assumption); (case k12 => omega); (case k13 => omega); (case k17 => exact rfl); (case k18 => ktr_room); (case k19 => ktr_units)); intro hpM tkM raM vrM nrM accM cM1 cM2 cM3 lM FM NM; (try dsimp only at lM); (try k_lt lM); (try dsimp only at NM); (try dsimp only); (try k_sweep); (try k_fold)))
local macro_rules | `(tactic| walk_at "call builtin:sorted") => `(tactic| (k_here; (with_reducible show wpAny _ _ (call (Value.builtin _) [Value.ref _]) _ _ _); k_dflt (refine' kso_sorted ?F ?N ?l ?i ?len ?_; (case F => k_asm); (case N => k_asm); (case l => kmk_list); (case i => assumption); (case len => first | exact mergeGo_lt (by assumption) (by assumption) | exact cat_lt (by assumption) (by assumption))); intro D' v' n' c' h' F' N' l1 i' e' p' o' b'; clear b' e'; (try k_lt l1); (try k_sweep)))
local macro_rules | `(tactic| walk_at "binaryOp Add ref ref") => `(tactic| (k_here; (with_reducible show wpAny _ _ (binaryOp _ (Value.ref _) (Value.ref _)) _ _ _); k_dflt (refine' kmk_add_ints ?F ?N ?a ?b ?i ?j ?_ ?z; (case F => k_asm); (case N => k_asm); (case a => kmk_list); (case b => kmk_list); (case i => assumption); (case j => assumption); (case z => exact cat_le (by assumption) (by assumption))); intro D' ws' h' F' N' l1 hI'; (try k_lt l1); (try k_sweep)))
local macro_rules | `(tactic| walk_at "compareOp NotEq ref ref") => `(tactic| (k_here; (with_reducible show wpAny _ _ (compareOp CmpOp.NotEq (Value.ref _) (Value.ref _)) _ _ _); k_dflt (refine' ke_ne_ints ?a ?b ?i ?j ?u ?_; (case a => kmk_list); (case b => kmk_list); (case i => assumption); (case j => assumption); (case u => ke_room))))
local macro_rules | `(tactic| walk_at "compareOp NotEq ref ref") => `(tactic| (k_here; (with_reducible show wpAny _ _ (compareOp CmpOp.NotEq (Value.ref _) (Value.ref _)) _ _ _); k_dflt (refine' ne_same_ints ?a ?b ?i ?j ?e ?u ?_; (case a => kmk_list); (case b => kmk_list); (case i => assumption); (case j => assumption); (case e => first | exact mergeGo_a (by assumption) | exact mergeGo_b (by assumption) | exact sorted_same (by assumption) (by assumption) (by assumption) (by assumption) (by assumption) (by assumption) (by assumption) (by assumption)); (case u => ke_room))))
local macro_rules | `(tactic| walk_at "execs cons Assign cons") => `(tactic| ((with_reducible show wpAny _ _ (execs (Stmt.Assign [PySem.Expr.Tuple _ _ _] _ _ :: _) _) _ _ _); refine stopHere ?_))
set_option maxHeartbeats 1000000 in
theorem seg9 {w : World} {h₀ : Heap} {L fa : Addr} {cd : Value} {mg mb m : Str → Option Value} {loose : List Str} {mean : ExcName → Option Value} {s : Shared} {Q : Flow → Shared → Prop} {E : Value → Shared → Prop}
   {la lb sh ra : Addr} {va vb vsh vr : List Value} {xa xb acc : List Int} {na nb nsh nr : Nat} {o1 o2 o3 o4 o5 o6 o7 : Obj}
   (X : (hd.heap_39 w.params).In h₀) (T : Top hd.view_39 loose mean mg mb h₀) (B : Below callerA h₀ [] h₀) (F : Fr h₀ L s.heap (fun y => if y = Str.ofString "told" then some (.ref ra) else m y))
   (N : News h₀ L s.heap [(ra, listOf vr.toArray nr), (sh, listOf vsh.toArray nsh), (lb, listOf vb.toArray nb), (la, listOf va.toArray na), (L+1+1+1+1+1+1+1, o7), (L+1+1+1+1+1+1, o6), (L+1+1+1+1+1, o5), (L+1+1+1+1, o4), (L+1+1+1, o3), (L+1+1, o2), (L+1, o1)])
   (d1 : o1.data = .cell (some (.ref la))) (d2 : o2.data = .cell (some (.ref lb))) (d3 : o3.data = .cell (some (.ref sh)))
   (hia : IntsAre va xa) (hib : IntsAre vb xb) (his : IntsAre vsh (xa.filter (inOp .In xb))) (hna : xa.Nodup) (hnb : xb.Nodup) (ha7 : xa.length ≤ 7) (hb7 : xb.length ≤ 7)
   (ca : OffCells L la) (cb : OffCells L lb) (cs : OffCells L sh)
   (hir : IntsAre vr (mergeGo xa xb acc [])) (hcn : acc.Nodup) (hcm : ∀ k, k ∈ acc ↔ k ∈ xa ∧ k ∈ xb) (cr : OffCells L ra)
   (k : ∀ (hh : Heap) (tk : Nat), Fr h₀ L hh (fun y => if y = Str.ofString "told" then some (.ref ra) else m y) → News h₀ L hh [(ra, listOf vr.toArray nr), (sh, listOf vsh.toArray nsh), (lb, listOf vb.toArray nb), (la, listOf va.toArray na), (L+1+1+1+1+1+1+1, o7), (L+1+1+1+1+1+1, o6), (L+1+1+1+1+1, o5), (L+1+1+1+1, o4), (L+1+1+1, o3), (L+1+1, o2), (L+1, o1)] → xb.filter (inOp .In xa) = xa.filter (inOp .In xb) →
      wpAny (model PySem.Challenge.rw_eu0026_01.row.prog w) (lawA L fa cd) (execs (lawTl 10) (lawEnv L fa cd)) Q E { s with heap := hh, toks := tk })
   (hQ : ∀ hh tk m', Fr h₀ L hh m' → Q (.ret (.bool true)) { s with heap := hh, toks := tk })
   : wpAny (model PySem.Challenge.rw_eu0026_01.row.prog w) (lawA L fa cd) (execs (lawTl 9) (lawEnv L fa cd)) Q E s := by
  unfold OffCells at ca cb cs cr
  w_top off
  k_with_none
  revert X
  k_fill
  intro X
  delta lawTl lawA lawEnv lawFn PySem.Challenge.pw_eu0026_01
  dsimp only [List.drop]
  k_steps
  · delta StopHere
    rename_i F1 N1 hI1 off1 e1
    exact k _ _ F1 (pick1 N1) e1
  · rename_i F1 N1 hI1 off1 e1
    exact hQ _ _ _ F1
end Mine
end

section
set_option maxRecDepth 100000
namespace Mine
open PySem PySem.W PySem.Spec PySem.Calls PyProof.Rows

theorem offCells_of {L a : Addr} (h : @LT.lt Nat _ (L+1+1+1+1+1+1+1) a) : OffCells L a := by
  unfold OffCells
  refine ⟨neN ?_, neN ?_, neN ?_, neN ?_, neN ?_, neN ?_, neN ?_⟩ <;> omega

theorem law_body {w : World} {h₀ : Heap} {L fa : Addr} {cd : Value} {mg mb : Str → Option Value} {loose : List Str} {mean : ExcName → Option Value} {s : Shared} {Q : Flow → Shared → Prop} {E : Value → Shared → Prop}
   {scr : Addr} {vs : List Value} {ns : List Int} {o1 o2 o3 o4 o5 o6 o7 : Obj}
   (X : (hd.heap_39 w.params).In h₀) (T : Top hd.view_39 loose mean mg mb h₀) (B : Below callerA h₀ [] h₀) (F : Fr h₀ L s.heap (fun z => if z = Str.ofString "script" then some (.ref scr) else none))
   (N : News h₀ L s.heap [(L+1+1+1+1+1+1+1, o7), (L+1+1+1+1+1+1, o6), (L+1+1+1+1+1, o5), (L+1+1+1+1, o4), (L+1+1+1, o3), (L+1+1, o2), (L+1, o1)])
   (d1 : o1.data = .cell none) (d2 : o2.data = .cell none) (d3 : o3.data = .cell none) (d4 : o4.data = .cell none) (d5 : o5.data = .cell none) (d6 : o6.data = .cell none) (d7 : o7.data = .cell none)
   (hl : h₀.IsList scr vs.toArray) (hi : IntsAre vs ns) (h63 : ns.length ≤ 63) (hE : PassesOwn (model PySem.Challenge.rw_eu0026_01.row.prog w) (lawA L fa cd) (lawEnv L fa cd) E)
   (hQ : ∀ hh tk m', Fr h₀ L hh m' → Q (.ret (.bool true)) { s with heap := hh, toks := tk })
   : wpAny (model PySem.Challenge.rw_eu0026_01.row.prog w) (lawA L fa cd) (execs (lawTl 0) (lawEnv L fa cd)) Q E s := by
  refine seg0 X T B F N d1 d2 d3 d4 d5 d6 d7 hl hi h63 fun hh tk la lb st sc va vb vs' xa xb ns' na nb n n' i r ti tr m p1 p2 F0 N0 e1 e2 hia hib hna hnb ha7 hb7 hi0 hl40 b1 b2 b3 b4 l1 l2 l3 l4 => ?_
  refine seg4 (s := { s with heap := hh, toks := tk }) X T B F0 N0 e1 e2 d3 d4 hia hib hna hnb ha7 hb7 hi0 hl40 b1 b2 b3 b4 l1 l2 l3 l4 fun hh tk lb' sh vb' vsh xb' nb' nsh q2 q3 q4 F4 N4 f2 f3 hib' hnb' hb7' his cs cb => ?_
  have ca : OffCells L la := offCells_of (Nat.lt_trans (Nat.lt_trans l1 l2) l3)
  refine seg6 (s := { s with heap := hh, toks := tk }) X T B F4 N4 e1 f2 f3 hia hib' his hna hnb' ha7 hb7' ca cb cs fun hh tk ra vr nr acc F6 N6 hir hcn hcm cr => ?_
  refine seg8 (s := { s with heap := hh, toks := tk }) X T B F6 N6 e1 f2 f3 hia hib' his hna hnb' ha7 hb7' ca cb cs hir hcn hcm cr fun hh tk F8 N8 => ?_
  refine seg9 (s := { s with heap := hh, toks := tk }) X T B F8 N8 e1 f2 f3 hia hib' his hna hnb' ha7 hb7' ca cb cs hir hcn hcm cr (fun hh tk F9 N9 he => ?_) hQ
  exact seg10 (s := { s with heap := hh, toks := tk }) X T B F9 N9 e1 f2 f3 d5 d6 d7 hia hib' his hir (LoopOk.start hna hnb' hcn hcm he ha7 hb7') (Nat.le_trans (List.length_filter_le _ _) ha7) ca cb cs cr hE hQ
end Mine
end

open PySem PySem.W PyProof.Rows
set_option maxRecDepth 100000 in
set_option maxHeartbeats 8000000 in
theorem PySem.Challenge.cw_eu0026_01_holds : PySem.Challenge.rw_eu0026_01.Holds := by
  exact Mine.hd (by w_strict (
  k_with_none
  k_go0
  all_goals try k_fold
  rename_i hL0 ra0 w10 r00 hI hr hc hc2 K0 hD h1 tk1 F w6 w5 w4 w3 w2 w1 w0 e6 e5 e4 e3 e2 e1 e0 N0 X0
  rename Top _ _ _ _ _ _ => T9
  rename Frag.In _ _ => KX9
  with_unfolding_all refine Mine.law_body KX9 T9 K0 ?F N0 ?d1 ?d2 ?d3 ?d4 ?d5 ?d6 ?d7 hL0 hI ?l ?E ?Q
  case F => with_unfolding_all exact F
  case d1 => with_unfolding_all exact e0
  case d2 => with_unfolding_all exact e1
  case d3 => with_unfolding_all exact e2
  case d4 => with_unfolding_all exact e3
  case d5 => with_unfolding_all exact e4
  case d6 => with_unfolding_all exact e5
  case d7 => with_unfolding_all exact e6
  case l => omega
  case E => passes_own
  case Q =>
    intro hh tk m' F'
    clear F N0
    k_steps))

import PyProof.Rows.All
import Wide.All
import OpenK.AllK
import Wide.FinOn
import PySem.Challenge.RW_sr0010_01
set_option Elab.async false
set_option maxRecDepth 100000
set_option maxHeartbeats 8000000
set_option compiler.extract_closed false

-- part Head1
namespace Mine
open_top hd for PySem.Challenge.rw_sr0010_01
end Mine

-- part Base
namespace Mine
open PySem PySem.W PyProof.Rows
/-- the claim of a def: called with vs, from any frame, it hands over to R -/
abbrev Cl (prog : Program) (w : World) (K : Frag) (p : Program) (loose : List Str) (mean : ExcName → Option Value) (mg mb : Str → Option Value) (f : Addr) (lv : Nat) (vs : List Value) (news : List (Addr × Obj))
    (R : Heap → Addr → (Str → Option Value) → Shared → (Value → Shared → Prop) → Prop) : Prop :=
  ∀ (dp un : Nat) (gd : Option (List Code)) (cn : Str) (cs : Scope) (a : Addr) (ccd : Value) (cl : List (Str × Addr)) (outer : List Env) (A₀ : Around) (base h₀ : Heap) (L : Addr) (m : Str → Option Value) (s : Shared) (Q E : Value → Shared → Prop),
    Below A₀ base outer h₀ → Fr h₀ L s.heap m → K.In h₀ → News h₀ L s.heap news → Top p loose mean mg mb h₀ → cs.kind = .function →
      dp + lv < recursionLimit → un + 8 * lv < cLine → R h₀ L m s Q →
      wpAny (model prog w) (ktrTop dp un gd cn cs L a ccd cl outer) (call (.ref f) vs) Q E s

abbrev RetI (news : List (Addr × Obj)) (x : Int) (h₀ : Heap) (L : Addr) (m : Str → Option Value) (s : Shared) (Q : Value → Shared → Prop) : Prop :=
  ∀ (t : Tok) (h' : Heap) (tk' : Nat), Fr h₀ L h' m → News h₀ L h' news → Q (.int x t) { s with heap := h', toks := tk' }
abbrev RetS (news : List (Addr × Obj)) (x : Str) (h₀ : Heap) (L : Addr) (m : Str → Option Value) (s : Shared) (Q : Value → Shared → Prop) : Prop :=
  ∀ (t : Tok) (h' : Heap) (tk' : Nat), Fr h₀ L h' m → News h₀ L h' news → Q (.str x t) { s with heap := h', toks := tk' }

abbrev RetL (news : List (Addr × Obj)) (xs : List Int) (h₀ : Heap) (L : Addr) (m : Str → Option Value) (s : Shared) (Q : Value → Shared → Prop) : Prop :=
  ∀ (b : Addr) (us : List Value) (n : Nat) (h' : Heap) (tk' : Nat), Fr h₀ L h' m → News h₀ L h' ((b, W.listOf us.toArray n) :: news) → IntsAre us xs → LCg.Off1 b news → Q (.ref b) { s with heap := h', toks := tk' }
theorem ints_snoc {us : List Value} {xs : List Int} {x : Int} {t : Tok} (h : IntsAre us xs) : IntsAre (us ++ [.int x t]) (xs ++ [x]) := IntsAre.append h (.cons x t .nil)
theorem rangeKs_snoc (a : Int) (n : Nat) : rangeKs a (n + 1) = rangeKs a n ++ [a + (n : Int)] := by
  unfold rangeKs
  rw [List.range_succ, List.map_append]
  rfl
theorem allLt_mem {d : Addr} : ∀ {l : List (Addr × Obj)}, AllLt d l → ∀ p ∈ l, p.1 < d
  | [], _, _, h => nomatch h
  | _ :: _, x, p, h => by
    rcases List.mem_cons.mp h with rfl | h
    · exact x.1
    · exact allLt_mem x.2 p h
theorem off1_of {d : Addr} : ∀ {l : List (Addr × Obj)}, AllLt d l → LCg.Off1 d l
  | [], _ => trivial
  | _ :: _, x => ⟨Nat.ne_of_lt x.1, off1_of x.2⟩
theorem off1_lt {d : Addr} : ∀ {l : List (Addr × Obj)}, (∀ p ∈ l, p.1 < d) → LCg.Off1 d l
  | [], _ => trivial
  | p :: _, x => ⟨Nat.ne_of_lt (x p (.head _)), off1_lt fun q hq => x q (.tail _ hq)⟩
theorem room1 {dp a b : Nat} (h : dp + a < recursionLimit) (hb : b + 1 ≤ a) : (dp + 1) + b < recursionLimit := by omega
theorem unit1 {un a b : Nat} (h : un + 8 * a < cLine) (hb : b + 1 ≤ a) : (un + 3) + 8 * b < cLine := by omega
def sgn (r : Int) : Nat := if r = 0 then 97 else 65
def sgS (r : Int) : Str := Str.mk #[sgn r]
end Mine

-- part Plain1
namespace Mine
open PySem PySem.W PyProof.Rows
/-- all rows of n signs -/
def bits : Nat → List (List Int)
  | 0 => [[]]
  | n + 1 => (bits n).flatMap fun r => [0 :: r, 1 :: r]
theorem mem_bits : ∀ (n : Nat) (ns : List Int), ns.length = n → (∀ r ∈ ns, 0 ≤ r ∧ r ≤ 1) → ns ∈ bits n
  | 0, ns, h, _ => by
    have : ns = [] := List.length_eq_zero_iff.mp h
    subst this; exact List.mem_singleton.mpr rfl
  | n + 1, [], h, _ => by cases h
  | n + 1, a :: r, h, hb => by
    have z := mem_bits n r (by simpa using h) fun x hx => hb x (.tail _ hx)
    have ha := hb a (.head _)
    refine List.mem_flatMap.mpr ⟨r, z, ?_⟩
    rcases (by omega : a = 0 ∨ a = 1) with rfl | rfl
    · exact .head _
    · exact .tail _ (.head _)
theorem of_bits : ∀ (n : Nat) (ns : List Int), ns ∈ bits n → ns.length = n ∧ ∀ r ∈ ns, 0 ≤ r ∧ r ≤ 1
  | 0, ns, h => by
    have e : ns = [] := List.mem_singleton.mp h
    subst e; exact ⟨rfl, fun _ h => nomatch h⟩
  | n + 1, ns, h => by
    obtain ⟨r, hr, h⟩ := List.mem_flatMap.mp h
    obtain ⟨hl, hb⟩ := of_bits n r hr
    rcases List.mem_cons.mp h with rfl | h
    · refine ⟨congrArg (· + 1) hl, fun x hx => ?_⟩
      rcases List.mem_cons.mp hx with rfl | hx
      · decide
      · exact hb x hx
    · rw [List.mem_singleton.mp h]
      refine ⟨congrArg (· + 1) hl, fun x hx => ?_⟩
      rcases List.mem_cons.mp hx with rfl | hx
      · decide
      · exact hb x hx
/-- the row's text -/
abbrev sgI (k : Int) : Str := Txt.item (Str.ofString "aA") k
abbrev letT (ns : List Int) : Str := Txt.join (Str.ofString "") (ns.map fun k => sgI k)
abbrev isSg (x : Str) : Prop := x = Str.ofString "a" ∨ x = Str.ofString "A"
def unl (x y : Str) : Int := if x = y then 0 else 1
theorem sgI_eq {r : Int} (h : 0 ≤ r ∧ r ≤ 1) : sgI r = ⟨#[sgn r]⟩ := by
  rcases (by omega : r = 0 ∨ r = 1) with rfl | rfl <;> decide +kernel
theorem letT_eq {ns : List Int} (hb : ∀ r ∈ ns, 0 ≤ r ∧ r ≤ 1) : letT ns = ⟨(ns.map sgn).toArray⟩ := by
  have e : (ns.map fun k => sgI k) = (ns.map sgn).map fun k => (⟨#[k]⟩ : Str) := by
    rw [List.map_map]
    exact List.map_congr_left fun r hr => sgI_eq (hb r hr)
  show Builtin.Str.glued (Str.ofString "") _ = _
  rw [StrLaws.glued_eq_join, e]
  exact PyProof.Rows.join_ones _
theorem let_at {ns : List Int} (hb : ∀ r ∈ ns, 0 ≤ r ∧ r ≤ 1) {k : Int} (h0 : 0 ≤ k) (h1 : k < (ns.length : Int)) : Txt.item (letT ns) k = ⟨#[sgn (ns.getD k.toNat 0)]⟩ := by
  rw [letT_eq hb]
  have hk : k.toNat < ns.length := by omega
  have e : Txt.charAt ⟨(ns.map sgn).toArray⟩ k = some (sgn ns[k.toNat]) := by
    have hl : Str.length ⟨(ns.map sgn).toArray⟩ = ns.length := by simp [Str.length]
    have hi : seqIndex? k (Str.length ⟨(ns.map sgn).toArray⟩) = some k.toNat := by
      rw [hl]
      unfold seqIndex?
      rw [if_neg (by omega : ¬ k < 0)]
      have c : (decide (0 ≤ k) && decide (k < (ns.length : Int))) = true := by rw [decide_eq_true h0, decide_eq_true h1]; rfl
      exact if_pos c
    unfold Txt.charAt
    rw [hi]
    show (ns.map sgn).toArray[k.toNat]? = _
    simp [hk]
  unfold Txt.item
  rw [e]
  simp [List.getD, hk]
theorem sgn_str (r : Int) : (⟨#[sgn r]⟩ : Str) = (if r = 0 then Str.ofString "a" else Str.ofString "A") := by
  unfold sgn
  split <;> decide +kernel
theorem let_sg (ns : List Int) (hl : ns.length = 8) (hb : ∀ r ∈ ns, 0 ≤ r ∧ r ≤ 1) (k : Int) (h0 : 0 ≤ k) (h1 : k < 8) : isSg (Txt.item (letT ns) k) := by
  rw [let_at hb h0 (by omega), sgn_str]
  split
  · exact .inl rfl
  · exact .inr rfl
end Mine

-- part Loop
namespace Mine
open PySem PySem.W PyProof.Rows PySem.Spec
/-- the end of a turn: the iterator stands as it stood, the rest as J says -/
def TEnd (h₀ : Heap) (L : Addr) (J : (Str → Option Value) → List (Addr × Obj) → Prop) (I : Addr) (it : Obj) (s₁ s₂ : Shared) : Prop :=
  ∃ (h' : Heap) (tk : Nat) (m' : Str → Option Value) (nx : List (Addr × Obj)), s₂ = { s₁ with heap := h', toks := tk } ∧ Fr h₀ L h' m' ∧ News h₀ L h' ((I, it) :: nx) ∧ (∀ p ∈ nx, p.1 ≠ I) ∧ J m' nx
def TPost (h₀ : Heap) (L : Addr) (J : (Str → Option Value) → List (Addr × Obj) → Prop) (I : Addr) (it : Obj) (s₁ : Shared) (Q : Flow → Shared → Prop) (f : Flow) (s₂ : Shared) : Prop :=
  match f with
  | .ret v => Q (.ret v) s₂
  | .brk => Q .next s₂
  | _ => TEnd h₀ L J I it s₁ s₂
theorem TEnd.mk {h₀ : Heap} {L : Addr} {J : (Str → Option Value) → List (Addr × Obj) → Prop} {I : Addr} {it : Obj} {s₁ : Shared} {h' : Heap} {tk : Nat} {m' : Str → Option Value} {all : List (Addr × Obj)} (F : Fr h₀ L h' m') (N : News h₀ L h' all) (nx : List (Addr × Obj))
    (sub : ∀ p ∈ (I, it) :: nx, p ∈ all) (off : ∀ p ∈ nx, p.1 ≠ I) (hj : J m' nx) : TEnd h₀ L J I it s₁ { s₁ with heap := h', toks := tk } := ⟨h', tk, m', nx, rfl, F, fun p hp => N p (sub p hp), off, hj⟩
section
variable {prog : Program} {w : World} {A : Around} {E : Value → Shared → Prop} {s : Shared} {env : Env} {h₀ : Heap} {target : Expr} {body : List Stmt} {Q : Flow → Shared → Prop}
theorem it_rng {x : Str} {px : Pos} {r : Addr} {a₀ b₀ : Int} {t₀ u₀ v₀ : Tok} {n : Nat} {m₀ : Str → Option Value} {news : List (Addr × Obj)} (J : Nat → (Str → Option Value) → List (Addr × Obj) → Prop)
    (hh : A.handled = none) (hr : IsRange s.heap r a₀ b₀ 1 t₀ u₀ v₀) (hsmall : Builtin.Range.small a₀ b₀ 1 = true) (hn : Builtin.Range.rangeSize a₀ b₀ 1 = (n : Int)) (F : Fr h₀ env.locals s.heap m₀) (N : News h₀ env.locals s.heap news) (hj : J 0 m₀ news)
    (turn : ∀ (i : Nat) (t : Tok) (m₁ : Str → Option Value) (news₁ : List (Addr × Obj)) (h : Heap) (tk : Nat) (I : Addr) (it : Obj), i < n → (∀ p ∈ news, p.1 < I) → (∀ p ∈ news₁, p.1 ≠ I) → J i m₁ news₁ → Fr h₀ env.locals h m₁ → News h₀ env.locals h ((I, it) :: news₁) →
      wpAny (model prog w) A (assign (.Name x px) env (.int (a₀ + (i : Int)) t)) (fun _ s₃ => wpAny (model prog w) A (execs body env) (TPost h₀ env.locals (J (i + 1)) I it { s with heap := h, toks := tk } Q) E s₃) E { s with heap := h, toks := tk })
    (done : ∀ (m₁ : Str → Option Value) (news₁ : List (Addr × Obj)) (h : Heap) (tk : Nat), J n m₁ news₁ → Fr h₀ env.locals h m₁ → News h₀ env.locals h news₁ → Q .next { s with heap := h, toks := tk }) :
    wpAny (model prog w) A (pyIter (.ref r)) (fun it s₂ => TurnsAt prog w A h₀ env (.Name x px) body Q E it s₂) E s := by
  refine wpAny_pyIter_range hr hsmall ?_
  have low : ∀ p ∈ news, p.1 < s.heap.objs.size := fun p hp => Heap.lt_size (N p hp).1
  have W := KTurns.ofWalks (target := .Name x px) (prog := prog) (w := w) (Walks.range (prog := prog) (w := w) hh s.heap.objs.size a₀ 1 n).bound (fun i v s' Q' E' _ hq => wpAny_pure hq)
  have hnew := next_is_new F
  have hI : env.locals ≠ s.heap.objs.size := Nat.ne_of_lt F.ns.lt
  refine ⟨_, _, _, n, _, _, _, m₀, news, J, rfl, W, ?_, ?_, ?_, (by show IsRangeIter _ _ _ _ _; rw [hn]; simpa using Heap.get?_push_size _ rfl), F.push _, (fun p hp => ⟨Heap.get?_push_of_some _ (N p hp).1, (N p hp).2⟩), hj, ?_, ?_⟩
  · intro hm; exact hI (List.mem_singleton.mp hm)
  · intro b hb; rw [List.mem_singleton.mp hb]; exact hnew
  · intro p hp hq; exact Nat.lt_irrefl _ ((List.mem_singleton.mp hq) ▸ low p hp)
  · rintro i v m₁ news₁ h₁ tk₁ own hi ⟨_, t, rfl⟩ hJ hoff hown hget hall hst F₁ N₁
    have hst' : ∃ it, h₁.get? s.heap.objs.size = some it := ⟨_, hst⟩
    obtain ⟨it, hit⟩ := hst'
    have hmem := hall s.heap.objs.size (List.mem_singleton.mpr rfl) hnew _ hit
    have hone : ∀ p ∈ own, p = (s.heap.objs.size, it) := fun p hp => by
      have h1 : p.1 = s.heap.objs.size := List.mem_singleton.mp (hown p hp)
      have h2 := hget p hp
      rw [h1, hit] at h2
      exact Prod.ext h1 (Option.some.inj h2).symm
    have N₂ : News h₀ env.locals h₁ ((s.heap.objs.size, it) :: news₁) := fun p hp => by
      rcases List.mem_cons.mp hp with rfl | hp
      · exact N₁ _ (List.mem_append_left _ hmem)
      · exact N₁ _ (List.mem_append_right _ hp)
    have e1 : a₀ + (i : Int) * 1 = a₀ + (i : Int) := by rw [Int.mul_one]
    rw [e1]
    refine wpAny_mono (turn i t m₁ news₁ h₁ tk₁ s.heap.objs.size it hi low (fun p hp hq => hoff p hp (List.mem_singleton.mpr hq)) hJ F₁ N₂) (fun _ s₃ h₃ => wpAny_mono h₃ (fun f s₂ p => ?_) fun _ _ e => e) fun _ _ e => e
    have fin : TEnd h₀ env.locals (J (i + 1)) s.heap.objs.size it { s with heap := h₁, toks := tk₁ } s₂ → LoopStepU h₀ env.locals [s.heap.objs.size] own (J (i + 1)) { s with heap := h₁, toks := tk₁ } .next s₂ := by
      rintro ⟨h', tk, m', nx, e, F', N', off, hj'⟩
      refine ⟨rfl, h', tk, m', nx, e, F', fun p hp => ?_, fun p hp hq => off p hp (List.mem_singleton.mp hq), hj'⟩
      rcases List.mem_append.mp hp with hp | hp
      · rw [hone p hp]; exact N' _ (.head _)
      · exact N' _ (.tail _ hp)
    cases f with
    | ret v => exact p
    | brk => exact p
    | next => exact fin p
    | cont => exact fin p
  · rintro h' tk m' news' F' N' _ hJ
    exact done m' news' h' tk hJ F' N'
end
end Mine

-- part Sub
namespace Mine
open PySem PySem.W PyProof.Rows
theorem unl_same (x : Str) : unl x x = 0 := by unfold unl; simp
theorem unl_aA : unl (Str.ofString "a") (Str.ofString "A") = 1 := by decide +kernel
theorem unl_Aa : unl (Str.ofString "A") (Str.ofString "a") = 1 := by decide +kernel
theorem sub_cl (w : World) (p : Program) (loose : List Str) (mean : ExcName → Option Value) (mg mb : Str → Option Value) (news : List (Addr × Obj)) (tx ty : Tok) (x y : Str) (hx : isSg x) (hy : isSg y) :
   Cl PySem.Challenge.rw_sr0010_01.row.prog w (hd.heap_39 w.params) p loose mean mg mb 71 2 [.str x tx, .str y ty] news (RetI news (unl x y)) := by
  k_fill
  dsimp only [Cl, RetI]
  rcases hx with rfl | rfl <;> rcases hy with rfl | rfl
  all_goals (
    simp only [unl_same, unl_aA, unl_Aa]
    intros; rename_i hret
    refine wpAny_call ?_
    k_dflt cell_enter
    w_top off
    k_steps
    all_goals cb_end hret)
end Mine

-- part Common
namespace Mine
open PySem PySem.W PyProof.Rows
theorem off_all {news : List (Addr × Obj)} {X d : Nat} (h : ∀ p ∈ news, p.1 < X) (hx : X ≤ d) : ∀ p ∈ news, p.1 ≠ d := fun p hp => Nat.ne_of_lt (Nat.lt_of_lt_of_le (h p hp) hx)
theorem src_led {h₀ : Heap} {ax : Addr} {its : Array Value} {k : Nat} {news : List (Addr × Obj)} (hm : (ax, ({ cls := .type "list", data := .seq its k } : Obj)) ∈ news) : LCg.SrcAt h₀ ax its news := .inr ⟨_, hm, rfl, _, rfl⟩
structure B8 (vs : List Value) (ns : List Int) : Prop where
  are : IntsAre vs ns
  len : ns.length = 8
  bnd : ∀ r ∈ ns, 0 ≤ r ∧ r ≤ 1
theorem B8.size {vs : List Value} {ns : List Int} (h : B8 vs ns) : vs.toArray.size ≤ sizeLine := by
  rw [List.size_toArray, h.are.length, h.len]; decide
theorem B8.lenT {vs : List Value} {ns : List Int} (h : B8 vs ns) : (letT ns).length = 8 := by
  rw [KT.join_ones _ (fun a ha => by obtain ⟨b, _, e⟩ := List.mem_map.1 ha; rw [← e]; rfl), List.length_map, h.len]
theorem B8.sg {vs : List Value} {ns : List Int} (h : B8 vs ns) {k : Int} (h0 : 0 ≤ k) (h1 : k < 8) : isSg (Txt.item (letT ns) k) := let_sg ns h.len h.bnd k h0 h1
section
variable {prog : Program} {w : World} {A : Around} {E : Value → Shared → Prop} {s : Shared}
theorem item_ints {value slice : PySem.Expr} {l : Addr} {vs : List Value} {ns : List Int} {k : Int} {u : Tok} {Q : Value → Shared → Prop}
    (hl : s.heap.IsList l vs.toArray) (hI : IntsAre vs ns) (h0 : 0 ≤ k) (h1 : k < (ns.length : Int)) (hz : ns.length ≤ 1000) (h : ∀ t, Q (.int (ns.getD k.toNat 0) t) s)
    (hs : subscripted slice false (.ref l) (.int k u) = operate [.ref l, .int k u] (getItem (.ref l) (.int k u)) := by with_unfolding_all rfl) :
    wpAny (model prog w) A (subscriptTail value slice (.ref l) (.int k u)) Q E s := by
  have hk : k.toNat < ns.length := by omega
  obtain ⟨t, hx⟩ := hI.get k.toNat ns[k.toNat] (by simp [hk])
  have e : ns.getD k.toNat 0 = ns[k.toNat] := by simp [List.getD, hk]
  refine tail_any hl.typeIs slot_list_getitem.lookup (wpAny_getItem_list hl h0 (by omega) (by simpa using hx) ?_) hs
  have := h t
  rw [e] at this
  exact this
end
end Mine

-- part Def2
namespace Mine
open PySem PySem.W PyProof.Rows PySem.Calls PySem.Spec
/-- the heap's first n objects -/
def cutAt (h : Heap) (n : Nat) : Heap := { h with objs := (h.objs.toList.take n).toArray }
theorem cut_get {h : Heap} {n : Nat} {b : Nat} (hb : b < n) : (cutAt h n).get? b = h.get? b := by
  have : (cutAt h n).objs[b]? = h.objs[b]? := by
    simp only [cutAt, List.getElem?_toArray, List.getElem?_take_of_lt hb, Array.getElem?_toList]
  simp only [Heap.get?, this]
theorem cut_size {h : Heap} {n : Nat} : (cutAt h n).objs.size ≤ n := by simp [cutAt]; exact Nat.min_le_left _ _
theorem cut_of {h : Heap} {n : Nat} {b : Nat} {o : Obj} (e : (cutAt h n).get? b = some o) : h.get? b = some o := by
  have := Heap.lt_size e
  rw [← cut_get (n := n) (Nat.lt_of_lt_of_le this cut_size)]; exact e
theorem cells_le {cm : Str → Option Value} {n : Nat} : ∀ {cs : List (Str × Addr)} {cells : List (Addr × Obj)}, CellsAre cm cs cells → (∀ q ∈ cs, @LE.le Nat _ n q.2) → ∀ p ∈ cells, @LE.le Nat _ n p.1
  | _, _, .nil, _, _, hp => nomatch hp
  | _, _, .cons _ X, hq, p, hp => by
    rcases List.mem_cons.mp hp with rfl | hp
    · exact hq _ (.head _)
    · exact cells_le X (fun q h => hq q (.tail _ h)) p hp
theorem from_le : ∀ (names : List (Str × NameKind)) (lo n : Nat) (acc : List (Str × Addr)), lo ≤ n → (∀ q ∈ acc, @LE.le Nat _ lo q.2) → ∀ q ∈ cellsFrom n names acc, @LE.le Nat _ lo q.2
  | [], _, _, _, _, h => h
  | (x, k) :: r, lo, n, acc, hn, h => by
    unfold cellsFrom
    split
    · refine from_le r lo (n + 1) _ (Nat.le_succ_of_le hn) fun q hq => ?_
      rcases List.mem_cons.mp hq with rfl | hq
      · exact hn
      · exact h q hq
    · exact from_le r lo n acc hn h
section
variable {prog : Program} {w : World} {A A₀ : Around} {s : Shared} {K : Frag} {L : Addr} {h₀ base : Heap} {m mg mb : Str → Option Value} {near far : List (Addr × Obj)} {p : Program} {loose : List Str} {mean : ExcName → Option Value}
/-- a def's call that reaches only the near part of the ledger: the far part stays -/
theorem code_far {env : Env} {outer : List Env} {R : Result → Shared → Prop} {name qual : Str} {params : Arguments} {body : List Stmt} {scope : Scope} {dV kV doc pm cdv ct oc : Value} {an od : Option Addr} {osl : Array (Option Value)} {f : Addr} {args : Args} {binds : List (Str × Value)}
    (B : Below A₀ base outer h₀) (F : Fr h₀ L s.heap m) (X₀ : K.In h₀) (N : News h₀ L s.heap (near ++ far)) (hdis : ∀ p ∈ far, p.1 ∉ near.map (·.1)) (T : Top p loose mean mg mb h₀) (hA : A.frames = some (env :: outer)) (hf : env.frame = some L) (hke : env.scope.kind = .function)
    (ho : K.lookup f = some ⟨oc, od, .func (fnOf name qual params body scope dV kV doc pm an cdv ct), osl⟩) (hcd : codeIn K cdv qual = true) (hroom : A.depth < recursionLimit)
    (hbind : BindsTo s (fnOf name qual params body scope dV kV doc pm an cdv ct) args binds) (hkind : (binds.all fun y => scope.names.lookup y.1 == some .local || scope.names.lookup y.1 == some .cell) = true)
    (hnd : ((cellsFrom 0 scope.names []).map (·.1)).Nodup)
    (h : ∀ g L' h₁ tk cells, Fr h₀ L g m → Fr g L' h₁ (bindL (envOfC qual scope L' f cdv).kindOf binds fun _ => none) → News g L' h₁ (cells ++ near) →
      CellsAre (bindC (envOfC qual scope L' f cdv).kindOf binds fun _ => none) (cellsFrom (L' + 1) scope.names []) cells → Below A base (env :: outer) g → K.In g → Top p loose mean mg mb g → (∀ p ∈ near, p.1 < L') → (∀ p ∈ far, p.1 < L') →
      wpAny (model prog w) (A.deeper (envOfC qual scope L' f cdv)) (execs body (envOfC qual scope L' f cdv))
        (fun fl s' => LeaveK h₀ L m g (fun r s' => News h₀ L s'.heap far → R r s') (match fl with | .ret v => v | _ => .none) s')
        (fun e s' => wpAny (model prog w) (A.deeper (envOfC qual scope L' f cdv)) (leaving (envOfC qual scope L' f cdv) e) (fun _ s'' => R (.error e) s'') (fun e' s'' => R (.error e') s'') s')
        { s with heap := h₁, toks := tk })
    (hco : scope.isCoroutine = false) (hgen : scope.isGenerator = false) (hk : scope.kind = .function) : codeAny (model prog w) A (.call (.ref f) args) R s := by
  refine code_defC B F X₀ N T hA hf hke ho hcd hroom hbind hkind hnd (fun g L' h₁ tk cells F1 F2 N2 Y B2 X2 T2 lt => ?_) hco hgen hk
  have nearN : ∀ b o, g.get? b = some o → b ∉ near.map (·.1) := fun b o e q => by
    obtain ⟨q', hq, rfl⟩ := List.mem_map.mp q
    rw [(N2 q' (List.mem_append_right _ (List.mem_append_left _ hq))).2.2] at e; cases e
  have st : ∀ b o, g.get? b = some o → (hideAll (cutAt h₁ L') (near.map (·.1))).get? b = some o := fun b o e => by
    refine hideAll_get _ ?_ (nearN b o e)
    rw [cut_get (Nat.lt_of_lt_of_le (Heap.lt_size e) F2.above)]
    exact F2.keep b o e
  have of : ∀ b o, (hideAll (cutAt h₁ L') (near.map (·.1))).get? b = some o → h₁.get? b = some o := fun b o e => cut_of (of_hideAll _ e)
  have sz : (hideAll (cutAt h₁ L') (near.map (·.1))).objs.size ≤ L' := by rw [hideAll_size]; exact cut_size
  have none0 : ∀ b, b ∈ near.map (·.1) ∨ @LE.le Nat _ L' b → (hideAll (cutAt h₁ L') (near.map (·.1))).get? b = none := fun b hb => by
    cases q : (hideAll (cutAt h₁ L') (near.map (·.1))).get? b with
    | none => rfl
    | some o =>
      rcases hb with hb | hb
      · rw [hideAll_none _ hb] at q; cases q
      · exact absurd (Nat.lt_of_lt_of_le (Heap.lt_size q) sz) (Nat.not_lt.mpr hb)
  have cellLe : ∀ p ∈ cells, @LE.le Nat _ L' p.1 := cells_le Y (from_le _ _ _ _ (Nat.le_succ _) fun _ h => nomatch h)
  refine wpAny_mono (h (hideAll (cutAt h₁ L') (near.map (·.1))) L' h₁ tk cells ⟨?_, fun b o e => st b o (F1.keep b o e), F1.above⟩ ⟨F2.ns, of, sz⟩ (fun q hq => ?_) Y ⟨B2.stack, fun b o e => st b o (B2.stays b o e), B2.frames.of_keeps fun b o e _ => ⟨o, st b o e, rfl⟩⟩
    (X2.keeps st) (T2.keeps st) (fun q hq => lt q (List.mem_append_left _ hq)) (fun q hq => lt q (List.mem_append_right _ hq))) (fun fl s' hl => ?_) fun _ _ e => e
  · obtain ⟨oL, es, ep, hL, r⟩ := F1.ns
    exact ⟨oL, es, ep, st _ _ hL, r⟩
  · rcases List.mem_append.mp hq with hq | hq
    · have z := N2 q (List.mem_append_left _ hq)
      exact ⟨z.1, z.2.1, none0 _ (.inr (cellLe q hq))⟩
    · have z := N2 q (List.mem_append_right _ (List.mem_append_left _ hq))
      exact ⟨z.1, z.2.1, none0 _ (.inl (List.mem_map_of_mem hq))⟩
  · obtain ⟨L'', m'', news'', F', N', k⟩ := hl
    refine ⟨L'', m'', news'', ⟨F'.ns, fun b o e => F'.keep b o (st b o e), ?_⟩, fun q hq => ?_, fun f n => k f n fun q hq => ?_⟩
    · have e : (hideAll (cutAt h₁ L') (near.map (·.1))).objs.size = L' := by
        rw [hideAll_size]
        have := F2.ns.lt
        simp only [cutAt, List.size_toArray, List.length_take, Array.length_toList]
        exact Nat.min_eq_left (Nat.le_of_lt this)
      exact Nat.le_trans (Nat.le_trans F2.above (Nat.le_of_eq e.symm)) F'.above
    · have z := N' q hq
      refine ⟨z.1, z.2.1, ?_⟩
      cases e : g.get? q.1 with
      | none => rfl
      | some o => have := z.2.2; rw [st _ _ e] at this; cases this
    · have z := N q (List.mem_append_right _ hq)
      have z2 := N2 q (List.mem_append_right _ (List.mem_append_right _ hq))
      refine ⟨F'.keep _ _ (hideAll_get _ ?_ (hdis q hq)), z.2.1, z.2.2⟩
      rw [cut_get (lt q (List.mem_append_right _ hq))]
      exact z2.1
end
end Mine

-- part Costs
namespace Mine
open PySem PySem.W PyProof.Rows
theorem cb1 {k : Int} {i : Nat} (h : k < 0 + ((((8 : Int) - (1 + (i : Int)) - 0).toNat : Nat) : Int)) (_ : i < 7) : k < ((8 : Nat) : Int) := by omega
theorem cb2 {k : Int} {i : Nat} (h : 0 ≤ k) : 0 ≤ k + (1 + (i : Int)) := by omega
theorem cb3 {k : Int} {i : Nat} (h : k < 0 + ((((8 : Int) - (1 + (i : Int)) - 0).toNat : Nat) : Int)) (_ : i < 7) : k + (1 + (i : Int)) < ((8 : Nat) : Int) := by omega
local macro_rules | `(tactic| k_mem) => `(tactic| assumption)
local macro_rules | `(tactic| k_all) => `(tactic| (refine off_all (by with_reducible assumption) ?_; omega))
def costOf (ns : List Int) (sh : Int) : Int := ((rangeKs 0 (8 - sh).toNat).map (fun k => unl (Txt.item (letT ns) k) (Txt.item (letT ns) (k + sh)))).sum
theorem costs_cl (w : World) (p : Program) (loose : List Str) (mean : ExcName → Option Value) (mg mb : Str → Option Value) (news : List (Addr × Obj)) (l : Addr) (vs : List Value) (ns : List Int)
   (nn : Nat) (hl : (l, W.listOf vs.toArray nn) ∈ news) (hB : B8 vs ns) :
   Cl PySem.Challenge.rw_sr0010_01.row.prog w (hd.heap_39 w.params) p loose mean mg mb 95 5 [.ref l] news (RetL news ((rangeKs 1 7).map (costOf ns))) := by
  k_fill
  dsimp only [Cl, RetL]
  intros; rename_i hret
  refine wpAny_call ?_
  k_dflt (refine' code_defC ?k1 ?k2 ?k3 ?k4 ?k5 ?kA ?kF ?kK ?k6 ?k7 ?k8 ?k9 ?kB ?kD ?_ ?c2 ?c3 ?c4; (case kA => exact rfl); (case kF => exact rfl); (case kK => assumption); (case k1 => k_asm); (case k2 => k_asm); (case k3 => k_asm); (case k4 => k_asm); (case k5 => k_asm); (case k6 => k_is); (case k7 => k_is); (case k8 => ktr_room); (case k9 => exact BindsTo.of_eq rfl); (case kB => exact rfl); (case kD => decide +kernel); (case c2 => exact rfl); (case c3 => exact rfl); (case c4 => exact rfl); k_whole; intro g' L' h' tk' cells' FG' F' N' Y' B' X' T' l1; k_cells Y'; (try simp only [List.cons_append, List.nil_append] at N'); (try dsimp only); (try k_lift B'); (try k_fold))
  rename_i o1 o2 d1 d2
  replace F' : Fr g' L' h' (fun y => if y = Str.ofString "row" then some (.ref l) else none) := F'
  replace d1 : o1.data = .cell none := d1
  replace d2 : o2.data = .cell none := d2
  have hlL : @LT.lt Nat _ l L' := l1 _ hl
  w_top off
  repeat' (first
      | (k_unfold; (try dsimp only))
      | (k_end; kc_close)
      | ((with_reducible show wpAny _ _ (eval (PySem.Expr.ListComp _ _ _ _) _) _ _ _); first | with_reducible (k_here; k_dflt (refine LCg.ListComp_U (F₀ := by k_asm) (by with_unfolding_all rfl) (by decide) (by rfl) (by decide) (by rfl) ?_)) | (k_here; k_dflt (refine LCg.ListComp_U (F₀ := by k_asm) (by with_unfolding_all rfl) (by decide) (by rfl) (by decide) (by rfl) ?_)))
      | ((with_reducible show LCg.CompSrc _ _ _ _ _ _ _ _ _ _ _ _ _ _); first | with_reducible (k_here; (with_reducible rename B8 _ _ => hB9); k_dflt (refine LCg.CompSrc.ledger (by rfl) (by k_asm) (by k_asm) (List.mem_cons_of_mem _ (List.mem_cons_of_mem _ (by with_reducible assumption))) (B8.size hB9) ?_); intro gX9; (refine' kct_list (fun k => sgI k) (B8.are hB9) (fun k' t' I' oI' C' oC' D' m' ys' h' tk' E' hk' hC' hx' F' N' off' ne' => ?_) ?_); (all_goals (try (simp only [LCg.Off3, and_true] at off'))); (all_goals (try ((show KPfMark → _); intro hMark'))); (all_goals (try k_fold))) | (k_here; (with_reducible rename B8 _ _ => hB9); k_dflt (refine LCg.CompSrc.ledger (by rfl) (by k_asm) (by k_asm) (List.mem_cons_of_mem _ (List.mem_cons_of_mem _ (by with_reducible assumption))) (B8.size hB9) ?_); intro gX9; (refine' kct_list (fun k => sgI k) (B8.are hB9) (fun k' t' I' oI' C' oC' D' m' ys' h' tk' E' hk' hC' hx' F' N' off' ne' => ?_) ?_); (all_goals (try (simp only [LCg.Off3, and_true] at off'))); (all_goals (try ((show KPfMark → _); intro hMark'))); (all_goals (try k_fold))))
      | (first | with_reducible (k_here; (with_reducible show wpAny _ _ (subscriptTail _ _ (Value.str (Str.ofString "aA") _) (Value.int _ _)) _ _ _); (with_reducible rename B8 _ _ => hB9); (with_reducible rename _ ∈ _ => hmem9); (have hbnd9 := B8.bnd hB9 _ hmem9); (refine KXi.item (n := 2) (by decide) (by omega) (by omega) (by decide) ?_); intro kxiE; clear kxiE) | (k_here; (with_reducible show wpAny _ _ (subscriptTail _ _ (Value.str (Str.ofString "aA") _) (Value.int _ _)) _ _ _); (with_reducible rename B8 _ _ => hB9); (with_reducible rename _ ∈ _ => hmem9); (have hbnd9 := B8.bnd hB9 _ hmem9); (refine KXi.item (n := 2) (by decide) (by omega) (by omega) (by decide) ?_); intro kxiE; clear kxiE))
      | ((with_reducible show wpAny _ _ (subscriptTail (PySem.Expr.Name _ _) (PySem.Expr.Name _ _) (Value.str _ _) (Value.int _ _)) _ _ _); first | with_reducible (k_here; (with_reducible rename B8 _ _ => hB9); (refine KXi.item (n := 8) (B8.lenT hB9) (by first | assumption | exact cb2 (by assumption) | omega) (by first | exact cb1 (by assumption) (by assumption) | exact cb3 (by assumption) (by assumption) | omega) (by decide) ?_); intro kxiE; clear kxiE) | (k_here; (with_reducible rename B8 _ _ => hB9); (refine KXi.item (n := 8) (B8.lenT hB9) (by first | assumption | exact cb2 (by assumption) | omega) (by first | exact cb1 (by assumption) (by assumption) | exact cb3 (by assumption) (by assumption) | omega) (by decide) ?_); intro kxiE; clear kxiE))
      | ((with_reducible show wpAny _ _ (subscriptTail (PySem.Expr.Name _ _) (PySem.Expr.BinOp _ _ _ _) (Value.str _ _) (Value.int _ _)) _ _ _); first | with_reducible (k_here; (with_reducible rename B8 _ _ => hB9); (refine KXi.item (n := 8) (B8.lenT hB9) (by first | assumption | exact cb2 (by assumption) | omega) (by first | exact cb1 (by assumption) (by assumption) | exact cb3 (by assumption) (by assumption) | omega) (by decide) ?_); intro kxiE; clear kxiE) | (k_here; (with_reducible rename B8 _ _ => hB9); (refine KXi.item (n := 8) (B8.lenT hB9) (by first | assumption | exact cb2 (by assumption) | omega) (by first | exact cb1 (by assumption) (by assumption) | exact cb3 (by assumption) (by assumption) | omega) (by decide) ?_); intro kxiE; clear kxiE))
      | (first | with_reducible (k_here; (with_reducible show wpAny _ _ (call (Value.ref 71) [Value.str _ _, Value.str _ _]) _ _ _); (with_reducible rename B8 _ _ => hB9); k_dflt (refine' sub_cl _ _ _ _ _ _ _ _ _ _ _ ?hx ?hy _ _ _ _ _ _ _ _ _ _ _ _ _ _ _ _ _ ?kB ?kF ?kK ?kN ?kT ?kk ?kd ?ku ?_; (case hx => exact B8.sg hB9 (by first | assumption | exact cb2 (by assumption) | omega) (by first | exact cb1 (by assumption) (by assumption) | exact cb3 (by assumption) (by assumption) | omega)); (case hy => exact B8.sg hB9 (by first | assumption | exact cb2 (by assumption) | omega) (by first | exact cb1 (by assumption) (by assumption) | exact cb3 (by assumption) (by assumption) | omega)); (case kB => k_asm); (case kF => k_asm); (case kK => k_asm); (case kN => k_asm); (case kT => k_asm); (case kk => rfl); (case kd => exact room1 (by assumption) (by decide)); (case ku => exact unit1 (by assumption) (by decide))); dsimp only [RetI]; intro t9 h9 tk9 F9 N9; (try dsimp only); (try k_fold)) | (k_here; (with_reducible show wpAny _ _ (call (Value.ref 71) [Value.str _ _, Value.str _ _]) _ _ _); (with_reducible rename B8 _ _ => hB9); k_dflt (refine' sub_cl _ _ _ _ _ _ _ _ _ _ _ ?hx ?hy _ _ _ _ _ _ _ _ _ _ _ _ _ _ _ _ _ ?kB ?kF ?kK ?kN ?kT ?kk ?kd ?ku ?_; (case hx => exact B8.sg hB9 (by first | assumption | exact cb2 (by assumption) | omega) (by first | exact cb1 (by assumption) (by assumption) | exact cb3 (by assumption) (by assumption) | omega)); (case hy => exact B8.sg hB9 (by first | assumption | exact cb2 (by assumption) | omega) (by first | exact cb1 (by assumption) (by assumption) | exact cb3 (by assumption) (by assumption) | omega)); (case kB => k_asm); (case kF => k_asm); (case kK => k_asm); (case kN => k_asm); (case kT => k_asm); (case kk => rfl); (case kd => exact room1 (by assumption) (by decide)); (case ku => exact unit1 (by assumption) (by decide))); dsimp only [RetI]; intro t9 h9 tk9 F9 N9; (try dsimp only); (try k_fold)))
      | (first | with_reducible (k_here; (with_reducible show wpAny _ _ (call (Value.builtin "str.join") [Value.str _ _, Value.ref _]) _ _ _); (with_reducible rename B8 _ _ => hB9); (with_reducible rename CarriedAll _ (List.map _ _) => ktC); (refine KT.join_1 (News.isList (by k_asm) (by exact List.mem_cons_self)) ktC (fun _ _ => len_item _ _) (by rw [B8.len hB9]; decide) ?_; intro _ _ ktE)) | (k_here; (with_reducible show wpAny _ _ (call (Value.builtin "str.join") [Value.str _ _, Value.ref _]) _ _ _); (with_reducible rename B8 _ _ => hB9); (with_reducible rename CarriedAll _ (List.map _ _) => ktC); (refine KT.join_1 (News.isList (by k_asm) (by exact List.mem_cons_self)) ktC (fun _ _ => len_item _ _) (by rw [B8.len hB9]; decide) ?_; intro _ _ ktE)))
      | ((with_reducible show LCg.CompEnd _ _ _ _ _ _ _ _ _ _ _ _ _ _); first | with_reducible (refine LCg.CompEnd.intro (by assumption) (by assumption) _ (fun _ hp => hp) (by first | assumption | (simp only [LCg.Off3, and_true]; assumption)) (by first | exact True.intro | exact src_led (by k_mem)) ?_) | (refine LCg.CompEnd.intro (by assumption) (by assumption) _ (fun _ hp => hp) (by first | assumption | (simp only [LCg.Off3, and_true]; assumption)) (by first | exact True.intro | exact src_led (by k_mem)) ?_))
      | ((with_reducible show wpAny _ _ (exec (PySem.Stmt.For _ _ _ _ _) _) _ _ _); first | with_reducible (k_here; (rename Fr _ _ _ _ => lF'); (with_unfolding_all (refine' For_turns lF' ?_; k_whole))) | (k_here; (rename Fr _ _ _ _ => lF'); (with_unfolding_all (refine' For_turns lF' ?_; k_whole))))
      | walk1
      | (dsimp only; walk1)
      | (leave1; (try dsimp only))
      | fail "no step")
  rename_i D1 _ _ oD tL _ _ oL dL _ lc _ lcs _ _ _ hh _ tr ur vr hR hF hN hK
  have hN2 : News g' L' hh ((lc, W.listOf ([] : List Value).toArray 0) :: (L' + 1 + 1, o1) :: (L' + 1, oL) :: news) := cb_drop hN (by intro p hp; rcases List.mem_cons.mp hp with rfl | hp; exact .head _; exact .tail _ (.tail _ hp))
  refine it_rng (n := 7) (fun i m₁ news₁ => m₁ = (fun y => if y = Str.ofString "costs" then some (Value.ref lc) else if y = Str.ofString "row" then some (Value.ref l) else none) ∧ ∃ us nn oS vS, news₁ = (lc, W.listOf us.toArray nn) :: (L' + 1 + 1, oS) :: (L' + 1, oL) :: news ∧ oS.data = .cell vS ∧ IntsAre us ((rangeKs 1 i).map (costOf ns))) rfl hR (by decide) (by decide) hF hN2 ⟨rfl, [], 0, o1, none, rfl, d1, .nil⟩ ?_ ?_
  · rintro i t m₁ news₁ h tk I it hi hlo hoff ⟨rfl, us, nn, oS, vS, rfl, dS, hU⟩ F' N'
    have hi1 : @LT.lt Nat _ lc I := hlo (lc, _) (.head _)
    have hi2 : @LT.lt Nat _ (L' + 1 + 1) I := hlo (_, _) (.tail _ (.head _))
    clear hK hN hN2 hF hR ktE hoff
    w_top off
    repeat' (first
        | (k_unfold; (try dsimp only))
        | (k_end; kc_close)
        | ((with_reducible show wpAny _ _ (eval (PySem.Expr.ListComp _ _ _ _) _) _ _ _); first | with_reducible (k_here; k_dflt (refine LCg.ListComp_U (F₀ := by k_asm) (by with_unfolding_all rfl) (by decide) (by rfl) (by decide) (by rfl) ?_)) | (k_here; k_dflt (refine LCg.ListComp_U (F₀ := by k_asm) (by with_unfolding_all rfl) (by decide) (by rfl) (by decide) (by rfl) ?_)))
        | ((with_reducible show LCg.CompSrc _ _ _ _ _ _ _ _ _ _ _ _ _ _); first | with_reducible (k_here; (with_reducible rename B8 _ _ => hB9); k_dflt (refine LCg.CompSrc.ledger (by rfl) (by k_asm) (by k_asm) (List.mem_cons_of_mem _ (List.mem_cons_of_mem _ (by with_reducible assumption))) (B8.size hB9) ?_); intro gX9; (refine' kct_list (fun k => sgI k) (B8.are hB9) (fun k' t' I' oI' C' oC' D' m' ys' h' tk' E' hk' hC' hx' F' N' off' ne' => ?_) ?_); (all_goals (try (simp only [LCg.Off3, and_true] at off'))); (all_goals (try ((show KPfMark → _); intro hMark'))); (all_goals (try k_fold))) | (k_here; (with_reducible rename B8 _ _ => hB9); k_dflt (refine LCg.CompSrc.ledger (by rfl) (by k_asm) (by k_asm) (List.mem_cons_of_mem _ (List.mem_cons_of_mem _ (by with_reducible assumption))) (B8.size hB9) ?_); intro gX9; (refine' kct_list (fun k => sgI k) (B8.are hB9) (fun k' t' I' oI' C' oC' D' m' ys' h' tk' E' hk' hC' hx' F' N' off' ne' => ?_) ?_); (all_goals (try (simp only [LCg.Off3, and_true] at off'))); (all_goals (try ((show KPfMark → _); intro hMark'))); (all_goals (try k_fold))))
        | (first | with_reducible (k_here; (with_reducible show wpAny _ _ (subscriptTail _ _ (Value.str (Str.ofString "aA") _) (Value.int _ _)) _ _ _); (with_reducible rename B8 _ _ => hB9); (with_reducible rename _ ∈ _ => hmem9); (have hbnd9 := B8.bnd hB9 _ hmem9); (refine KXi.item (n := 2) (by decide) (by omega) (by omega) (by decide) ?_); intro kxiE; clear kxiE) | (k_here; (with_reducible show wpAny _ _ (subscriptTail _ _ (Value.str (Str.ofString "aA") _) (Value.int _ _)) _ _ _); (with_reducible rename B8 _ _ => hB9); (with_reducible rename _ ∈ _ => hmem9); (have hbnd9 := B8.bnd hB9 _ hmem9); (refine KXi.item (n := 2) (by decide) (by omega) (by omega) (by decide) ?_); intro kxiE; clear kxiE))
        | ((with_reducible show wpAny _ _ (subscriptTail (PySem.Expr.Name _ _) (PySem.Expr.Name _ _) (Value.str _ _) (Value.int _ _)) _ _ _); first | with_reducible (k_here; (with_reducible rename B8 _ _ => hB9); (refine KXi.item (n := 8) (B8.lenT hB9) (by first | assumption | exact cb2 (by assumption) | omega) (by first | exact cb1 (by assumption) (by assumption) | exact cb3 (by assumption) (by assumption) | omega) (by decide) ?_); intro kxiE; clear kxiE) | (k_here; (with_reducible rename B8 _ _ => hB9); (refine KXi.item (n := 8) (B8.lenT hB9) (by first | assumption | exact cb2 (by assumption) | omega) (by first | exact cb1 (by assumption) (by assumption) | exact cb3 (by assumption) (by assumption) | omega) (by decide) ?_); intro kxiE; clear kxiE))
        | ((with_reducible show wpAny _ _ (subscriptTail (PySem.Expr.Name _ _) (PySem.Expr.BinOp _ _ _ _) (Value.str _ _) (Value.int _ _)) _ _ _); first | with_reducible (k_here; (with_reducible rename B8 _ _ => hB9); (refine KXi.item (n := 8) (B8.lenT hB9) (by first | assumption | exact cb2 (by assumption) | omega) (by first | exact cb1 (by assumption) (by assumption) | exact cb3 (by assumption) (by assumption) | omega) (by decide) ?_); intro kxiE; clear kxiE) | (k_here; (with_reducible rename B8 _ _ => hB9); (refine KXi.item (n := 8) (B8.lenT hB9) (by first | assumption | exact cb2 (by assumption) | omega) (by first | exact cb1 (by assumption) (by assumption) | exact cb3 (by assumption) (by assumption) | omega) (by decide) ?_); intro kxiE; clear kxiE))
        | (first | with_reducible (k_here; (with_reducible show wpAny _ _ (call (Value.ref 71) [Value.str _ _, Value.str _ _]) _ _ _); (with_reducible rename B8 _ _ => hB9); k_dflt (refine' sub_cl _ _ _ _ _ _ _ _ _ _ _ ?hx ?hy _ _ _ _ _ _ _ _ _ _ _ _ _ _ _ _ _ ?kB ?kF ?kK ?kN ?kT ?kk ?kd ?ku ?_; (case hx => exact B8.sg hB9 (by first | assumption | exact cb2 (by assumption) | omega) (by first | exact cb1 (by assumption) (by assumption) | exact cb3 (by assumption) (by assumption) | omega)); (case hy => exact B8.sg hB9 (by first | assumption | exact cb2 (by assumption) | omega) (by first | exact cb1 (by assumption) (by assumption) | exact cb3 (by assumption) (by assumption) | omega)); (case kB => k_asm); (case kF => k_asm); (case kK => k_asm); (case kN => k_asm); (case kT => k_asm); (case kk => rfl); (case kd => exact room1 (by assumption) (by decide)); (case ku => exact unit1 (by assumption) (by decide))); dsimp only [RetI]; intro t9 h9 tk9 F9 N9; (try dsimp only); (try k_fold)) | (k_here; (with_reducible show wpAny _ _ (call (Value.ref 71) [Value.str _ _, Value.str _ _]) _ _ _); (with_reducible rename B8 _ _ => hB9); k_dflt (refine' sub_cl _ _ _ _ _ _ _ _ _ _ _ ?hx ?hy _ _ _ _ _ _ _ _ _ _ _ _ _ _ _ _ _ ?kB ?kF ?kK ?kN ?kT ?kk ?kd ?ku ?_; (case hx => exact B8.sg hB9 (by first | assumption | exact cb2 (by assumption) | omega) (by first | exact cb1 (by assumption) (by assumption) | exact cb3 (by assumption) (by assumption) | omega)); (case hy => exact B8.sg hB9 (by first | assumption | exact cb2 (by assumption) | omega) (by first | exact cb1 (by assumption) (by assumption) | exact cb3 (by assumption) (by assumption) | omega)); (case kB => k_asm); (case kF => k_asm); (case kK => k_asm); (case kN => k_asm); (case kT => k_asm); (case kk => rfl); (case kd => exact room1 (by assumption) (by decide)); (case ku => exact unit1 (by assumption) (by decide))); dsimp only [RetI]; intro t9 h9 tk9 F9 N9; (try dsimp only); (try k_fold)))
        | (first | with_reducible (k_here; (with_reducible show wpAny _ _ (call (Value.builtin "str.join") [Value.str _ _, Value.ref _]) _ _ _); (with_reducible rename B8 _ _ => hB9); (with_reducible rename CarriedAll _ (List.map _ _) => ktC); (refine KT.join_1 (News.isList (by k_asm) (by exact List.mem_cons_self)) ktC (fun _ _ => len_item _ _) (by rw [B8.len hB9]; decide) ?_; intro _ _ ktE)) | (k_here; (with_reducible show wpAny _ _ (call (Value.builtin "str.join") [Value.str _ _, Value.ref _]) _ _ _); (with_reducible rename B8 _ _ => hB9); (with_reducible rename CarriedAll _ (List.map _ _) => ktC); (refine KT.join_1 (News.isList (by k_asm) (by exact List.mem_cons_self)) ktC (fun _ _ => len_item _ _) (by rw [B8.len hB9]; decide) ?_; intro _ _ ktE)))
        | ((with_reducible show LCg.CompEnd _ _ _ _ _ _ _ _ _ _ _ _ _ _); first | with_reducible (refine LCg.CompEnd.intro (by assumption) (by assumption) _ (fun _ hp => hp) (by first | assumption | (simp only [LCg.Off3, and_true]; assumption)) (by first | exact True.intro | exact src_led (by k_mem)) ?_) | (refine LCg.CompEnd.intro (by assumption) (by assumption) _ (fun _ hp => hp) (by first | assumption | (simp only [LCg.Off3, and_true]; assumption)) (by first | exact True.intro | exact src_led (by k_mem)) ?_))
        | ((with_reducible show wpAny _ _ (exec (PySem.Stmt.For _ _ _ _ _) _) _ _ _); first | with_reducible (k_here; (rename Fr _ _ _ _ => lF'); (with_unfolding_all (refine' For_turns lF' ?_; k_whole))) | (k_here; (rename Fr _ _ _ _ => lF'); (with_unfolding_all (refine' For_turns lF' ?_; k_whole))))
        | walk1
        | (dsimp only; walk1)
        | (leave1; (try dsimp only))
        | fail "no step")
    rename News _ _ _ _ => nN
    rename Fr _ _ _ _ => nF
    rename (_ = Data.cell (some (Value.int _ _))) => nD
    rename IntsAre _ (List.map _ _) => nI
    simp only [List.push_toArray, Int.sub_zero] at nN
    refine TEnd.mk nF nN _ (fun p hp => .tail _ hp) ?_ ⟨rfl, _, _, _, _, rfl, nD, ?_⟩
    · intro p hp
      rcases List.mem_cons.mp hp with rfl | hp
      · exact Nat.ne_of_lt hi1
      · rcases List.mem_cons.mp hp with rfl | hp
        · exact Nat.ne_of_lt hi2
        · exact Nat.ne_of_lt (hlo p (.tail _ (.tail _ hp)))
    · rw [rangeKs_snoc, List.map_append]
      exact ints_snoc (x := costOf ns (1 + (i : Int))) hU
  · rintro m₁ news₁ h tk ⟨rfl, us, nn, oS, vS, rfl, dS, hU⟩ F' N'
    clear hK hN hN2 hF hR ktE
    w_top off
    repeat' (first
        | (k_unfold; (try dsimp only))
        | (k_end; kc_close)
        | ((with_reducible show wpAny _ _ (eval (PySem.Expr.ListComp _ _ _ _) _) _ _ _); first | with_reducible (k_here; k_dflt (refine LCg.ListComp_U (F₀ := by k_asm) (by with_unfolding_all rfl) (by decide) (by rfl) (by decide) (by rfl) ?_)) | (k_here; k_dflt (refine LCg.ListComp_U (F₀ := by k_asm) (by with_unfolding_all rfl) (by decide) (by rfl) (by decide) (by rfl) ?_)))
        | ((with_reducible show LCg.CompSrc _ _ _ _ _ _ _ _ _ _ _ _ _ _); first | with_reducible (k_here; (with_reducible rename B8 _ _ => hB9); k_dflt (refine LCg.CompSrc.ledger (by rfl) (by k_asm) (by k_asm) (List.mem_cons_of_mem _ (List.mem_cons_of_mem _ (by with_reducible assumption))) (B8.size hB9) ?_); intro gX9; (refine' kct_list (fun k => sgI k) (B8.are hB9) (fun k' t' I' oI' C' oC' D' m' ys' h' tk' E' hk' hC' hx' F' N' off' ne' => ?_) ?_); (all_goals (try (simp only [LCg.Off3, and_true] at off'))); (all_goals (try ((show KPfMark → _); intro hMark'))); (all_goals (try k_fold))) | (k_here; (with_reducible rename B8 _ _ => hB9); k_dflt (refine LCg.CompSrc.ledger (by rfl) (by k_asm) (by k_asm) (List.mem_cons_of_mem _ (List.mem_cons_of_mem _ (by with_reducible assumption))) (B8.size hB9) ?_); intro gX9; (refine' kct_list (fun k => sgI k) (B8.are hB9) (fun k' t' I' oI' C' oC' D' m' ys' h' tk' E' hk' hC' hx' F' N' off' ne' => ?_) ?_); (all_goals (try (simp only [LCg.Off3, and_true] at off'))); (all_goals (try ((show KPfMark → _); intro hMark'))); (all_goals (try k_fold))))
        | (first | with_reducible (k_here; (with_reducible show wpAny _ _ (subscriptTail _ _ (Value.str (Str.ofString "aA") _) (Value.int _ _)) _ _ _); (with_reducible rename B8 _ _ => hB9); (with_reducible rename _ ∈ _ => hmem9); (have hbnd9 := B8.bnd hB9 _ hmem9); (refine KXi.item (n := 2) (by decide) (by omega) (by omega) (by decide) ?_); intro kxiE; clear kxiE) | (k_here; (with_reducible show wpAny _ _ (subscriptTail _ _ (Value.str (Str.ofString "aA") _) (Value.int _ _)) _ _ _); (with_reducible rename B8 _ _ => hB9); (with_reducible rename _ ∈ _ => hmem9); (have hbnd9 := B8.bnd hB9 _ hmem9); (refine KXi.item (n := 2) (by decide) (by omega) (by omega) (by decide) ?_); intro kxiE; clear kxiE))
        | ((with_reducible show wpAny _ _ (subscriptTail (PySem.Expr.Name _ _) (PySem.Expr.Name _ _) (Value.str _ _) (Value.int _ _)) _ _ _); first | with_reducible (k_here; (with_reducible rename B8 _ _ => hB9); (refine KXi.item (n := 8) (B8.lenT hB9) (by first | assumption | exact cb2 (by assumption) | omega) (by first | exact cb1 (by assumption) (by assumption) | exact cb3 (by assumption) (by assumption) | omega) (by decide) ?_); intro kxiE; clear kxiE) | (k_here; (with_reducible rename B8 _ _ => hB9); (refine KXi.item (n := 8) (B8.lenT hB9) (by first | assumption | exact cb2 (by assumption) | omega) (by first | exact cb1 (by assumption) (by assumption) | exact cb3 (by assumption) (by assumption) | omega) (by decide) ?_); intro kxiE; clear kxiE))
        | ((with_reducible show wpAny _ _ (subscriptTail (PySem.Expr.Name _ _) (PySem.Expr.BinOp _ _ _ _) (Value.str _ _) (Value.int _ _)) _ _ _); first | with_reducible (k_here; (with_reducible rename B8 _ _ => hB9); (refine KXi.item (n := 8) (B8.lenT hB9) (by first | assumption | exact cb2 (by assumption) | omega) (by first | exact cb1 (by assumption) (by assumption) | exact cb3 (by assumption) (by assumption) | omega) (by decide) ?_); intro kxiE; clear kxiE) | (k_here; (with_reducible rename B8 _ _ => hB9); (refine KXi.item (n := 8) (B8.lenT hB9) (by first | assumption | exact cb2 (by assumption) | omega) (by first | exact cb1 (by assumption) (by assumption) | exact cb3 (by assumption) (by assumption) | omega) (by decide) ?_); intro kxiE; clear kxiE))
        | (first | with_reducible (k_here; (with_reducible show wpAny _ _ (call (Value.ref 71) [Value.str _ _, Value.str _ _]) _ _ _); (with_reducible rename B8 _ _ => hB9); k_dflt (refine' sub_cl _ _ _ _ _ _ _ _ _ _ _ ?hx ?hy _ _ _ _ _ _ _ _ _ _ _ _ _ _ _ _ _ ?kB ?kF ?kK ?kN ?kT ?kk ?kd ?ku ?_; (case hx => exact B8.sg hB9 (by first | assumption | exact cb2 (by assumption) | omega) (by first | exact cb1 (by assumption) (by assumption) | exact cb3 (by assumption) (by assumption) | omega)); (case hy => exact B8.sg hB9 (by first | assumption | exact cb2 (by assumption) | omega) (by first | exact cb1 (by assumption) (by assumption) | exact cb3 (by assumption) (by assumption) | omega)); (case kB => k_asm); (case kF => k_asm); (case kK => k_asm); (case kN => k_asm); (case kT => k_asm); (case kk => rfl); (case kd => exact room1 (by assumption) (by decide)); (case ku => exact unit1 (by assumption) (by decide))); dsimp only [RetI]; intro t9 h9 tk9 F9 N9; (try dsimp only); (try k_fold)) | (k_here; (with_reducible show wpAny _ _ (call (Value.ref 71) [Value.str _ _, Value.str _ _]) _ _ _); (with_reducible rename B8 _ _ => hB9); k_dflt (refine' sub_cl _ _ _ _ _ _ _ _ _ _ _ ?hx ?hy _ _ _ _ _ _ _ _ _ _ _ _ _ _ _ _ _ ?kB ?kF ?kK ?kN ?kT ?kk ?kd ?ku ?_; (case hx => exact B8.sg hB9 (by first | assumption | exact cb2 (by assumption) | omega) (by first | exact cb1 (by assumption) (by assumption) | exact cb3 (by assumption) (by assumption) | omega)); (case hy => exact B8.sg hB9 (by first | assumption | exact cb2 (by assumption) | omega) (by first | exact cb1 (by assumption) (by assumption) | exact cb3 (by assumption) (by assumption) | omega)); (case kB => k_asm); (case kF => k_asm); (case kK => k_asm); (case kN => k_asm); (case kT => k_asm); (case kk => rfl); (case kd => exact room1 (by assumption) (by decide)); (case ku => exact unit1 (by assumption) (by decide))); dsimp only [RetI]; intro t9 h9 tk9 F9 N9; (try dsimp only); (try k_fold)))
        | (first | with_reducible (k_here; (with_reducible show wpAny _ _ (call (Value.builtin "str.join") [Value.str _ _, Value.ref _]) _ _ _); (with_reducible rename B8 _ _ => hB9); (with_reducible rename CarriedAll _ (List.map _ _) => ktC); (refine KT.join_1 (News.isList (by k_asm) (by exact List.mem_cons_self)) ktC (fun _ _ => len_item _ _) (by rw [B8.len hB9]; decide) ?_; intro _ _ ktE)) | (k_here; (with_reducible show wpAny _ _ (call (Value.builtin "str.join") [Value.str _ _, Value.ref _]) _ _ _); (with_reducible rename B8 _ _ => hB9); (with_reducible rename CarriedAll _ (List.map _ _) => ktC); (refine KT.join_1 (News.isList (by k_asm) (by exact List.mem_cons_self)) ktC (fun _ _ => len_item _ _) (by rw [B8.len hB9]; decide) ?_; intro _ _ ktE)))
        | ((with_reducible show LCg.CompEnd _ _ _ _ _ _ _ _ _ _ _ _ _ _); first | with_reducible (refine LCg.CompEnd.intro (by assumption) (by assumption) _ (fun _ hp => hp) (by first | assumption | (simp only [LCg.Off3, and_true]; assumption)) (by first | exact True.intro | exact src_led (by k_mem)) ?_) | (refine LCg.CompEnd.intro (by assumption) (by assumption) _ (fun _ hp => hp) (by first | assumption | (simp only [LCg.Off3, and_true]; assumption)) (by first | exact True.intro | exact src_led (by k_mem)) ?_))
        | ((with_reducible show wpAny _ _ (exec (PySem.Stmt.For _ _ _ _ _) _) _ _ _); first | with_reducible (k_here; (rename Fr _ _ _ _ => lF'); (with_unfolding_all (refine' For_turns lF' ?_; k_whole))) | (k_here; (rename Fr _ _ _ _ => lF'); (with_unfolding_all (refine' For_turns lF' ?_; k_whole))))
        | walk1
        | (dsimp only; walk1)
        | (leave1; (try dsimp only))
        | fail "no step")
    rename News _ _ _ _ => nN
    rename Fr _ _ _ _ => nF
    refine hret lc us nn h _ nF ?_ hU (off1_of lcs.2.2.2)
    exact cb_drop nN (by intro p hp; rcases List.mem_cons.mp hp with rfl | hp; exact .head _; exact .tail _ (.tail _ (.tail _ hp)))
end Mine

-- part Turned
namespace Mine
open PySem PySem.W PyProof.Rows
theorem tb1 {k : Int} (h : k < 0 + ((((8 : Int) - 0).toNat : Nat) : Int)) : k < ((8 : Nat) : Int) := by omega
local macro_rules | `(tactic| k_mem) => `(tactic| assumption)
local macro_rules | `(tactic| k_all) => `(tactic| (refine off_all (by with_reducible assumption) ?_; omega))
def turnF (ns : List Int) (p : Int) : List Int := (rangeKs 0 8).map (fun k => (ns.getD k.toNat 0 + k.fdiv (2 ^ p.toNat)).fmod 2)
theorem turned_cl (w : World) (pr : Program) (loose : List Str) (mean : ExcName → Option Value) (mg mb : Str → Option Value) (news : List (Addr × Obj)) (l : Addr) (vs : List Value) (ns : List Int) (p : Int) (tp : Tok)
   (nn : Nat) (hl : (l, W.listOf vs.toArray nn) ∈ news) (hB : B8 vs ns) (hp0 : 0 ≤ p) (hp1 : p ≤ 2) :
   Cl PySem.Challenge.rw_sr0010_01.row.prog w (hd.heap_39 w.params) pr loose mean mg mb 90 5 [.ref l, .int p tp] news (RetL news (turnF ns p)) := by
  k_fill
  dsimp only [Cl, RetL]
  intros; rename_i hret
  refine wpAny_call ?_
  k_dflt (refine' code_defC ?k1 ?k2 ?k3 ?k4 ?k5 ?kA ?kF ?kK ?k6 ?k7 ?k8 ?k9 ?kB ?kD ?_ ?c2 ?c3 ?c4; (case kA => exact rfl); (case kF => exact rfl); (case kK => assumption); (case k1 => k_asm); (case k2 => k_asm); (case k3 => k_asm); (case k4 => k_asm); (case k5 => k_asm); (case k6 => k_is); (case k7 => k_is); (case k8 => ktr_room); (case k9 => exact BindsTo.of_eq rfl); (case kB => exact rfl); (case kD => decide +kernel); (case c2 => exact rfl); (case c3 => exact rfl); (case c4 => exact rfl); k_whole; intro g' L' h' tk' cells' FG' F' N' Y' B' X' T' l1; k_cells Y'; (try simp only [List.cons_append, List.nil_append] at N'); (try dsimp only); (try k_lift B'); (try k_fold))
  rename_i o1 o2 d1 d2
  replace F' : Fr g' L' h' (fun y => none) := F'
  replace d1 : o1.data = .cell (some (.int p tp)) := d1
  replace d2 : o2.data = .cell (some (.ref l)) := d2
  have hlL : @LT.lt Nat _ l L' := l1 _ hl
  w_top off
  repeat' (first
      | (k_unfold; (try dsimp only))
      | (k_end; kc_close)
      | ((with_reducible show wpAny _ _ (subscriptTail (PySem.Expr.Name _ _) (PySem.Expr.Name _ _) (Value.ref _) (Value.int _ _)) _ _ _); first | with_reducible (k_here; (with_reducible rename B8 _ _ => hB9); (refine item_ints (News.isList (by k_asm) (by k_mem)) (B8.are hB9) (by first | assumption | omega) (by rw [B8.len hB9]; first | exact tb1 (by assumption) | omega) (by rw [B8.len hB9]; decide) ?_); intro _) | (k_here; (with_reducible rename B8 _ _ => hB9); (refine item_ints (News.isList (by k_asm) (by k_mem)) (B8.are hB9) (by first | assumption | omega) (by rw [B8.len hB9]; first | exact tb1 (by assumption) | omega) (by rw [B8.len hB9]; decide) ?_); intro _))
      | walk1
      | (dsimp only; walk1)
      | (leave1; (try dsimp only))
      | fail "no step")
  rename News _ _ _ _ => nN
  rename Fr _ _ _ _ => nF
  rename IntsAre _ (List.map _ _) => nI
  rename _ ∧ _ ∧ LCg.Off1 _ _ => nO
  exact hret _ _ _ _ _ nF (cb_drop nN (by intro p hp; rcases List.mem_cons.mp hp with rfl | hp; exact .head _; exact .tail _ (.tail _ (.tail _ hp)))) nI nO.2.2
end Mine

-- part Parse
namespace Mine
open PySem PySem.W PyProof.Rows
def respS : Nat → Str
  | 0 => Str.ofString "257 \"x"
  | 1 => Str.ofString "257 \"\"x"
  | 2 => Str.ofString "257 \"\"\"x"
  | 3 => Str.ofString "257 \"\"\"\"x"
  | 4 => Str.ofString "257 \"\"\"\"\"x"
  | 5 => Str.ofString "257 \"\"\"\"\"\"x"
  | 6 => Str.ofString "257 \"\"\"\"\"\"\"x"
  | _ => Str.ofString "257 \"\"\"\"\"\"\"\"x"
def nameS : Nat → Str
  | 0 => Str.ofString "x"
  | 1 => Str.ofString ""
  | 2 => Str.ofString "\"x"
  | 3 => Str.ofString "\""
  | 4 => Str.ofString "\"\"x"
  | 5 => Str.ofString "\"\""
  | 6 => Str.ofString "\"\"\"x"
  | _ => Str.ofString "\"\"\""
theorem nameS0 : nameS 0 = Str.ofString "x" := rfl
theorem nameS1 : nameS 1 = Str.ofString "" := rfl
theorem nameS2 : nameS 2 = Str.ofString "\"x" := rfl
theorem nameS3 : nameS 3 = Str.ofString "\"" := rfl
theorem nameS4 : nameS 4 = Str.ofString "\"\"x" := rfl
theorem nameS5 : nameS 5 = Str.ofString "\"\"" := rfl
theorem nameS6 : nameS 6 = Str.ofString "\"\"\"x" := rfl
theorem nameS7 : nameS 7 = Str.ofString "\"\"\"" := rfl
theorem parse_cl (w : World) (p : Program) (loose : List Str) (mean : ExcName → Option Value) (mg mb : Str → Option Value) (news : List (Addr × Obj)) (q : Nat) (hq : q < 8) (x : Str) (hx : x = respS q) (tx : Tok) :
   Cl PySem.Challenge.rw_sr0010_01.row.prog w (hd.heap_39 w.params) p loose mean mg mb 64 2 [.str x tx] news (RetS news (nameS q)) := by
  k_fill
  subst hx
  rcases (by omega : q = 0 ∨ q = 1 ∨ q = 2 ∨ q = 3 ∨ q = 4 ∨ q = 5 ∨ q = 6 ∨ q = 7) with rfl | rfl | rfl | rfl | rfl | rfl | rfl | rfl
  all_goals (
    dsimp only [Cl, RetS, respS, nameS]
    clear hq
    intros; rename_i hret
    refine wpAny_call ?_
    k_dflt cell_enter
    w_top off
    repeat' (first
        | (k_unfold; (try dsimp only))
        | (k_end; kc_close)
        | ((with_reducible show wpAny _ _ (subscriptTail (PySem.Expr.Name _ _) (PySem.Expr.Name _ _) (Value.str _ _) (Value.int _ _)) _ _ _); first | with_reducible (k_here; (refine KXi.item (by kxi_len) (by omega) (by omega) (by decide) ?_); (intro kxiE; clear kxiE)) | (k_here; (refine KXi.item (by kxi_len) (by omega) (by omega) (by decide) ?_); (intro kxiE; clear kxiE)))
        | walk1
        | (dsimp only; walk1)
        | (leave1; (try dsimp only))
        | fail "no step")
    all_goals first | cb_end hret | ((with_reducible rename _ ∨ _ => hOr9); exact absurd hOr9 (by decide)))
end Mine

-- part Told
namespace Mine
open PySem PySem.W PyProof.Rows
def toldF (M : Nat) (n : Nat) : List Int := (List.range n).map fun j => ((M / 2 ^ j % 2 : Nat) : Int)
theorem toldF_snoc (M n : Nat) : toldF M (n + 1) = toldF M n ++ [((M / 2 ^ n % 2 : Nat) : Int)] := by
  unfold toldF
  rw [List.range_succ, List.map_append]
  rfl
theorem map_two' {m₁ : Str → Option Value} {a b : Str} {u v : Value} (h1 : m₁ a = some u) (h2 : m₁ b = some v) : (fun y => if y = a then some u else if y = b then some v else m₁ y) = m₁ := by
  funext y
  by_cases e : y = a
  · rw [if_pos e, e, h1]
  · rw [if_neg e]
    by_cases e' : y = b
    · rw [if_pos e', e', h2]
    · rw [if_neg e']
local macro_rules | `(tactic| k_mem) => `(tactic| assumption)
local macro_rules | `(tactic| k_all) => `(tactic| (refine off_all (by with_reducible assumption) ?_; omega))
def JT (M : Nat) (lt : Addr) (news : List (Addr × Obj)) (i : Nat) (m₁ : Str → Option Value) (news₁ : List (Addr × Obj)) : Prop :=
  ∃ tM us nn, m₁ (Str.ofString "marks") = some (.int ((M / 2 ^ i : Nat) : Int) tM) ∧ m₁ (Str.ofString "told") = some (.ref lt) ∧ news₁ = (lt, W.listOf us.toArray nn) :: news ∧ IntsAre us (toldF M i)
theorem JT.mk {M : Nat} {lt : Addr} {news : List (Addr × Obj)} {i : Nat} {m₁ : Str → Option Value} {c x : Int} {tM t : Tok} {us : List Value} {nn : Nat} (h1 : m₁ (Str.ofString "marks") = some (.int c tM)) (h2 : m₁ (Str.ofString "told") = some (.ref lt))
    (hU : IntsAre us (toldF M i)) (hc : c = ((M / 2 ^ (i + 1) : Nat) : Int)) (hx : x = ((M / 2 ^ i % 2 : Nat) : Int)) : JT M lt news (i + 1) m₁ ((lt, W.listOf (us ++ [Value.int x t]).toArray nn) :: news) := by
  subst hc hx
  exact ⟨tM, _, _, h1, h2, rfl, by rw [toldF_snoc]; exact ints_snoc hU⟩
structure Mk (q : Nat) : Prop where
  lt : q < 8
theorem told_cl (w : World) (p : Program) (loose : List Str) (mean : ExcName → Option Value) (mg mb : Str → Option Value) (news : List (Addr × Obj)) (M : Nat) (hM : M < 8) (tx : Tok) :
   Cl PySem.Challenge.rw_sr0010_01.row.prog w (hd.heap_39 w.params) p loose mean mg mb 85 5 [.int (M : Int) tx] news (RetL news (toldF M 3)) := by
  k_fill
  dsimp only [Cl, RetL]
  intros; rename_i hret
  refine wpAny_call ?_
  k_dflt (refine' code_def ?k1 ?k2 ?k3 ?k4 ?k5 ?kA ?kF ?kK ?k6 ?k7 ?k8 ?k9 ?kB ?_ ?c2 ?c3 ?c4 ?c5; (case kA => exact rfl); (case kF => exact rfl); (case kK => assumption); (case k1 => k_asm); (case k2 => k_asm); (case k3 => k_asm); (case k4 => k_asm); (case k5 => k_asm); (case k6 => k_is); (case k7 => k_is); (case k8 => ktr_room); (case k9 => exact BindsTo.of_eq rfl); (case c5 => decide); (case kB => exact locs rfl); (case c2 => exact rfl); (case c3 => exact rfl); (case c4 => exact rfl); k_whole; intro g' L' h' FG' F' N' B' X' T'; (try dsimp only); (try k_lift B'); (try k_fold))
  replace F' : Fr g' L' h' (fun y => [(Str.ofString "marks", Value.int (M : Int) tx)].lookup y) := F'
  w_top off
  repeat' (first
      | (k_unfold; (try dsimp only))
      | (k_end; kc_close)
      | ((with_reducible show wpAny _ _ (exec (PySem.Stmt.For _ _ _ _ _) _) _ _ _); first | with_reducible (k_here; (rename Fr _ _ _ _ => lF'); (with_unfolding_all refine' For_turns lF' ?_; k_whole)) | (k_here; (rename Fr _ _ _ _ => lF'); (with_unfolding_all refine' For_turns lF' ?_; k_whole)))
      | (first | with_reducible (k_here; (with_reducible show wpAny _ _ (call (Value.ref 64) [Value.str _ _]) _ _ _); (with_reducible rename Mk _ => hM9); k_dflt (refine' parse_cl _ _ _ _ _ _ _ _ (Mk.lt hM9) _ ?hx _ _ _ _ _ _ _ _ _ _ _ _ _ _ _ _ _ _ ?kB ?kF ?kK ?kN ?kT ?kk ?kd ?ku ?_; (case hx => decide +kernel); (case kB => k_asm); (case kF => k_asm); (case kK => k_asm); (case kN => k_asm); (case kT => k_asm); (case kk => rfl); (case kd => exact room1 (by assumption) (by decide)); (case ku => exact unit1 (by assumption) (by decide))); dsimp only [RetS]; (try simp only [nameS0, nameS1, nameS2, nameS3, nameS4, nameS5, nameS6, nameS7]); intro t9 h9 tk9 F9 N9; (try dsimp only); (try k_fold)) | (k_here; (with_reducible show wpAny _ _ (call (Value.ref 64) [Value.str _ _]) _ _ _); (with_reducible rename Mk _ => hM9); k_dflt (refine' parse_cl _ _ _ _ _ _ _ _ (Mk.lt hM9) _ ?hx _ _ _ _ _ _ _ _ _ _ _ _ _ _ _ _ _ _ ?kB ?kF ?kK ?kN ?kT ?kk ?kd ?ku ?_; (case hx => decide +kernel); (case kB => k_asm); (case kF => k_asm); (case kK => k_asm); (case kN => k_asm); (case kT => k_asm); (case kk => rfl); (case kd => exact room1 (by assumption) (by decide)); (case ku => exact unit1 (by assumption) (by decide))); dsimp only [RetS]; (try simp only [nameS0, nameS1, nameS2, nameS3, nameS4, nameS5, nameS6, nameS7]); intro t9 h9 tk9 F9 N9; (try dsimp only); (try k_fold)))
      | walk1
      | (dsimp only; walk1)
      | (leave1; (try dsimp only))
      | fail "no step")
  rename_i lt _ ltl _ _ _ hh _ tr ur vr hR hF hN hK
  refine it_rng (n := 3) (JT M lt news) rfl hR (by decide) (by decide) hF hN ⟨tx, [], 0, by rw [Nat.pow_zero, Nat.div_one]; rfl, rfl, rfl, .nil⟩ ?_ ?_
  · rintro i t m₁ news₁ h tk I it hi hlo hoff ⟨tM, us, nn, h1, h2, rfl, hU⟩ F' N'
    rw [← map_two' h2 h1] at F'
    have hi1 : @LT.lt Nat _ lt I := hlo (lt, _) (.head _)
    have hq : M / 2 ^ i < 8 := Nat.lt_of_le_of_lt (Nat.div_le_self _ _) hM
    clear hK hN hF hR hoff
    have hul : us.length = i := by rw [hU.length]; simp [toldF]
    obtain ⟨q, hqe⟩ : ∃ q, M / 2 ^ i = q := ⟨_, rfl⟩
    rw [hqe] at hq F'
    have hmk : Mk q := ⟨hq⟩
    rcases (by omega : q = 0 ∨ q = 1 ∨ q = 2 ∨ q = 3 ∨ q = 4 ∨ q = 5 ∨ q = 6 ∨ q = 7) with rfl | rfl | rfl | rfl | rfl | rfl | rfl | rfl
    all_goals clear hq
    all_goals (
      have hnext : M / 2 ^ (i + 1) = M / 2 ^ i / 2 := by rw [Nat.pow_succ, ← Nat.div_div_eq_div_mul]
      rw [hqe] at hnext
      w_top off
      repeat' (first
          | (k_unfold; (try dsimp only))
          | (k_end; kc_close)
          | ((with_reducible show wpAny _ _ (exec (PySem.Stmt.For _ _ _ _ _) _) _ _ _); first | with_reducible (k_here; (rename Fr _ _ _ _ => lF'); (with_unfolding_all refine' For_turns lF' ?_; k_whole)) | (k_here; (rename Fr _ _ _ _ => lF'); (with_unfolding_all refine' For_turns lF' ?_; k_whole)))
          | (first | with_reducible (k_here; (with_reducible show wpAny _ _ (call (Value.ref 64) [Value.str _ _]) _ _ _); (with_reducible rename Mk _ => hM9); k_dflt (refine' parse_cl _ _ _ _ _ _ _ _ (Mk.lt hM9) _ ?hx _ _ _ _ _ _ _ _ _ _ _ _ _ _ _ _ _ _ ?kB ?kF ?kK ?kN ?kT ?kk ?kd ?ku ?_; (case hx => decide +kernel); (case kB => k_asm); (case kF => k_asm); (case kK => k_asm); (case kN => k_asm); (case kT => k_asm); (case kk => rfl); (case kd => exact room1 (by assumption) (by decide)); (case ku => exact unit1 (by assumption) (by decide))); dsimp only [RetS]; (try simp only [nameS0, nameS1, nameS2, nameS3, nameS4, nameS5, nameS6, nameS7]); intro t9 h9 tk9 F9 N9; (try dsimp only); (try k_fold)) | (k_here; (with_reducible show wpAny _ _ (call (Value.ref 64) [Value.str _ _]) _ _ _); (with_reducible rename Mk _ => hM9); k_dflt (refine' parse_cl _ _ _ _ _ _ _ _ (Mk.lt hM9) _ ?hx _ _ _ _ _ _ _ _ _ _ _ _ _ _ _ _ _ _ ?kB ?kF ?kK ?kN ?kT ?kk ?kd ?ku ?_; (case hx => decide +kernel); (case kB => k_asm); (case kF => k_asm); (case kK => k_asm); (case kN => k_asm); (case kT => k_asm); (case kk => rfl); (case kd => exact room1 (by assumption) (by decide)); (case ku => exact unit1 (by assumption) (by decide))); dsimp only [RetS]; (try simp only [nameS0, nameS1, nameS2, nameS3, nameS4, nameS5, nameS6, nameS7]); intro t9 h9 tk9 F9 N9; (try dsimp only); (try k_fold)))
          | walk1
          | (dsimp only; walk1)
          | (leave1; (try dsimp only))
          | fail "no step")
      rename News _ _ _ _ => nN
      rename Fr _ _ _ _ => nF
      simp only [List.push_toArray] at nN
      refine TEnd.mk nF nN _ (fun p hp => hp) ?_ (JT.mk rfl rfl hU ?_ ?_)
      · intro p hp
        rcases List.mem_cons.mp hp with rfl | hp
        · exact Nat.ne_of_lt hi1
        · exact Nat.ne_of_lt (hlo p (.tail _ hp))
      · rw [hnext]; decide +kernel
      · rw [hqe]; decide +kernel)
  · rintro m₁ news₁ h tk ⟨tM, us, nn, h1, h2, rfl, hU⟩ F' N'
    rw [← map_two' h2 h1] at F'
    clear hK hN hF hR
    w_top off
    repeat' (first
        | (k_unfold; (try dsimp only))
        | (k_end; kc_close)
        | ((with_reducible show wpAny _ _ (exec (PySem.Stmt.For _ _ _ _ _) _) _ _ _); first | with_reducible (k_here; (rename Fr _ _ _ _ => lF'); (with_unfolding_all refine' For_turns lF' ?_; k_whole)) | (k_here; (rename Fr _ _ _ _ => lF'); (with_unfolding_all refine' For_turns lF' ?_; k_whole)))
        | (first | with_reducible (k_here; (with_reducible show wpAny _ _ (call (Value.ref 64) [Value.str _ _]) _ _ _); (with_reducible rename Mk _ => hM9); k_dflt (refine' parse_cl _ _ _ _ _ _ _ _ (Mk.lt hM9) _ ?hx _ _ _ _ _ _ _ _ _ _ _ _ _ _ _ _ _ _ ?kB ?kF ?kK ?kN ?kT ?kk ?kd ?ku ?_; (case hx => decide +kernel); (case kB => k_asm); (case kF => k_asm); (case kK => k_asm); (case kN => k_asm); (case kT => k_asm); (case kk => rfl); (case kd => exact room1 (by assumption) (by decide)); (case ku => exact unit1 (by assumption) (by decide))); dsimp only [RetS]; (try simp only [nameS0, nameS1, nameS2, nameS3, nameS4, nameS5, nameS6, nameS7]); intro t9 h9 tk9 F9 N9; (try dsimp only); (try k_fold)) | (k_here; (with_reducible show wpAny _ _ (call (Value.ref 64) [Value.str _ _]) _ _ _); (with_reducible rename Mk _ => hM9); k_dflt (refine' parse_cl _ _ _ _ _ _ _ _ (Mk.lt hM9) _ ?hx _ _ _ _ _ _ _ _ _ _ _ _ _ _ _ _ _ _ ?kB ?kF ?kK ?kN ?kT ?kk ?kd ?ku ?_; (case hx => decide +kernel); (case kB => k_asm); (case kF => k_asm); (case kK => k_asm); (case kN => k_asm); (case kT => k_asm); (case kk => rfl); (case kd => exact room1 (by assumption) (by decide)); (case ku => exact unit1 (by assumption) (by decide))); dsimp only [RetS]; (try simp only [nameS0, nameS1, nameS2, nameS3, nameS4, nameS5, nameS6, nameS7]); intro t9 h9 tk9 F9 N9; (try dsimp only); (try k_fold)))
        | walk1
        | (dsimp only; walk1)
        | (leave1; (try dsimp only))
        | fail "no step")
    rename News _ _ _ _ => nN
    rename Fr _ _ _ _ => nF
    exact hret _ _ _ _ _ nF nN hU (off1_lt ltl)
end Mine

-- part Order
namespace Mine
open PySem PySem.W PyProof.Rows
local macro_rules | `(tactic| k_mem) => `(tactic| assumption)
local macro_rules | `(tactic| k_all) => `(tactic| (refine off_all (by with_reducible assumption) ?_; omega))
/-- the row as the cards lay it -/
def ordF (d0 d1 d2 : Int) : List Int :=
  if d1 < d0 then (if d2 < d0 then (if d2 < d1 then [2, 1, 0] else [1, 2, 0]) else [1, 0, 2])
  else (if d2 < d1 then (if d2 < d0 then [2, 0, 1] else [0, 2, 1]) else [0, 1, 2])
theorem news_two {h₀ h : Heap} {L : Addr} {x y : Addr × Obj} {far : List (Addr × Obj)} (N : News h₀ L h [x, y]) (M : News h₀ L h far) : News h₀ L h (x :: y :: far) := fun p hp => by
  rcases List.mem_cons.mp hp with rfl | hp
  · exact N _ (.head _)
  · rcases List.mem_cons.mp hp with rfl | hp
    · exact N _ (.tail _ (.head _))
    · exact M _ hp
theorem order_cl (w : World) (p : Program) (loose : List Str) (mean : ExcName → Option Value) (mg mb : Str → Option Value) (l : Addr) (d0 d1 d2 : Int) (t0 t1 t2 : Tok)
   (nn : Nat) (far : List (Addr × Obj)) (hdis : ∀ p ∈ far, p.1 ∉ [l, 73]) (hl73 : @LT.lt Nat _ 73 l) :
   ∀ (gd : Option (List Code)) (cn : Str) (cs : Scope) (a : Addr) (ccd : Value) (cl : List (Str × Addr)) (outer : List Env) (A₀ : Around) (base h₀ : Heap) (L : Addr) (m : Str → Option Value) (s : Shared) (Q E : Value → Shared → Prop),
    Below A₀ base outer h₀ → Fr h₀ L s.heap m → (hd.heap_39 w.params).In h₀ → News h₀ L s.heap ([(l, W.listOf [.int d0 t0, .int d1 t1, .int d2 t2].toArray nn), (73, tabObj #[])] ++ far) → Top p loose mean mg mb h₀ → cs.kind = .function →
      CodeHd h₀ 77 73 →
      (∀ (b : Addr) (us : List Value) (xs : List Int) (n : Nat) (ps : Array Value) (h' : Heap) (tk' : Nat), Fr h₀ L h' m → News h₀ L h' ((b, W.listOf us.toArray n) :: (73, tabObj ps) :: far) → IntsAre us xs → xs = ordF d0 d1 d2 → @LT.lt Nat _ 73 b → (∀ p ∈ far, p.1 < b) → Q (.ref b) { s with heap := h', toks := tk' }) →
      wpAny (model PySem.Challenge.rw_sr0010_01.row.prog w) (ktrTop 302 7 gd cn cs L a ccd cl outer) (call (.ref 78) [.ref l]) Q E s := by
  k_fill
  intros; rename_i hC hret
  refine wpAny_call ?_
  k_dflt (refine' code_far (near := [(l, W.listOf [.int d0 t0, .int d1 t1, .int d2 t2].toArray nn), (73, tabObj #[])]) ?k1 ?k2 ?k3 ?k4 hdis ?k5 ?kA ?kF ?kK ?k6 ?k7 ?k8 ?k9 ?kB ?kD ?_ ?c2 ?c3 ?c4; (case kA => exact rfl); (case kF => exact rfl); (case kK => assumption); (case k1 => k_asm); (case k2 => k_asm); (case k3 => k_asm); (case k4 => k_asm); (case k5 => k_asm); (case k6 => k_is); (case k7 => k_is); (case k8 => ktr_room); (case k9 => exact BindsTo.of_eq rfl); (case kB => exact rfl); (case kD => decide +kernel); (case c2 => exact rfl); (case c3 => exact rfl); (case c4 => exact rfl); k_whole; intro g' L' h' tk' cells' FG' F' N' Y' B' X' T' l1 lfar; (try k_lt l1); k_cells Y'; (try simp only [List.cons_append, List.nil_append] at N'); (try dsimp only); (try k_lift B'); (try k_fold))
  rename_i o1 dd1
  replace F' : Fr g' L' h' (fun y => none) := F'
  replace dd1 : o1.data = .cell (some (.ref l)) := dd1
  have C' : CodeHd g' 77 73 := CodeHd.keeps hC FG'.keep
  have hfar : ∀ z : Nat, @LT.lt Nat _ L' z → ∀ p ∈ far, p.1 < z := fun z hz p hp => Nat.lt_trans (lfar p hp) hz
  clear lfar
  w_top off
  k_steps
  all_goals (
    have e1 : [d0, d1, d2].getD (0 + ((0 + 1 : Nat) : Int)).toNat 0 = d1 := rfl
    have e2 : [d0, d1, d2].getD (0 + ((0 + 1 + 1 : Nat) : Int)).toNat 0 = d2 := rfl
    rename News _ _ _ far => kFar
    rename News _ _ _ (_ :: _) => nN
    rename Fr _ _ _ _ => nF
    refine' hret _ _ _ _ _ _ _ nF (news_two (cb_drop nN ?s) kFar) ?i ?x ?l ?f
    case s => kcj_all
    case i => exact .cons _ _ (.cons _ _ (.cons _ _ .nil))
    case l => omega
    case f => exact hfar _ (by omega)
    case x => (unfold ordF; (repeat' split) <;> first | rfl | (exfalso; omega)))
end Mine

-- part TupLt
namespace Mine
open PySem PySem.W PyProof.Rows PySem.Spec PySem.Calls
abbrev ltP (x0 x1 y0 y1 : Int) : Prop := x0 < y0 ∨ (x0 = y0 ∧ x1 < y1)
theorem rc_lt {prog : Program} {w : World} {A : Around} {E : Value → Shared → Prop} {s : Shared} {a b : Int} {t u : Tok} {Q : Value → Shared → Prop} (h : Q (.bool (decide (a < b))) s) :
    wpAny (model prog w) A (richCompare .Lt (.int a t) (.int b u)) Q E s := PyProof.Rows.lt_int (prog := prog) (w := w) h
theorem tup_ltAt (l b : Addr) (x0 x1 y0 y1 : Int) (t0 t1 u0 u1 : Tok) (n n2 : Nat) (dd dd2 : Option Addr) (sl sl2 : Array (Option Value)) :
    Meets (Builtin.«tuple.__lt__» ⟨[.ref l, .ref b], []⟩)
      (fun A R s => s.heap.get? l = some { cls := .type "tuple", dict := dd, data := .seq #[.int x0 t0, .int x1 t1] n, slots := sl } ∧ s.heap.get? b = some { cls := .type "tuple", dict := dd2, data := .seq #[.int y0 u0, .int y1 u1] n2, slots := sl2 } ∧
        R (.ok (.ret (.bool (decide (ltP x0 x1 y0 y1))))) s) :=
  .of_wp fun prog w A R s h => by
    obtain ⟨hp, g, d, tk, os⟩ := s; obtain ⟨hl, hb, h⟩ := h
    have f2 := AutoSeq1.sub_tuple_tuple
    have e1 : ∀ (Q : Bool → Shared → Prop) (E : Value → Shared → Prop) (s : Shared), Q (x1 == y1) s → wpAny (model prog w) A.in1 (eqBool (Value.int x1 t1, Value.int y1 u1).fst (Value.int x1 t1, Value.int y1 u1).snd) Q E s := fun _ _ _ h => wpAny_eqBool_int h
    have r1 : ∀ (Q : Value → Shared → Prop) (E : Value → Shared → Prop) (s : Shared), Q (.bool (decide (x1 < y1))) s → wpAny (model prog w) A.in1 (richCompare .Lt (Value.int x1 t1, Value.int y1 u1).fst (Value.int x1 t1, Value.int y1 u1).snd) Q E s := fun _ _ _ h => rc_lt h
    wp_walk using wpAny_loadPart' hl, wpAny_loadPart' hb, wpAny_eqBool_int
    by_cases e : x0 = y0
    · have hb : (x0 == y0) = true := by simp [e]
      rw [hb]; simp only [Bool.not_true, Bool.not_false, Bool.false_eq_true, if_false, if_true]
      wp_walk using e1 _ _ _
      by_cases e' : x1 = y1
      · have hb1 : (x1 == y1) = true := by simp [e']
        rw [hb1]; simp only [Bool.not_true, Bool.not_false, Bool.false_eq_true, if_false, if_true]
        wp_walk
        have hd : decide (ltP x0 x1 y0 y1) = false := decide_eq_false (by unfold ltP; omega)
        rw [hd] at h
        exact ⟨_, rfl, by simpa [Builtin.Tuple.tupleCompareSizes] using h⟩
      · have hb1 : (x1 == y1) = false := by simp [e']
        rw [hb1]; simp only [Bool.not_true, Bool.not_false, Bool.false_eq_true, if_false, if_true]
        wp_walk using r1 _ _ _
        have hd : decide (ltP x0 x1 y0 y1) = decide (x1 < y1) := by
          have : ltP x0 x1 y0 y1 ↔ x1 < y1 := by unfold ltP; omega
          simp only [this]
        rw [hd] at h
        exact ⟨_, rfl, h⟩
    · have hb : (x0 == y0) = false := by simp [e]
      rw [hb]; simp only [Bool.not_true, Bool.not_false, Bool.false_eq_true, if_false, if_true]
      wp_walk using rc_lt
      have hd : decide (ltP x0 x1 y0 y1) = decide (x0 < y0) := by
        have : ltP x0 x1 y0 y1 ↔ x0 < y0 := by unfold ltP; omega
        simp only [this]
      rw [hd] at h
      exact ⟨_, rfl, h⟩
section
variable {prog : Program} {w : World} {A : Around} {E : Value → Shared → Prop} {s : Shared} {h₀ : Heap} {L : Addr} {news : List (Addr × Obj)}
theorem tup_lt {l b : Addr} {x0 x1 y0 y1 : Int} {t0 t1 u0 u1 : Tok} {n n2 : Nat} {Q : Value → Shared → Prop} (N : News h₀ L s.heap news)
    (hl : (l, ({ cls := .type "tuple", data := .seq #[.int x0 t0, .int x1 t1] n } : Obj)) ∈ news) (hb : (b, ({ cls := .type "tuple", data := .seq #[.int y0 u0, .int y1 u1] n2 } : Obj)) ∈ news) (hu : A.units < cLine)
    (h : Q (.bool (decide (ltP x0 x1 y0 y1))) s) : wpAny (model prog w) A (compareOp .Lt (.ref l) (.ref b)) Q E s := by
  have ho := (N _ hl).1
  have ho2 := (N _ hb).1
  refine cmp_ofLt (richCompare_meets_room (op := .Lt) ⟨_, ho, rfl⟩ ⟨_, ho2, rfl⟩ F.slot_tuple_lt F.entry_tuple_lt (F.args_tuple_lt_2 _ _) (tup_ltAt l b x0 x1 y0 y1 t0 t1 u0 u1 n n2 none none #[] #[])
    ⟨ho, ho2, show Value.bool (decide (ltP x0 x1 y0 y1)) ≠ Value.notImplemented ∧ Q (.bool (decide (ltP x0 x1 y0 y1))) s from ⟨(fun x => nomatch x), h⟩⟩ hu)
end
end Mine

-- part CompCell
namespace Mine
open PySem PySem.W PyProof.Rows PySem.Spec PySem.Calls
/-- the env of a comprehension's block whose own name stands in a cell -/
def compEnvX (scope : Scope) (cl : List (Str × Addr)) (C X : Addr) (x : Str) (env : Env) : Env := { compEnvC scope cl C env with cells := (x, X) :: cl }
abbrev cellO : Obj := { cls := .type "cell", data := .cell none }
section
variable {prog : Program} {w : World} {A : Around} {E : Value → Shared → Prop} {s : Shared} {h₀ : Heap} {L : Addr} {m : Str → Option Value} {env : Env}
theorem newEnv_cell {scope : Scope} {cl : List (Str × Addr)} {x : Str} {Q : Env → Shared → Prop} (hcells : ∀ n, cellsFrom n scope.names cl = (x, n) :: cl) (hpush : ∀ h : Heap, pushCells h scope.names = h.push cellO)
    (hQ : Q { scope := scope, locals := s.heap.objs.size, globals := env.globals, cells := (x, s.heap.objs.size + 1) :: cl, qual := env.qual, func := none, code := env.code, frame := env.frame, builtins := env.builtins }
      { s with heap := (s.heap.push { cls := .type "dict", data := .dict #[] }).push cellO }) :
    wpAny (model prog w) A (newFunctionEnv scope env.globals cl [] env.qual none .none (some env)) Q E s := by
  simp only [newFunctionEnv, Option.isSome_some, if_true]
  refine wpAny_bind (wpAny_alloc ?_)
  refine wpAny_bind (wpAny_layCells _ (fun name kind cells => by cases hkc : kind == NameKind.cell <;> simp [hkc]) _ _ _ _ ?_)
  rw [hcells, hpush]
  have e : (s.heap.push { cls := .type "dict", data := .dict #[] } : Heap).objs.size = s.heap.objs.size + 1 := Heap.size_push ..
  simp only [List.forIn_nil, pure_bind]
  refine wpAny_pure ?_
  simp only [e]
  exact hQ
def CellSrc (prog : Program) (w : World) (A : Around) (h₀ : Heap) (L : Addr) (m : Str → Option Value) (env : Env) (elt : PySem.Expr) (x : Str) (scope : Scope) (cl : List (Str × Addr)) (Q : Value → Shared → Prop) (xv : Value) (s₁ : Shared) : Prop :=
  ∃ (r : Addr) (a b : Int) (t u v : Tok) (n : Nat) (news : List (Addr × Obj)) (g : Int → Int), xv = .ref r ∧ A.handled = none ∧ Fr h₀ L s₁.heap m ∧ News h₀ L s₁.heap news ∧ IsRange s₁.heap r a b 1 t u v ∧ Builtin.Range.small a b 1 = true ∧
    Builtin.Range.rangeSize a b 1 = ((n : Nat) : Int) ∧ n ≤ sizeLine ∧
    (∀ (k : Int) (t : Tok) (X : Addr) (oX : Obj) (I : Addr) (oI : Obj) (C : Addr) (oC : Obj) (D : Addr) (ys : List Value) (h : Heap) (tk : Nat) (E' : Value → Shared → Prop), a ≤ k → k < a + (n : Int) → oX.data = .cell (some (.int k t)) → Fr h₀ L h m →
      News h₀ L h ((X, oX) :: (I, oI) :: (C, oC) :: (D, LCg.lst ys) :: news) → (∀ p ∈ news, p.1 < I) → @LT.lt Nat _ I D → @LT.lt Nat _ D C → @LT.lt Nat _ C X →
      wpAny (model prog w) A (eval elt (compEnvX scope cl C X x env)) (fun y s' => ∃ (h' : Heap) (tk' : Nat) (t' : Tok), y = .int (g k) t' ∧ s' = { s₁ with heap := h', toks := tk' } ∧ Fr h₀ L h' m ∧ News h₀ L h' ((X, oX) :: (I, oI) :: (C, oC) :: (D, LCg.lst ys) :: news)) E' { s₁ with heap := h, toks := tk }) ∧
    (∀ (D : Addr) (ys : List Value) (h : Heap) (tk : Nat), Fr h₀ L h m → News h₀ L h ((D, LCg.lst ys) :: news) → IntsAre ys ((rangeKs a n).map g) → (∀ p ∈ news, p.1 < D) → Q (.ref D) { s₁ with heap := h, toks := tk })
theorem comp_cell {elt iter : PySem.Expr} {x : Str} {px : Pos} {scope : Scope} {cl : List (Str × Addr)} {pos : Pos} {Q : Value → Shared → Prop}
    (hclos : closureFor scope env = pure cl) (hkind : scope.kind = .function) (hnames : ∀ y ∈ scope.names, y.2 = .local → scope.names.lookup y.1 = some .local)
    (hcells : ∀ n, cellsFrom n scope.names cl = (x, n) :: cl) (hpush : ∀ h : Heap, pushCells h scope.names = h.push cellO) (hx : (relabel scope env).names.lookup x = some .cell)
    (h : wpAny (model prog w) A (eval iter env) (CellSrc prog w A h₀ L m env elt x scope cl Q) E s) (hs : ∀ x, foldedSetIterable iter env x = pure x := by intro _; rfl) :
    wpAny (model prog w) A (eval (.ListComp elt [⟨.Name x px, iter, [], 0⟩] scope pos) env) Q E s := by
  rw [eval_ListComp]
  refine wpAny_comprehension_free (use := none) rfl hs hclos hkind hnames (wpAny_mono h (fun xv s₁ h₁ => ?_) fun _ _ e => e)
  obtain ⟨r, a, b, t, u, v, n, news, g, rfl, hh, F, N, hr, hsm, hn, hsz, turn, fin⟩ := h₁
  refine wpAny_pyIter_range hr hsm ?_
  have fresh : ∀ c, s₁.heap.objs.size ≤ c → h₀.get? c = none := fun c hc => Heap.get?_none_of_le (Nat.le_trans (Nat.le_of_lt (Nat.lt_of_le_of_lt F.above F.ns.lt)) hc)
  have W := (Walks.range (prog := prog) (w := w) hh s₁.heap.objs.size a 1 n).bound
  have main : ∀ (D C X : Nat) (dO : Obj) (H : Heap) (tk : Nat), s₁.heap.objs.size < D → D < C → C < X → IsRangeIter H s₁.heap.objs.size (a + ((0 : Nat) : Int) * 1) ((n : Int) - ((0 : Nat) : Int)) 1 → H.get? D = some (LCg.lst []) → H.get? C = some dO → LCg.NsObj dO (fun _ => none) → H.get? X = some cellO →
      (∀ b o, s₁.heap.get? b = some o → H.get? b = some o) →
      codeAny (model prog w) A (.compLoop (.ListComp elt [⟨.Name x px, iter, [], 0⟩] scope pos) 0 (.ref s₁.heap.objs.size) (.ref D) (compEnvX scope cl C X x env)) (compPost (model prog w) A E none Q (.ref D) C) { s₁ with heap := H, toks := tk } := by
    intro D C X dO H tk hID hDC hCX hit hD hC hdO hX hold
    have hLI : L < s₁.heap.objs.size := F.ns.lt
    have F0 : Fr h₀ L H m := ⟨F.ns.at' fun o e => hold L o e, fun b o e => hold b o (F.keep b o e), F.above⟩
    have nI : ∀ c, s₁.heap.objs.size ≤ c → c ≠ L ∧ h₀.get? c = none := fun c hc => ⟨Nat.ne_of_gt (Nat.lt_of_lt_of_le hLI hc), fresh c hc⟩
    have low : ∀ p ∈ news, p.1 < s₁.heap.objs.size := fun p hp => Heap.lt_size (N p hp).1
    refine codeAny_compLoop_tests
      (fun k s' => ∃ h' tk i ys oX v₀, s' = { s₁ with heap := h', toks := tk } ∧ i ≤ n ∧ k = n + 1 - i ∧ ys.length = i ∧ IsRangeIter h' s₁.heap.objs.size (a + ((i : Nat) : Int) * 1) ((n : Int) - ((i : Nat) : Int)) 1 ∧ Fr h₀ L h' m ∧
        News h₀ L h' ((X, oX) :: (C, dO) :: (D, LCg.lst ys) :: news) ∧ oX.data = .cell v₀ ∧ IntsAre ys ((rangeKs a i).map g)) ?_ (n + 1)
      ⟨H, tk, 0, [], cellO, none, rfl, Nat.zero_le _, rfl, rfl, hit, F0, ?_, rfl, .nil⟩
    · rintro k s' ⟨h', tk', i, ys, oX, v₀, rfl, hi, rfl, hyl, hst, F', N', hdX, hys⟩
      have nX := N' (X, oX) (.head _)
      have nC := N' (C, dO) (.tail _ (.head _))
      have nD := N' (D, LCg.lst ys) (.tail _ (.tail _ (.head _)))
      by_cases hlt : i < n
      · refine W.item i _ _ _ hlt hst fun v h₂ tk₂ hPv hst₂ hk₂ => ?_
        obtain ⟨_, t, rfl⟩ := hPv
        have keep2 : ∀ b o, b ≠ s₁.heap.objs.size → h'.get? b = some o → h₂.get? b = some o := fun b o hb e => hk₂ b o (fun hm => hb (List.mem_singleton.mp hm)) e
        have F₂ : Fr h₀ L h₂ m := ⟨F'.ns.at' fun o e => keep2 L o (Nat.ne_of_lt hLI) e, fun b o e => keep2 b o (fun q => by rw [q, (nI _ (Nat.le_refl _)).2] at e; cases e) (F'.keep b o e), F'.above⟩
        refine wpAny_assign_Name (wpAny_storeName_cell (show (relabel scope env).kind = .function from hkind) hx (by simp [compEnvX]) ⟨oX, keep2 X oX (by omega) nX.1, hdX⟩ fun h₃ hv₃ hs₃ => ?_)
        obtain ⟨oX', gX', dX'⟩ := hv₃
        have keep3 : ∀ b o, b ≠ X → h₂.get? b = some o → h₃.get? b = some o := fun b o hb e => hs₃.extBut b o hb e
        refine wpAny_tests_nil ?_
        simp only [if_true]
        have F₃ : Fr h₀ L h₃ m := F₂.change hs₃ nX.2.1 nX.2.2
        have st3 : ∃ oI, h₃.get? s₁.heap.objs.size = some oI := ⟨_, keep3 _ _ (by omega) hst₂⟩
        obtain ⟨oI, gI⟩ := st3
        have hst₃ : IsRangeIter h₃ s₁.heap.objs.size (a + (((i + 1 : Nat)) : Int) * 1) ((n : Int) - (((i + 1 : Nat)) : Int)) 1 := keep3 _ _ (by omega) hst₂
        have N₃ : News h₀ L h₃ ((X, oX') :: (s₁.heap.objs.size, oI) :: (C, dO) :: (D, LCg.lst ys) :: news) := fun p hp => by
          rcases List.mem_cons.mp hp with rfl | hp
          · exact ⟨gX', nX.2⟩
          · rcases List.mem_cons.mp hp with rfl | hp
            · exact ⟨gI, nI _ (Nat.le_refl _)⟩
            · have z := N' p (.tail _ hp)
              refine ⟨keep3 _ _ ?_ (keep2 _ _ ?_ z.1), z.2⟩
              · rcases List.mem_cons.mp hp with rfl | hp
                · exact Nat.ne_of_lt hCX
                · rcases List.mem_cons.mp hp with rfl | hp
                  · exact Nat.ne_of_lt (Nat.lt_trans hDC hCX)
                  · have := low p hp; exact Nat.ne_of_lt (Nat.lt_trans this (Nat.lt_trans hID (Nat.lt_trans hDC hCX)))
              · rcases List.mem_cons.mp hp with rfl | hp
                · exact Nat.ne_of_gt (Nat.lt_trans hID hDC)
                · rcases List.mem_cons.mp hp with rfl | hp
                  · exact Nat.ne_of_gt hID
                  · exact Nat.ne_of_lt (low p hp)
        have e1 : a + (i : Int) * 1 = a + (i : Int) := by rw [Int.mul_one]
        rw [e1] at dX'
        refine wpAny_mono (turn (a + (i : Int)) t X oX' s₁.heap.objs.size oI C dO D ys h₃ tk₂ _ (by omega) (by omega) dX' F₃ N₃ low hID hDC hCX) (fun y s₄ h₄ => ?_) fun _ _ e => e
        obtain ⟨h₄, tk₄, t', rfl, rfl, F₄, N₄⟩ := h₄
        have zI := (N₄ (s₁.heap.objs.size, oI) (.tail _ (.head _))).1
        have zX := N₄ (X, oX') (.head _)
        have zC := N₄ (C, dO) (.tail _ (.tail _ (.head _)))
        have zD := N₄ (D, LCg.lst ys) (.tail _ (.tail _ (.tail _ (.head _))))
        refine append_at (hsz := by show ys.toArray.size ≤ sizeLine; rw [List.size_toArray, hyl]; exact Nat.le_trans hi hsz) zD.1 fun h₅ hs₅ hD₅ => ?_
        have keep5 : ∀ b o, b ≠ D → h₄.get? b = some o → h₅.get? b = some o := fun b o hb e => hs₅.extBut b o hb e
        refine ⟨n + 1 - (i + 1), by omega, h₅, tk₄, i + 1, ys ++ [.int (g (a + (i : Int))) t'], oX', _, rfl, hlt, rfl, by rw [List.length_append, List.length_singleton, hyl], ?_, F₄.change hs₅ zD.2.1 zD.2.2, fun p hp => ?_, dX', ?_⟩
        · have q : h₃.get? s₁.heap.objs.size = some _ := hst₃
          rw [gI] at q
          show h₅.get? s₁.heap.objs.size = some _
          rw [← Option.some.inj q]
          exact keep5 _ _ (Nat.ne_of_lt hID) zI
        · rcases List.mem_cons.mp hp with rfl | hp
          · exact ⟨keep5 _ _ (Nat.ne_of_gt (Nat.lt_trans hDC hCX)) zX.1, zX.2⟩
          · rcases List.mem_cons.mp hp with rfl | hp
            · exact ⟨keep5 _ _ (Nat.ne_of_gt hDC) zC.1, zC.2⟩
            · rcases List.mem_cons.mp hp with rfl | hp
              · exact ⟨hD₅.trans (congrArg some (LCg.lst_snoc ys _)), zD.2⟩
              · have z := N₄ p (.tail _ (.tail _ (.tail _ (.tail _ hp))))
                exact ⟨keep5 _ _ (Nat.ne_of_lt (Nat.lt_trans (low p hp) hID)) z.1, z.2⟩
        · rw [rangeKs_snoc, List.map_append]
          exact ints_snoc (x := g (a + (i : Int))) hys
      · obtain rfl : i = n := Nat.le_antisymm hi (Nat.not_lt.mp hlt)
        refine W.done _ _ _ hst fun h₂ tk₂ hk₂ => ?_
        have keep2 : ∀ b o, b ≠ s₁.heap.objs.size → h'.get? b = some o → h₂.get? b = some o := fun b o hb e => hk₂ b o (fun hm => hb (List.mem_singleton.mp hm)) e
        have F₂ : Fr h₀ L h₂ m := ⟨F'.ns.at' fun o e => keep2 L o (Nat.ne_of_lt hLI) e, fun b o e => keep2 b o (fun q => by rw [q, (nI _ (Nat.le_refl _)).2] at e; cases e) (F'.keep b o e), F'.above⟩
        refine ⟨_, hdO.ns (keep2 C dO (Nat.ne_of_gt (Nat.lt_trans hID hDC)) nC.1), fun h₃ hs₃ => fin D ys h₃ tk₂ (F₂.change hs₃ nC.2.1 nC.2.2) (fun p hp => ?_) hys fun p hp => Nat.lt_trans (low p hp) hID⟩
        have z := N' p (.tail _ (.tail _ hp))
        refine ⟨hs₃.extBut _ _ ?_ (keep2 _ _ ?_ z.1), z.2⟩
        · rcases List.mem_cons.mp hp with rfl | hp
          · exact Nat.ne_of_lt hDC
          · exact Nat.ne_of_lt (Nat.lt_trans (low p hp) (Nat.lt_trans hID hDC))
        · rcases List.mem_cons.mp hp with rfl | hp
          · exact Nat.ne_of_gt hID
          · exact Nat.ne_of_lt (low p hp)
    · intro p hp
      rcases List.mem_cons.mp hp with rfl | hp
      · exact ⟨hX, nI _ (Nat.le_of_lt (Nat.lt_trans hID (Nat.lt_trans hDC hCX)))⟩
      · rcases List.mem_cons.mp hp with rfl | hp
        · exact ⟨hC, nI _ (Nat.le_of_lt (Nat.lt_trans hID hDC))⟩
        · rcases List.mem_cons.mp hp with rfl | hp
          · exact ⟨hD, nI _ (Nat.le_of_lt hID)⟩
          · exact ⟨hold _ _ (N p hp).1, (N p hp).2⟩
  refine wpAny_newObj_type (newEnv_cell hcells hpush ?_)
  have gI : ∀ (it : Obj), it.isFreed = false → (s₁.heap.push it).get? s₁.heap.objs.size = some it := fun it hf => Heap.get?_push_size _ hf
  have o1 : ∀ it : Obj, s₁.heap.objs.size < (s₁.heap.push it).objs.size := fun it => by rw [Heap.size_push]; exact Nat.lt_succ_self _
  have o2 : ∀ (H : Heap) (o : Obj), H.objs.size < (H.push o).objs.size := fun H o => by rw [Heap.size_push]; exact Nat.lt_succ_self _
  have o8 : ∀ (H : Heap) (o : Obj), ((H.push o).push cellO).get? (H.objs.size + 1) = some cellO := fun H o => by
    have z := Heap.get?_push_size (h := H.push o) (o := cellO) rfl
    rw [Heap.size_push] at z
    exact z
  have dN : LCg.NsObj { cls := .type "dict", data := .dict #[] } (fun _ => none) := ⟨#[], 0, rfl, fun _ he => by simp at he, fun _ => rfl⟩
  have up : ∀ (H : Heap) (o : Obj) (c : Addr) (q : Obj), H.get? c = some q → (H.push o).get? c = some q := fun H o c q e => Heap.get?_push_of_some _ e
  have st0 : ∀ (H : Heap), H.get? s₁.heap.objs.size = some ({ cls := .type "range_iterator", data := .fields #[rawInt a, rawInt (Builtin.Range.rangeSize a b 1), rawInt 1] } : Obj) → IsRangeIter H s₁.heap.objs.size (a + ((0 : Nat) : Int) * 1) ((n : Int) - ((0 : Nat) : Int)) 1 := fun H e => by
    show H.get? s₁.heap.objs.size = some _
    rw [hn] at e
    simpa using e
  refine codeAny_compStart_list ?q1 (W.self 0 _ _ _ ?q2 ?q3)
  case q2 => exact st0 _ (up _ _ _ _ (up _ _ _ _ (up _ _ _ _ (gI _ rfl))))
  case q1 => exact main _ _ _ { cls := .type "dict", data := .dict #[] } _ _ (o1 _) (o2 _ _) (Nat.lt_succ_self _) (st0 _ (up _ _ _ _ (up _ _ _ _ (up _ _ _ _ (gI _ rfl))))) (up _ _ _ _ (up _ _ _ _ (Heap.get?_push_size _ rfl))) (up _ _ _ _ (Heap.get?_push_size _ rfl)) dN (o8 _ _) (fun c q e => up _ _ _ _ (up _ _ _ _ (up _ _ _ _ (up _ _ _ _ e))))
  case q3 => exact main _ _ _ { cls := .type "dict", data := .dict #[] } _ _ (o1 _) (o2 _ _) (Nat.lt_succ_self _) (st0 _ (up _ _ _ _ (up _ _ _ _ (up _ _ _ _ (gI _ rfl))))) (up _ _ _ _ (up _ _ _ _ (Heap.get?_push_size _ rfl))) (up _ _ _ _ (Heap.get?_push_size _ rfl)) dN (o8 _ _) (fun c q e => up _ _ _ _ (up _ _ _ _ (up _ _ _ _ (up _ _ _ _ e))))
end
end Mine

-- part LawBase
namespace Mine
open PySem PySem.W PyProof.Rows
def lawStmt : PySem.Stmt := PySem.Challenge.pw_sr0010_01.main.body.getLast?.getD (.Pass default)
def lawBody : List PySem.Stmt := match lawStmt with
  | .FunctionDef (body := b) .. => b
  | _ => []
def lawScope : Scope := match lawStmt with
  | .FunctionDef (scope := b) .. => b
  | _ => { kind := .function, names := [], isGenerator := false, isCoroutine := false }
abbrev lawEnv (L fa : Addr) (cd : Value) : Env := envOfC (Str.ofString "law") lawScope L fa cd
theorem hn_of (x y z : Int) : [x, y, z].getD (0 + ((0 : Nat) : Int)).toNat 0 * 2 ^ (0 + ((0 : Nat) : Int)).toNat + ([x, y, z].getD (0 + ((0 + 1 : Nat) : Int)).toNat 0 * 2 ^ (0 + ((0 + 1 : Nat) : Int)).toNat +
    ([x, y, z].getD (0 + ((0 + 1 + 1 : Nat) : Int)).toNat 0 * 2 ^ (0 + ((0 + 1 + 1 : Nat) : Int)).toNat + 0)) = x + y * 2 + z * 4 := by
  show x * 1 + (y * 2 + (z * 4 + 0)) = _
  omega
theorem mul_fmod2 (a x : Int) : IntMulOk a (x.fmod 2) := by
  have h0 := fmod_lo x (n := 2) (by decide)
  have h1 := fmod_hi x (n := 2) (by decide)
  exact IntMulOk.of_right (intBits_le_64 (by omega) (by omega))
abbrev dg (k o : Int) : Int := (k.fdiv (2 ^ o.toNat)).fmod 2
theorem dg_lo (k o : Int) : 0 ≤ dg k o := fmod_lo _ (by decide)
theorem dg_hi (k o : Int) : dg k o ≤ 1 := Int.lt_add_one_iff.mp (fmod_hi _ (by decide))
/-- a sign of the row, by its digits -/
def rowAt (p0 p1 p2 p3 q0 q1 q2 q3 d0 d1 d2 : Int) : Int := (p0 + p1 * d0 + p2 * d1 + p3 * d2 + (q0 * d0 * d1 + q1 * d1 * d2 + q2 * d0 * d2) + q3 * d0 * d1 * d2).fmod 2
/-- three digits -/
structure DG (d0 d1 d2 : Int) : Prop where
  a0 : 0 ≤ d0 ∧ d0 ≤ 1
  a1 : 0 ≤ d1 ∧ d1 ≤ 1
  a2 : 0 ≤ d2 ∧ d2 ≤ 1
theorem told_digits (d0 d1 d2 : Int) (h : DG d0 d1 d2) : toldF (d0 + d1 * 2 + d2 * 4).toNat 3 = [d0, d1, d2] := by
  obtain ⟨a0, a1, a2⟩ := h
  rcases (by omega : d0 = 0 ∨ d0 = 1) with rfl | rfl <;> rcases (by omega : d1 = 0 ∨ d1 = 1) with rfl | rfl <;> rcases (by omega : d2 = 0 ∨ d2 = 1) with rfl | rfl <;> decide
theorem told_dg (w : World) (p : Program) (loose : List Str) (mean : ExcName → Option Value) (mg mb : Str → Option Value) (news : List (Addr × Obj)) (d0 d1 d2 n : Int) (h : DG d0 d1 d2) (hn : n = d0 + d1 * 2 + d2 * 4) (tx : Tok) :
   Cl PySem.Challenge.rw_sr0010_01.row.prog w (hd.heap_39 w.params) p loose mean mg mb 85 5 [.int n tx] news (RetL news [d0, d1, d2]) := by
  have e := told_digits d0 d1 d2 h
  obtain ⟨a0, a1, a2⟩ := h
  have z := told_cl w p loose mean mg mb news (d0 + d1 * 2 + d2 * 4).toNat (by omega) tx
  rw [e, Int.toNat_of_nonneg (by omega), ← hn] at z
  exact z
theorem dg_DG (k o0 o1 o2 : Int) : DG (dg k o0) (dg k o1) (dg k o2) := ⟨⟨dg_lo _ _, dg_hi _ _⟩, ⟨dg_lo _ _, dg_hi _ _⟩, ⟨dg_lo _ _, dg_hi _ _⟩⟩
def rowBody : List PySem.Stmt := match lawBody.drop 7 with
  | (PySem.Stmt.For (body := b) ..) :: _ => b
  | _ => []
/-- between the turns of the row's loop -/
def JR (f : Int → Int) (L lo lp lt lr : Addr) (rest : List (Addr × Obj)) (i : Nat) (m₁ : Str → Option Value) (news₁ : List (Addr × Obj)) : Prop :=
  ∃ us nn ok od vk vd, m₁ (Str.ofString "order") = some (.ref lo) ∧ m₁ (Str.ofString "plain") = some (.ref lp) ∧ m₁ (Str.ofString "tied") = some (.ref lt) ∧ m₁ (Str.ofString "row") = some (.ref lr) ∧
    news₁ = (lr, W.listOf us.toArray nn) :: (L + 3, ok) :: (L + 4, od) :: rest ∧ ok.data = .cell vk ∧ od.data = .cell vd ∧ IntsAre us ((rangeKs 0 i).map f)
theorem JR.next {f : Int → Int} {L lo lp lt lr : Addr} {rest : List (Addr × Obj)} {i : Nat} {m₁ : Str → Option Value} {us : List Value} {nn : Nat} {ok od : Obj} {vk vd : Option Value} {x : Int} {t : Tok} (h1 : m₁ (Str.ofString "order") = some (.ref lo)) (h2 : m₁ (Str.ofString "plain") = some (.ref lp))
    (h3 : m₁ (Str.ofString "tied") = some (.ref lt)) (h4 : m₁ (Str.ofString "row") = some (.ref lr)) (hk : ok.data = .cell vk) (hd : od.data = .cell vd) (hU : IntsAre us ((rangeKs 0 i).map f)) (hx : x = f (0 + (i : Int))) :
    JR f L lo lp lt lr rest (i + 1) m₁ ((lr, W.listOf (us ++ [Value.int x t]).toArray nn) :: (L + 3, ok) :: (L + 4, od) :: rest) := by
  subst hx
  refine ⟨_, _, ok, od, vk, vd, h1, h2, h3, h4, rfl, hk, hd, ?_⟩
  rw [rangeKs_snoc, List.map_append]
  exact ints_snoc (x := f (0 + (i : Int))) hU
end Mine

-- part RowT
namespace Mine
open PySem PySem.W PyProof.Rows
/-- a fact that omega shall not see -/
structure Hid (P : Prop) : Prop where
  h : P
theorem Hid.sym {a b : Nat} (x : Hid (@Ne Nat a b)) : b ≠ a := Ne.symm x.h
local macro_rules | `(tactic| k_ne) => `(tactic| (refine neN ?_; (try dsimp only); first | (refine Hid.h ?_; assumption) | (refine Hid.sym ?_; assumption) | omega))
/-- a short list -/
structure LS (us : List Value) (n : Nat) : Prop where
  len : us.length = n
theorem LS.fits {us : List Value} {n : Nat} (h : LS us n) (hn : n ≤ sizeLine) : us.toArray.size ≤ sizeLine := by rw [List.size_toArray, h.len]; exact hn
abbrev rowRest (L : Addr) (oz ob ot : Obj) (lo lp lt : Addr) (o0 o1 o2 p0 p1 p2 p3 q0 q1 q2 q3 : Int) (t0 t1 t2 t3 t4 t5 t6 t7 t8 t9 t10 : Tok) (n1 n2 n3 : Nat) : List (Addr × Obj) :=
  [(lo, W.listOf [.int o0 t0, .int o1 t1, .int o2 t2].toArray n1), (lp, W.listOf [.int p0 t3, .int p1 t4, .int p2 t5, .int p3 t6].toArray n2), (lt, W.listOf [.int q0 t7, .int q1 t8, .int q2 t9, .int q3 t10].toArray n3), (L + 5, ob), (L + 6, ot), (73, oz)]
/-- the ledger's addresses stand in this order -/
structure RO (L lo lp lt lr I : Addr) : Prop where
  l1 : @LT.lt Nat _ 73 L ∧ @LT.lt Nat _ (L + 6) lo ∧ @LT.lt Nat _ lo lr ∧ (@Ne Nat lp (L + 3) ∧ @Ne Nat lp (L + 4) ∧ @Ne Nat lp (L + 5) ∧ @LT.lt Nat _ lp lr) ∧ (@Ne Nat lt (L + 3) ∧ @Ne Nat lt (L + 4) ∧ @Ne Nat lt (L + 5) ∧ @Ne Nat lt (L + 6) ∧ @LT.lt Nat _ lt lr) ∧ @LT.lt Nat _ lr I
theorem off_cons {X : Addr} {a : Addr} {o : Obj} {r : List (Addr × Obj)} (h : a ≠ X) (hr : ∀ p ∈ r, p.1 ≠ X) : ∀ p ∈ (a, o) :: r, p.1 ≠ X := fun p hp => by
  rcases List.mem_cons.mp hp with rfl | hp
  · exact h
  · exact hr p hp
theorem RO.hI {L lo lp lt lr I : Addr} (h : RO L lo lp lt lr I) : I ≠ lr := by have := h.l1; exact Nat.ne_of_gt this.2.2.2.2.2
theorem RO.hr {L lo lp lt lr I : Addr} {ok od oz ob ot : Obj} {o0 o1 o2 p0 p1 p2 p3 q0 q1 q2 q3 : Int} {t0 t1 t2 t3 t4 t5 t6 t7 t8 t9 t10 : Tok} {n1 n2 n3 : Nat} (h : RO L lo lp lt lr I) :
    ∀ p ∈ (L + 3, ok) :: (L + 4, od) :: rowRest L oz ob ot lo lp lt o0 o1 o2 p0 p1 p2 p3 q0 q1 q2 q3 t0 t1 t2 t3 t4 t5 t6 t7 t8 t9 t10 n1 n2 n3, p.1 ≠ lr := by
  obtain ⟨z, a, b, ⟨c1, c2, c3, c⟩, ⟨d1, d2, d3, d4, d⟩, e⟩ := h.l1
  exact off_cons (Nat.ne_of_lt (by show @LT.lt Nat _ (L + 3) lr; omega)) (off_cons (Nat.ne_of_lt (by show @LT.lt Nat _ (L + 4) lr; omega)) (off_cons (Nat.ne_of_lt (by show @LT.lt Nat _ lo lr; omega)) (off_cons (Nat.ne_of_lt (by show @LT.lt Nat _ lp lr; omega)) (off_cons (Nat.ne_of_lt (by show @LT.lt Nat _ lt lr; omega)) (off_cons (Nat.ne_of_lt (by show @LT.lt Nat _ (L + 5) lr; omega)) (off_cons (Nat.ne_of_lt (by show @LT.lt Nat _ (L + 6) lr; omega)) (off_cons (Nat.ne_of_lt (by show @LT.lt Nat _ 73 lr; omega)) (fun _ h => nomatch h))))))))
theorem RO.hoff {L lo lp lt lr I : Addr} {ok od olr oz ob ot : Obj} {o0 o1 o2 p0 p1 p2 p3 q0 q1 q2 q3 : Int} {t0 t1 t2 t3 t4 t5 t6 t7 t8 t9 t10 : Tok} {n1 n2 n3 : Nat} (h : RO L lo lp lt lr I) :
    ∀ p ∈ (lr, olr) :: (L + 3, ok) :: (L + 4, od) :: rowRest L oz ob ot lo lp lt o0 o1 o2 p0 p1 p2 p3 q0 q1 q2 q3 t0 t1 t2 t3 t4 t5 t6 t7 t8 t9 t10 n1 n2 n3, p.1 ≠ I := by
  obtain ⟨z, a, b, ⟨c1, c2, c3, c⟩, ⟨d1, d2, d3, d4, d⟩, e⟩ := h.l1
  exact off_cons (Nat.ne_of_lt e) (off_cons (Nat.ne_of_lt (by show @LT.lt Nat _ (L + 3) I; omega)) (off_cons (Nat.ne_of_lt (by show @LT.lt Nat _ (L + 4) I; omega)) (off_cons (Nat.ne_of_lt (by show @LT.lt Nat _ lo I; omega)) (off_cons (Nat.ne_of_lt (by show @LT.lt Nat _ lp I; omega)) (off_cons (Nat.ne_of_lt (by show @LT.lt Nat _ lt I; omega)) (off_cons (Nat.ne_of_lt (by show @LT.lt Nat _ (L + 5) I; omega)) (off_cons (Nat.ne_of_lt (by show @LT.lt Nat _ (L + 6) I; omega)) (off_cons (Nat.ne_of_lt (by show @LT.lt Nat _ 73 I; omega)) (fun _ h => nomatch h)))))))))
theorem row_app {prog : Program} {w : World} {A : Around} {E : Value → Shared → Prop} {s : Shared} {g : Heap} {L : Addr} {m : Str → Option Value} {news rest : List (Addr × Obj)} {I lr : Addr} {it ok od : Obj} {vk vd : Option Value} {us : List Value} {nn n : Nat} {x : Value} {Q : Value → Shared → Prop}
    (F : Fr g L s.heap m) (N : News g L s.heap news) (_ : ok.data = .cell vk) (_ : od.data = .cell vd) (hs : ∀ p ∈ (I, it) :: (lr, W.listOf us.toArray nn) :: (L + 3, ok) :: (L + 4, od) :: rest, p ∈ news) (hI : I ≠ lr) (hr : ∀ p ∈ (L + 3, ok) :: (L + 4, od) :: rest, p.1 ≠ lr) (hl : LS us n) (hn : n < 8)
    (h : ∀ h', Fr g L h' m → News g L h' ((I, it) :: (lr, W.listOf (us ++ [x]).toArray (nn + 1)) :: (L + 3, ok) :: (L + 4, od) :: rest) → Q .none { s with heap := h' }) : wpAny (model prog w) A (call (.builtin "list.append") [.ref lr, x]) Q E s := by
  refine append_K F (fun p hp => N p (hs p hp)) (.tail hI (.head hr)) (fun h' F' N' => h h' F' ?_) (hl.fits (Nat.le_trans (Nat.le_of_lt hn) (by decide)))
  rw [List.push_toArray] at N'
  exact N'
/-- what the append of the row needs -/
structure RX (L lr I : Addr) (it : Obj) (us : List Value) (nn : Nat) (rest : List (Addr × Obj)) (i : Nat) : Prop where
  hI : I ≠ lr
  hr : ∀ ok od : Obj, ∀ p ∈ (L + 3, ok) :: (L + 4, od) :: rest, p.1 ≠ lr
  hl : LS us i
  hn : i < 8
theorem row_app' {prog : Program} {w : World} {A : Around} {E : Value → Shared → Prop} {s : Shared} {g : Heap} {L : Addr} {m : Str → Option Value} {news rest : List (Addr × Obj)} {I lr : Addr} {it ok od : Obj} {vk vd : Option Value} {us : List Value} {nn n : Nat} {x : Value} {Q : Value → Shared → Prop}
    (r : RX L lr I it us nn rest n) (F : Fr g L s.heap m) (N : News g L s.heap news) (dk : ok.data = .cell vk) (dd : od.data = .cell vd) (hs : ∀ p ∈ (I, it) :: (lr, W.listOf us.toArray nn) :: (L + 3, ok) :: (L + 4, od) :: rest, p ∈ news)
    (h : ∀ h', Fr g L h' m → News g L h' ((I, it) :: (lr, W.listOf (us ++ [x]).toArray (nn + 1)) :: (L + 3, ok) :: (L + 4, od) :: rest) → Q .none { s with heap := h' }) : wpAny (model prog w) A (call (.builtin "list.append") [.ref lr, x]) Q E s :=
  row_app F N dk dd hs r.hI (r.hr ok od) r.hl r.hn h
theorem row_turn (w : World) (p : Program) (loose : List Str) (mean : ExcName → Option Value) (mg mb : Str → Option Value) (g h : Heap) (L fa : Addr) (cd : Value) (s : Shared) (m₀ : Str → Option Value) (E : Value → Shared → Prop) (Q : Flow → Shared → Prop) (px : Pos)
    (B : Below callerA g [] g) (X : (hd.heap_39 w.params).In g) (T : Top p loose mean mg mb g)
    (lo lp lt lr I : Addr) (it ok od oz ob ot : Obj) (vk vd : Option Value) (o0 o1 o2 p0 p1 p2 p3 q0 q1 q2 q3 : Int) (t0 t1 t2 t3 t4 t5 t6 t7 t8 t9 t10 : Tok) (n1 n2 n3 nn : Nat) (us : List Value) (i : Nat) (t : Tok) (tk : Nat)
    (F' : Fr g L h (fun y => if y = Str.ofString "order" then some (.ref lo) else if y = Str.ofString "plain" then some (.ref lp) else if y = Str.ofString "tied" then some (.ref lt) else if y = Str.ofString "row" then some (.ref lr) else m₀ y))
    (N' : News g L h ((I, it) :: (lr, W.listOf us.toArray nn) :: (L + 3, ok) :: (L + 4, od) :: rowRest L oz ob ot lo lp lt o0 o1 o2 p0 p1 p2 p3 q0 q1 q2 q3 t0 t1 t2 t3 t4 t5 t6 t7 t8 t9 t10 n1 n2 n3))
    (hRO : RO L lo lp lt lr I)
    (hk : ok.data = .cell vk) (hdd : od.data = .cell vd) (ho : 0 ≤ o0 ∧ o0 ≤ 2 ∧ 0 ≤ o1 ∧ o1 ≤ 2 ∧ 0 ≤ o2 ∧ o2 ≤ 2) (hi : i < 8) (hU : IntsAre us ((rangeKs 0 i).map fun k => rowAt p0 p1 p2 p3 q0 q1 q2 q3 (dg k o0) (dg k o1) (dg k o2))) :
    wpAny (model PySem.Challenge.rw_sr0010_01.row.prog w) (callerA.deeper (lawEnv L fa cd)) (assign (.Name (Str.ofString "k") px) (lawEnv L fa cd) (.int (0 + (i : Int)) t)) (fun _ s₃ => wpAny (model PySem.Challenge.rw_sr0010_01.row.prog w) (callerA.deeper (lawEnv L fa cd)) (execs rowBody (lawEnv L fa cd))
      (TPost g L (JR (fun k => rowAt p0 p1 p2 p3 q0 q1 q2 q3 (dg k o0) (dg k o1) (dg k o2)) L lo lp lt lr (rowRest L oz ob ot lo lp lt o0 o1 o2 p0 p1 p2 p3 q0 q1 q2 q3 t0 t1 t2 t3 t4 t5 t6 t7 t8 t9 t10 n1 n2 n3) (i + 1)) I it { s with heap := h, toks := tk } Q) E s₃) E { s with heap := h, toks := tk } := by
  have l1 : @LT.lt Nat _ 73 L ∧ @LT.lt Nat _ (L + 6) lo ∧ @LT.lt Nat _ lo lr ∧ @LT.lt Nat _ lp lr ∧ @LT.lt Nat _ lt lr ∧ @LT.lt Nat _ lr I := ⟨hRO.l1.1, hRO.l1.2.1, hRO.l1.2.2.1, hRO.l1.2.2.2.1.2.2.2, hRO.l1.2.2.2.2.1.2.2.2.2, hRO.l1.2.2.2.2.2⟩
  have a1 : Hid (@Ne Nat lp (L + 3)) := ⟨hRO.l1.2.2.2.1.1⟩
  have a2 : Hid (@Ne Nat lp (L + 4)) := ⟨hRO.l1.2.2.2.1.2.1⟩
  have a3 : Hid (@Ne Nat lt (L + 3)) := ⟨hRO.l1.2.2.2.2.1.1⟩
  have a4 : Hid (@Ne Nat lt (L + 4)) := ⟨hRO.l1.2.2.2.2.1.2.1⟩
  have hDG := dg_DG (0 + (i : Int)) o0 o1 o2
  have hRX : RX L lr I it us nn (rowRest L oz ob ot lo lp lt o0 o1 o2 p0 p1 p2 p3 q0 q1 q2 q3 t0 t1 t2 t3 t4 t5 t6 t7 t8 t9 t10 n1 n2 n3) i := ⟨hRO.hI, fun _ _ => hRO.hr, ⟨by rw [hU.length]; simp [rangeKs_length]⟩, hi⟩
  revert X; k_fill; intro X
  dsimp only [rowBody, lawBody, lawScope, lawEnv, lawStmt, PySem.Challenge.pw_sr0010_01, List.getLast?, List.getLast, Option.getD, List.drop]
  dsimp only [rowRest] at N'
  w_top off
  repeat' (first
      | (k_unfold; (try dsimp only))
      | (k_end; kc_close)
      | ((with_reducible show LCg.CompSrc _ _ _ _ _ _ _ _ _ _ _ _ _ _); first | with_reducible (k_here; k_dflt (first | (refine LCg.CompSrc.ledger (by rfl) (by k_asm) (by k_asm) (by k_mem) (by first | size_fits | exact Nat.le_of_ble_eq_true rfl) ?_; intro gX9; lcg_lit) | (refine LCg.CompSrc.range (by rfl) (by k_asm) (by k_asm) (by assumption) (by first | decide | rfl) (by first | rfl | decide) (by first | size_fits | exact Nat.le_of_ble_eq_true rfl) ?_; intro gX9; lcg_lit))) | (k_here; k_dflt (first | (refine LCg.CompSrc.ledger (by rfl) (by k_asm) (by k_asm) (by k_mem) (by first | size_fits | exact Nat.le_of_ble_eq_true rfl) ?_; intro gX9; lcg_lit) | (refine LCg.CompSrc.range (by rfl) (by k_asm) (by k_asm) (by assumption) (by first | decide | rfl) (by first | rfl | decide) (by first | size_fits | exact Nat.le_of_ble_eq_true rfl) ?_; intro gX9; lcg_lit))))
      | ((with_reducible show LCg.CompEnd _ _ _ _ _ _ _ _ _ _ _ _ _ _); first | with_reducible (refine LCg.CompEnd.intro (by assumption) (by assumption) _ (fun _ hp => hp) (by first | assumption | (simp only [LCg.Off3, and_true]; assumption)) (by first | exact True.intro | exact src_led (by k_mem)) ?_) | (refine LCg.CompEnd.intro (by assumption) (by assumption) _ (fun _ hp => hp) (by first | assumption | (simp only [LCg.Off3, and_true]; assumption)) (by first | exact True.intro | exact src_led (by k_mem)) ?_))
      | (first | with_reducible (k_here; (with_reducible show wpAny _ _ (call (Value.ref 85) [Value.int _ _]) _ _ _); (with_reducible rename DG _ _ _ => hM9); k_dflt (refine' told_dg _ _ _ _ _ _ _ _ _ _ _ hM9 ?hn _ _ _ _ _ _ _ _ _ _ _ _ _ _ _ _ _ _ ?kB ?kF ?kK ?kN ?kT ?kk ?kd ?ku ?_; (case kB => k_asm); (case kF => k_asm); (case kK => k_asm); (case kN => k_asm); (case kT => k_asm); (case kk => rfl); (case kd => decide); (case ku => decide); (case hn => exact hn_of _ _ _)); dsimp only [RetL]; intro b9 us9 n9 h9 tk9 F9 N9 I9 o9; (simp only [LCg.Off1, and_true] at o9); (try dsimp only); (try k_fold)) | (k_here; (with_reducible show wpAny _ _ (call (Value.ref 85) [Value.int _ _]) _ _ _); (with_reducible rename DG _ _ _ => hM9); k_dflt (refine' told_dg _ _ _ _ _ _ _ _ _ _ _ hM9 ?hn _ _ _ _ _ _ _ _ _ _ _ _ _ _ _ _ _ _ ?kB ?kF ?kK ?kN ?kT ?kk ?kd ?ku ?_; (case kB => k_asm); (case kF => k_asm); (case kK => k_asm); (case kN => k_asm); (case kT => k_asm); (case kk => rfl); (case kd => decide); (case ku => decide); (case hn => exact hn_of _ _ _)); dsimp only [RetL]; intro b9 us9 n9 h9 tk9 F9 N9 I9 o9; (simp only [LCg.Off1, and_true] at o9); (try dsimp only); (try k_fold)))
      | ((with_reducible show wpAny _ _ (binaryOp Operator.Mult (Value.int _ _) (Value.int _ _)) _ _ _); first | with_reducible (k_here; first | refine PyProof.Rows.mul_int ?_ (mul_fmod2 _ _) | refine PyProof.Rows.mul_int ?_ (IntMulOk.of_right (by decide +kernel))); (try dsimp only); (try k_fold) | (k_here; first | refine PyProof.Rows.mul_int ?_ (mul_fmod2 _ _) | refine PyProof.Rows.mul_int ?_ (IntMulOk.of_right (by decide +kernel))); (try dsimp only); (try k_fold))
      | ((with_reducible show wpAny _ _ (call (Value.builtin "list.append") _) _ _ _); first | with_reducible (k_here; (with_reducible show wpAny _ _ (call (Value.builtin _) [Value.ref _, _]) _ _ _); k_dflt ((rename RX _ _ _ _ _ _ _ _ => hRX); (rename News _ _ _ _ => nN); (rename Fr _ _ _ _ => nF); (rename Obj.data _ = Data.cell (some (Value.int _ _)) => dk5); (rename Obj.data _ = Data.cell (some (Value.ref _)) => dd5); refine row_app' hRX nF nN dk5 dd5 (fun p hp => .tail _ (.tail _ (.tail _ hp))) ?_; clear nN nF; intro h5 F5 N5); (try dsimp only); (try k_fold)) | (k_here; (with_reducible show wpAny _ _ (call (Value.builtin _) [Value.ref _, _]) _ _ _); k_dflt ((rename RX _ _ _ _ _ _ _ _ => hRX); (rename News _ _ _ _ => nN); (rename Fr _ _ _ _ => nF); (rename Obj.data _ = Data.cell (some (Value.int _ _)) => dk5); (rename Obj.data _ = Data.cell (some (Value.ref _)) => dd5); refine row_app' hRX nF nN dk5 dd5 (fun p hp => .tail _ (.tail _ (.tail _ hp))) ?_; clear nN nF; intro h5 F5 N5); (try dsimp only); (try k_fold)))
      | walk1
      | (dsimp only; walk1)
      | (leave1; (try dsimp only))
      | fail "no step")
  rename News _ _ _ _ => N5
  rename Fr _ _ _ _ => F5
  rename RO _ _ _ _ _ _ => hRO
  rename Obj.data _ = Data.cell (some (Value.int _ _)) => dk5
  rename Obj.data _ = Data.cell (some (Value.ref _)) => dd5
  rename IntsAre us _ => hU
  refine TEnd.mk F5 N5 _ (fun p hp => hp) hRO.hoff ?_
  refine JR.next ?_ ?_ ?_ ?_ dk5 dd5 hU ?_
  · rfl
  · rfl
  · rfl
  · rfl
  · simp only [rowAt]
    rfl
end Mine

-- part PlT
namespace Mine
open PySem PySem.W PyProof.Rows
def plBody : List PySem.Stmt := match lawBody.drop 10 with
  | (PySem.Stmt.For (body := b) ..) :: _ => b
  | _ => []
theorem turn_B8 {us : List Value} {ns : List Int} {p : Int} (h : IntsAre us (turnF ns p)) : B8 us (turnF ns p) := by
  refine ⟨h, by simp [turnF, rangeKs_length], fun r hr => ?_⟩
  obtain ⟨k, _, rfl⟩ := List.mem_map.mp hr
  exact ⟨fmod_lo _ (by decide), Int.lt_add_one_iff.mp (fmod_hi _ (by decide))⟩
/-- the place of the loop -/
structure PL (p : Int) : Prop where
  lo : 0 ≤ p
  hi : p ≤ 2
abbrev plRest (L lb ls lo lt : Addr) (oz ob : Obj) (bs : List Value) (nb : Nat) (s0 s1 s2 o0 o1 o2 q0 q1 q2 q3 : Int) (t0 t1 t2 t3 t4 t5 t6 t7 t8 t9 : Tok) (n1 n2 n3 : Nat) : List (Addr × Obj) :=
  [(L + 5, ob), (lb, W.listOf bs.toArray nb), (ls, W.listOf [.int s0 t0, .int s1 t1, .int s2 t2].toArray n1), (lo, W.listOf [.int o0 t3, .int o1 t4, .int o2 t5].toArray n2), (lt, W.listOf [.int q0 t6, .int q1 t7, .int q2 t8, .int q3 t9].toArray n3), (73, oz)]
/-- a list of seven counts -/
structure L7 (vs : List Value) (ns : List Int) : Prop where
  are : IntsAre vs ns
  len : ns.length = 7
section
variable {prog : Program} {w : World} {A : Around} {E : Value → Shared → Prop} {s : Shared}
theorem item_L7 {value slice : PySem.Expr} {l : Addr} {vs : List Value} {ns : List Int} {k : Int} {u : Tok} {Q : Value → Shared → Prop}
    (hl : s.heap.IsList l vs.toArray) (hI : L7 vs ns) (h0 : 0 ≤ k) (h1 : k < 0 + (((7 : Int) - 0).toNat : Int)) (h : ∀ t, Q (.int (ns.getD k.toNat 0) t) s)
    (hs : subscripted slice false (.ref l) (.int k u) = operate [.ref l, .int k u] (getItem (.ref l) (.int k u)) := by with_unfolding_all rfl) :
    wpAny (model prog w) A (subscriptTail value slice (.ref l) (.int k u)) Q E s :=
  item_ints hl hI.are h0 (by rw [hI.len]; have e : (0 : Int) + (((7 : Int) - 0).toNat : Int) = 7 := (by decide); rw [e] at h1; exact h1) (by rw [hI.len]; decide) h hs
end
local macro_rules | `(tactic| k_ne) => `(tactic| (refine neN ?_; (try dsimp only); first | (refine Hid.h ?_; assumption) | (refine Hid.sym ?_; assumption) | omega))
/-- the place p stands at j in the order -/
structure PI (p o0 o1 o2 : Int) (j : Nat) : Prop where
  e : ∀ t3 t4 t5, kf_at p [.int o0 t3, .int o1 t4, .int o2 t5] = some j
  lt : j < 3
section
variable {prog : Program} {w : World} {A : Around} {E : Value → Shared → Prop} {s : Shared} {h₀ : Heap} {L : Addr} {news : List (Addr × Obj)}
theorem idx_PI {D : Addr} {p o0 o1 o2 : Int} {j n : Nat} {t t3 t4 t5 : Tok} {Q : Value → Shared → Prop} (hp : PI p o0 o1 o2 j) (N : News h₀ L s.heap news) (hm : (D, W.listOf [.int o0 t3, .int o1 t4, .int o2 t5].toArray n) ∈ news)
    (h : Q (.int (j : Int) s.toks) { s with toks := s.toks + 1 }) : wpAny (model prog w) A (call (.builtin "list.index") [.ref D, .int p t]) Q E s :=
  kf_index N hm rfl (hp.e _ _ _) rfl (by show 3 ≤ sizeLine; decide) h
theorem item_three {value slice : PySem.Expr} {l : Addr} {s0 s1 s2 : Int} {t0 t1 t2 : Tok} {p o0 o1 o2 : Int} {j : Nat} {u : Tok} {Q : Value → Shared → Prop} (hp : PI p o0 o1 o2 j)
    (hl : s.heap.IsList l [.int s0 t0, .int s1 t1, .int s2 t2].toArray) (h : ∀ t, Q (.int ([s0, s1, s2].getD j 0) t) s)
    (hs : subscripted slice false (.ref l) (.int (j : Int) u) = operate [.ref l, .int (j : Int) u] (getItem (.ref l) (.int (j : Int) u)) := by with_unfolding_all rfl) :
    wpAny (model prog w) A (subscriptTail value slice (.ref l) (.int (j : Int) u)) Q E s :=
  item_ints (ns := [s0, s1, s2]) (k := (j : Int)) hl (.cons _ _ (.cons _ _ (.cons _ _ .nil))) (Int.ofNat_nonneg _) (by have := hp.lt; show (j : Int) < 3; omega) (by show 3 ≤ 1000; decide) (fun t => by rw [Int.toNat_natCast]; exact h t) hs
end
/-- the law at a place -/
structure Law1 (D : Bool) (q S c : Int) : Prop where
  e : D = (q == 0 && (S == 4 && c == 1))
theorem Law1.f3 {D : Bool} {q S c : Int} (h : Law1 D q S c) (hq : q = 0) (hs : S = 4) (hx : (D != (c == 1)) = true) : False := by
  rw [h.e, hq, hs] at hx; cases hc : (c == 1) <;> simp [hc] at hx
theorem Law1.f2 {D : Bool} {q S c : Int} (h : Law1 D q S c) (hq : q = 0) (hs : S ≠ 4) (hx : (D != (S == 4)) = true) : False := by
  rw [h.e, hq] at hx; have : (S == 4) = false := by simpa using hs
  rw [this] at hx; simp at hx
theorem Law1.f1 {D : Bool} {q S c : Int} (h : Law1 D q S c) (hq : q ≠ 0) (hx : (D != (q == 0)) = true) : False := by
  rw [h.e] at hx; have : (q == 0) = false := by simpa using hq
  rw [this] at hx; simp at hx
/-- between the turns of the place's loop -/
def JP (L lo lt lr ls : Addr) (R : List (Addr × Obj)) (us : List Value) (nn : Nat) (_ : Nat) (m₁ : Str → Option Value) (news₁ : List (Addr × Obj)) : Prop :=
  ∃ ot vt, m₁ (Str.ofString "order") = some (.ref lo) ∧ m₁ (Str.ofString "tied") = some (.ref lt) ∧ m₁ (Str.ofString "row") = some (.ref lr) ∧ m₁ (Str.ofString "ties") = some (.ref ls) ∧
    news₁ = (lr, W.listOf us.toArray nn) :: (L + 6, ot) :: R ∧ ot.data = .cell vt
theorem JP.mk {L lo lt lr ls : Addr} {R : List (Addr × Obj)} {us : List Value} {nn i : Nat} {m₁ : Str → Option Value} {ot : Obj} {vt : Option Value} (h : ot.data = .cell vt) (h1 : m₁ (Str.ofString "order") = some (.ref lo)) (h2 : m₁ (Str.ofString "tied") = some (.ref lt))
    (h3 : m₁ (Str.ofString "row") = some (.ref lr)) (h4 : m₁ (Str.ofString "ties") = some (.ref ls)) : JP L lo lt lr ls R us nn i m₁ ((lr, W.listOf us.toArray nn) :: (L + 6, ot) :: R) := ⟨ot, vt, h1, h2, h3, h4, rfl, h⟩
theorem RP_off {L lb ls lo lt lr I : Addr} {oz ob ot olr : Obj} {bs : List Value} {nb : Nat} {s0 s1 s2 o0 o1 o2 q0 q1 q2 q3 : Int} {t0 t1 t2 t3 t4 t5 t6 t7 t8 t9 : Tok} {n1 n2 n3 : Nat} (h : @LT.lt Nat _ 73 L ∧ @LT.lt Nat _ (L + 6) lo ∧ @LT.lt Nat _ lo lr ∧ (@Ne Nat lt (L + 6) ∧ @LT.lt Nat _ lt lr) ∧ @LT.lt Nat _ lr I ∧ (@Ne Nat lb (L + 6) ∧ @LT.lt Nat _ lb I) ∧ @LT.lt Nat _ (L + 6) ls ∧ @LT.lt Nat _ ls I) :
    ∀ p ∈ (lr, olr) :: (L + 6, ot) :: plRest L lb ls lo lt oz ob bs nb s0 s1 s2 o0 o1 o2 q0 q1 q2 q3 t0 t1 t2 t3 t4 t5 t6 t7 t8 t9 n1 n2 n3, p.1 ≠ I := by
  obtain ⟨z, a, b, ⟨c2, c⟩, d, ⟨e1, e⟩, f1, f⟩ := h
  exact off_cons (Nat.ne_of_lt d) (off_cons (Nat.ne_of_lt (by show @LT.lt Nat _ (L + 6) I; omega)) (off_cons (Nat.ne_of_lt (by show @LT.lt Nat _ (L + 5) I; omega)) (off_cons (Nat.ne_of_lt e) (off_cons (Nat.ne_of_lt f) (off_cons (Nat.ne_of_lt (by show @LT.lt Nat _ lo I; omega)) (off_cons (Nat.ne_of_lt (by show @LT.lt Nat _ lt I; omega)) (off_cons (Nat.ne_of_lt (by show @LT.lt Nat _ 73 I; omega)) (fun _ h => nomatch h))))))))
structure RPo (L lb ls lo lt lr I : Addr) : Prop where
  l1 : @LT.lt Nat _ 73 L ∧ @LT.lt Nat _ (L + 6) lo ∧ @LT.lt Nat _ lo lr ∧ (@Ne Nat lt (L + 6) ∧ @LT.lt Nat _ lt lr) ∧ @LT.lt Nat _ lr I ∧ (@Ne Nat lb (L + 6) ∧ @LT.lt Nat _ lb I) ∧ @LT.lt Nat _ (L + 6) ls ∧ @LT.lt Nat _ ls I
theorem pl_turn (w : World) (p : Program) (loose : List Str) (mean : ExcName → Option Value) (mg mb : Str → Option Value) (g h : Heap) (L fa : Addr) (cd : Value) (s : Shared) (m₀ : Str → Option Value) (E : Value → Shared → Prop) (Q : Flow → Shared → Prop) (px : Pos)
    (B : Below callerA g [] g) (X : (hd.heap_39 w.params).In g) (T : Top p loose mean mg mb g)
    (lo lt lr lb ls I : Addr) (it ot oz ob : Obj) (vt : Option Value) (o0 o1 o2 q0 q1 q2 q3 s0 s1 s2 : Int) (t0 t1 t2 t3 t4 t5 t6 t7 t8 t9 : Tok) (n1 n2 n3 nn nb : Nat) (us bs : List Value) (ns xs : List Int) (i : Nat) (t : Tok) (tk : Nat)
    (F' : Fr g L h (fun y => if y = Str.ofString "order" then some (.ref lo) else if y = Str.ofString "tied" then some (.ref lt) else if y = Str.ofString "row" then some (.ref lr) else if y = Str.ofString "ties" then some (.ref ls) else m₀ y))
    (N' : News g L h ((I, it) :: (lr, W.listOf us.toArray nn) :: (L + 6, ot) :: plRest L lb ls lo lt oz ob bs nb s0 s1 s2 o0 o1 o2 q0 q1 q2 q3 t0 t1 t2 t3 t4 t5 t6 t7 t8 t9 n1 n2 n3))
    (hRP : RPo L lb ls lo lt lr I)
    (hot : ot.data = .cell vt) (hob : ob.data = .cell (some (.ref lb))) (hB : B8 us ns) (hbs : L7 bs xs) (hi : i < 3) (j : Nat) (hPI : PI (0 + (i : Int)) o0 o1 o2 j)
    (hlaw : Law1 (decide ((rangeKs 0 ((7 : Int) - 0).toNat).map (fun k' => xs.getD k'.toNat 0 + ((rangeKs 1 7).map (costOf (turnF ns (0 + (i : Int))))).getD k'.toNat 0) = [7, 6, 5, 4, 3, 2, 1])) ([q0, q1, q2, q3].getD (Int.toNat 3) 0) (s0 + (s1 + (s2 + 0))) ([s0, s1, s2].getD j 0)) :
    wpAny (model PySem.Challenge.rw_sr0010_01.row.prog w) (callerA.deeper (lawEnv L fa cd)) (assign (.Name (Str.ofString "place") px) (lawEnv L fa cd) (.int (0 + (i : Int)) t)) (fun _ s₃ => wpAny (model PySem.Challenge.rw_sr0010_01.row.prog w) (callerA.deeper (lawEnv L fa cd)) (execs plBody (lawEnv L fa cd)) (TPost g L (JP L lo lt lr ls (plRest L lb ls lo lt oz ob bs nb s0 s1 s2 o0 o1 o2 q0 q1 q2 q3 t0 t1 t2 t3 t4 t5 t6 t7 t8 t9 n1 n2 n3) us nn (i + 1)) I it { s with heap := h, toks := tk } Q) E s₃) E { s with heap := h, toks := tk } := by
  have l1 : @LT.lt Nat _ 73 L ∧ @LT.lt Nat _ (L + 6) lo ∧ @LT.lt Nat _ lo lr ∧ @LT.lt Nat _ lt lr ∧ @LT.lt Nat _ lr I ∧ @LT.lt Nat _ lb I ∧ @LT.lt Nat _ (L + 6) ls ∧ @LT.lt Nat _ ls I := ⟨hRP.l1.1, hRP.l1.2.1, hRP.l1.2.2.1, hRP.l1.2.2.2.1.2, hRP.l1.2.2.2.2.1, hRP.l1.2.2.2.2.2.1.2, hRP.l1.2.2.2.2.2.2.1, hRP.l1.2.2.2.2.2.2.2⟩
  have a1 : Hid (@Ne Nat lt (L + 6)) := ⟨hRP.l1.2.2.2.1.1⟩
  have a2 : Hid (@Ne Nat lb (L + 6)) := ⟨hRP.l1.2.2.2.2.2.1.1⟩
  have hPL : PL (0 + (i : Int)) := ⟨by omega, by omega⟩
  revert X; k_fill; intro X
  dsimp only [plBody, lawBody, lawScope, lawEnv, lawStmt, PySem.Challenge.pw_sr0010_01, List.getLast?, List.getLast, Option.getD, List.drop]
  dsimp only [plRest] at N'
  w_top off
  repeat' (first
      | (k_unfold; (try dsimp only))
      | (k_end; kc_close)
      | ((with_reducible show wpAny _ _ (subscriptTail (PySem.Expr.Name _ _) (PySem.Expr.Name _ _) (Value.ref _) (Value.int _ _)) _ _ _); first | with_reducible (k_here; (k_dflt (refine item_L7 (News.isList (by k_asm) (by k_mem)) (by with_reducible assumption) (by assumption) (by assumption) ?_)); intro _) | (k_here; (k_dflt (refine item_L7 (News.isList (by k_asm) (by k_mem)) (by with_reducible assumption) (by assumption) (by assumption) ?_)); intro _))
      | (first | with_reducible (k_here; (with_reducible show wpAny _ _ (call (Value.ref 90) [Value.ref _, Value.int _ _]) _ _ _); (with_reducible rename B8 _ _ => hB9); (with_reducible rename PL _ => hP9); k_dflt (refine' turned_cl _ _ _ _ _ _ _ _ _ _ _ _ _ ?hl hB9 (PL.lo hP9) (PL.hi hP9) _ _ _ _ _ _ _ _ _ _ _ _ _ _ _ _ _ ?kB ?kF ?kK ?kN ?kT ?kk ?kd ?ku ?_; (case kB => k_asm); (case kF => k_asm); (case kK => k_asm); (case kN => k_asm); (case kT => k_asm); (case kk => rfl); (case kd => decide); (case ku => decide); (case hl => k_mem)); dsimp only [RetL]; intro b9 us9 n9 h9 tk9 F9 N9 I9 o9; (have hB8 := turn_B8 I9); clear I9; (simp only [LCg.Off1, and_true] at o9); (try dsimp only); (try k_fold)) | (k_here; (with_reducible show wpAny _ _ (call (Value.ref 90) [Value.ref _, Value.int _ _]) _ _ _); (with_reducible rename B8 _ _ => hB9); (with_reducible rename PL _ => hP9); k_dflt (refine' turned_cl _ _ _ _ _ _ _ _ _ _ _ _ _ ?hl hB9 (PL.lo hP9) (PL.hi hP9) _ _ _ _ _ _ _ _ _ _ _ _ _ _ _ _ _ ?kB ?kF ?kK ?kN ?kT ?kk ?kd ?ku ?_; (case kB => k_asm); (case kF => k_asm); (case kK => k_asm); (case kN => k_asm); (case kT => k_asm); (case kk => rfl); (case kd => decide); (case ku => decide); (case hl => k_mem)); dsimp only [RetL]; intro b9 us9 n9 h9 tk9 F9 N9 I9 o9; (have hB8 := turn_B8 I9); clear I9; (simp only [LCg.Off1, and_true] at o9); (try dsimp only); (try k_fold)))
      | (first | with_reducible (k_here; (with_reducible show wpAny _ _ (call (Value.ref 95) [Value.ref _]) _ _ _); (with_reducible rename B8 _ _ => hB9); k_dflt (refine' costs_cl _ _ _ _ _ _ _ _ _ _ _ ?hl hB9 _ _ _ _ _ _ _ _ _ _ _ _ _ _ _ _ _ ?kB ?kF ?kK ?kN ?kT ?kk ?kd ?ku ?_; (case kB => k_asm); (case kF => k_asm); (case kK => k_asm); (case kN => k_asm); (case kT => k_asm); (case kk => rfl); (case kd => decide); (case ku => decide); (case hl => k_mem)); dsimp only [RetL]; intro b9 us9 n9 h9 tk9 F9 N9 I9 o9; (have hL7 := L7.mk I9 (by simp [rangeKs_length])); clear I9; (simp only [LCg.Off1, and_true] at o9); (try dsimp only); (try k_fold)) | (k_here; (with_reducible show wpAny _ _ (call (Value.ref 95) [Value.ref _]) _ _ _); (with_reducible rename B8 _ _ => hB9); k_dflt (refine' costs_cl _ _ _ _ _ _ _ _ _ _ _ ?hl hB9 _ _ _ _ _ _ _ _ _ _ _ _ _ _ _ _ _ ?kB ?kF ?kK ?kN ?kT ?kk ?kd ?ku ?_; (case kB => k_asm); (case kF => k_asm); (case kK => k_asm); (case kN => k_asm); (case kT => k_asm); (case kk => rfl); (case kd => decide); (case ku => decide); (case hl => k_mem)); dsimp only [RetL]; intro b9 us9 n9 h9 tk9 F9 N9 I9 o9; (have hL7 := L7.mk I9 (by simp [rangeKs_length])); clear I9; (simp only [LCg.Off1, and_true] at o9); (try dsimp only); (try k_fold)))
      | ((with_reducible show wpAny _ _ (call (Value.builtin "list.index") _) _ _ _); first | with_reducible (k_here; (with_reducible rename PI _ _ _ _ _ => hPI9); (k_dflt (refine idx_PI hPI9 (by k_asm) (by k_mem) ?_)); (try dsimp only); (try k_fold)) | (k_here; (with_reducible rename PI _ _ _ _ _ => hPI9); (k_dflt (refine idx_PI hPI9 (by k_asm) (by k_mem) ?_)); (try dsimp only); (try k_fold)))
      | ((with_reducible show wpAny _ _ (subscriptTail (PySem.Expr.Name _ _) (PySem.Expr.Call _ _ _ _) (Value.ref _) (Value.int _ _)) _ _ _); first | with_reducible (k_here; (with_reducible rename PI _ _ _ _ _ => hPI9); (k_dflt (refine item_three hPI9 (News.isList (by k_asm) (by k_mem)) ?_)); intro _; (try dsimp only); (try k_fold)) | (k_here; (with_reducible rename PI _ _ _ _ _ => hPI9); (k_dflt (refine item_three hPI9 (News.isList (by k_asm) (by k_mem)) ?_)); intro _; (try dsimp only); (try k_fold)))
      | walk1
      | (dsimp only; walk1)
      | (leave1; (try dsimp only))
      | fail "no step")
  all_goals first
    | exact (hlaw.f3 (by assumption) (by assumption) (by assumption)).elim
    | exact (hlaw.f2 (by assumption) (by assumption) (by assumption)).elim
    | exact (hlaw.f1 (by assumption) (by assumption)).elim
    | (rename News _ _ _ _ => nN
       rename Fr _ _ _ _ => nF
       rename Obj.data _ = Data.cell (some (Value.ref _)) => dT
       rename RPo _ _ _ _ _ _ _ => hRP
       refine TEnd.mk nF nN _ (fun p hp => .tail _ (.tail _ (.tail _ (.tail _ hp)))) (RP_off hRP.l1) (JP.mk dT ?_ ?_ ?_ ?_) <;> rfl)
end Mine

-- part PlL
namespace Mine
open PySem PySem.W PyProof.Rows
theorem map_four {m : Str → Option Value} {a b c d : Str} {va vb vc vd : Option Value} (h1 : m a = va) (h2 : m b = vb) (h3 : m c = vc) (h4 : m d = vd) :
    (fun y => if y = a then va else if y = b then vb else if y = c then vc else if y = d then vd else m y) = m := by
  funext y
  split
  · next h => rw [h, h1]
  · split
    · next h => rw [h, h2]
    · split
      · next h => rw [h, h3]
      · split
        · next h => rw [h, h4]
        · rfl
structure RPp (L lb ls lo lt lr : Addr) : Prop where
  l1 : @LT.lt Nat _ 73 L ∧ @LT.lt Nat _ (L + 6) lo ∧ @LT.lt Nat _ lo lr ∧ (@Ne Nat lt (L + 6) ∧ @LT.lt Nat _ lt lr) ∧ @Ne Nat lb (L + 6) ∧ @LT.lt Nat _ (L + 6) ls
theorem seg7 (w : World) (p : Program) (loose : List Str) (mean : ExcName → Option Value) (mg mb : Str → Option Value) (g : Heap) (L fa : Addr) (cd : Value) (s : Shared) (m₀ : Str → Option Value) (E : Value → Shared → Prop) (Q : Flow → Shared → Prop)
    (B : Below callerA g [] g) (X : (hd.heap_39 w.params).In g) (T : Top p loose mean mg mb g)
    (lo lt lr lb ls : Addr) (ot oz ob : Obj) (vt : Option Value) (o0 o1 o2 q0 q1 q2 q3 s0 s1 s2 : Int) (t0 t1 t2 t3 t4 t5 t6 t7 t8 t9 : Tok) (n1 n2 n3 nn nb : Nat) (us bs : List Value) (ns xs : List Int)
    (F' : Fr g L s.heap (fun y => if y = Str.ofString "order" then some (.ref lo) else if y = Str.ofString "tied" then some (.ref lt) else if y = Str.ofString "row" then some (.ref lr) else if y = Str.ofString "ties" then some (.ref ls) else m₀ y))
    (N' : News g L s.heap ((lr, W.listOf us.toArray nn) :: (L + 6, ot) :: plRest L lb ls lo lt oz ob bs nb s0 s1 s2 o0 o1 o2 q0 q1 q2 q3 t0 t1 t2 t3 t4 t5 t6 t7 t8 t9 n1 n2 n3))
    (hE : PassesOwn (model PySem.Challenge.rw_sr0010_01.row.prog w) (callerA.deeper (lawEnv L fa cd)) (lawEnv L fa cd) E) (hRP : RPp L lb ls lo lt lr)
    (hot : ot.data = .cell vt) (hob : ob.data = .cell (some (.ref lb))) (hB : B8 us ns) (hbs : L7 bs xs)
    (hlaw : ∀ i : Nat, i < 3 → ∃ j, PI (0 + (i : Int)) o0 o1 o2 j ∧ Law1 (decide ((rangeKs 0 ((7 : Int) - 0).toNat).map (fun k' => xs.getD k'.toNat 0 + ((rangeKs 1 7).map (costOf (turnF ns (0 + (i : Int))))).getD k'.toNat 0) = [7, 6, 5, 4, 3, 2, 1])) ([q0, q1, q2, q3].getD (Int.toNat 3) 0) (s0 + (s1 + (s2 + 0))) ([s0, s1, s2].getD j 0))
    (hc : ∀ h' tk' m₁, Fr g L h' m₁ → News g L h' [(73, oz)] → Q (.ret (.bool true)) { s with heap := h', toks := tk' }) :
    wpAny (model PySem.Challenge.rw_sr0010_01.row.prog w) (callerA.deeper (lawEnv L fa cd)) (execs (lawBody.drop 10) (lawEnv L fa cd)) Q E s := by
  have hX := X
  have hRP5 := hRP
  revert X; k_fill; intro X
  dsimp only [lawBody, lawScope, lawEnv, lawStmt, PySem.Challenge.pw_sr0010_01, List.getLast?, List.getLast, Option.getD, List.drop]
  dsimp only [lawScope, lawEnv, lawStmt, PySem.Challenge.pw_sr0010_01, List.getLast?, List.getLast, Option.getD] at hE
  w_top off
  walk1
  rename Fr _ _ _ _ => lF
  with_unfolding_all refine' For_turns lF ?_ (hE := hE)
  k_whole
  w_top off
  k_steps
  rename IsRange _ _ _ _ _ _ _ _ => hR
  rename Fr _ _ _ _ => hF
  rename News _ _ _ _ => hN
  refine it_rng (n := 3) (JP L lo lt lr ls (plRest L lb ls lo lt oz ob bs nb s0 s1 s2 o0 o1 o2 q0 q1 q2 q3 t0 t1 t2 t3 t4 t5 t6 t7 t8 t9 n1 n2 n3) us nn) rfl hR (by decide) (by decide) hF hN ⟨ot, vt, rfl, rfl, rfl, rfl, rfl, hot⟩ ?_ ?_
  · rintro i t m₁ news₁ h tk I it hi hlo hoff ⟨ot', vt', h1, h2, h3, h4, rfl, hot'⟩ F₁ N₁
    rw [← map_four h1 h2 h3 h4] at F₁
    obtain ⟨z, a, b, c, d, e⟩ := hRP5.l1
    have f : @LT.lt Nat _ ls I := hlo (ls, _) (.tail _ (.tail _ (.tail _ (.tail _ (.head _)))))
    have f0 : @LT.lt Nat _ lr I := hlo (lr, _) (.head _)
    have f1 : @LT.lt Nat _ lb I := hlo (lb, _) (.tail _ (.tail _ (.tail _ (.head _))))
    obtain ⟨j, hj, hl⟩ := hlaw i hi
    have zz := fun px Q => pl_turn w p loose mean mg mb g h L fa cd s m₁ E Q px B hX T lo lt lr lb ls I it ot' oz ob vt' o0 o1 o2 q0 q1 q2 q3 s0 s1 s2 t0 t1 t2 t3 t4 t5 t6 t7 t8 t9 n1 n2 n3 nn nb us bs ns xs i t tk F₁ N₁ ⟨⟨z, a, b, c, f0, ⟨d, f1⟩, e, f⟩⟩ hot' hob hB hbs hi j hj hl
    dsimp only [plBody, lawBody, lawScope, lawEnv, lawStmt, PySem.Challenge.pw_sr0010_01, List.getLast?, List.getLast, Option.getD, List.drop] at zz
    exact zz _ _
  · rintro m₁ news₁ h tk ⟨ot', vt', h1, h2, h3, h4, rfl, hot'⟩ F₁ N₁
    clear hF hN
    w_top off
    k_steps
    exact hc _ _ _ F₁ (cb_drop N₁ (fun p hp => .tail _ (.tail _ (.tail _ (.tail _ (.tail _ (.tail _ (.tail _ hp))))))))
end Mine

-- part RowL
namespace Mine
open PySem PySem.W PyProof.Rows
abbrev rowF (o0 o1 o2 p0 p1 p2 p3 q0 q1 q2 q3 : Int) (k : Int) : Int := rowAt p0 p1 p2 p3 q0 q1 q2 q3 (dg k o0) (dg k o1) (dg k o2)
theorem rowF_B8 {us : List Value} {o0 o1 o2 p0 p1 p2 p3 q0 q1 q2 q3 : Int} (h : IntsAre us ((rangeKs 0 8).map (rowF o0 o1 o2 p0 p1 p2 p3 q0 q1 q2 q3))) : B8 us ((rangeKs 0 8).map (rowF o0 o1 o2 p0 p1 p2 p3 q0 q1 q2 q3)) := by
  refine ⟨h, by simp [rangeKs_length], fun r hr => ?_⟩
  obtain ⟨k, _, rfl⟩ := List.mem_map.mp hr
  exact ⟨fmod_lo _ (by decide), Int.lt_add_one_iff.mp (fmod_hi _ (by decide))⟩
structure RO' (L lo lp lt lr : Addr) : Prop where
  l1 : @LT.lt Nat _ 73 L ∧ @LT.lt Nat _ (L + 6) lo ∧ @LT.lt Nat _ lo lr ∧ (@Ne Nat lp (L + 3) ∧ @Ne Nat lp (L + 4) ∧ @Ne Nat lp (L + 5) ∧ @LT.lt Nat _ lp lr) ∧ (@Ne Nat lt (L + 3) ∧ @Ne Nat lt (L + 4) ∧ @Ne Nat lt (L + 5) ∧ @Ne Nat lt (L + 6) ∧ @LT.lt Nat _ lt lr)
theorem seg5 (w : World) (p : Program) (loose : List Str) (mean : ExcName → Option Value) (mg mb : Str → Option Value) (g : Heap) (L fa : Addr) (cd : Value) (s : Shared) (m₀ : Str → Option Value) (E : Value → Shared → Prop) (Q : Flow → Shared → Prop)
    (B : Below callerA g [] g) (X : (hd.heap_39 w.params).In g) (T : Top p loose mean mg mb g)
    (lo lp lt lr : Addr) (ok od oz ob ot : Obj) (vk vd : Option Value) (o0 o1 o2 p0 p1 p2 p3 q0 q1 q2 q3 : Int) (t0 t1 t2 t3 t4 t5 t6 t7 t8 t9 t10 : Tok) (n1 n2 n3 nn : Nat)
    (F' : Fr g L s.heap (fun y => if y = Str.ofString "order" then some (.ref lo) else if y = Str.ofString "plain" then some (.ref lp) else if y = Str.ofString "tied" then some (.ref lt) else if y = Str.ofString "row" then some (.ref lr) else m₀ y))
    (N' : News g L s.heap ((lr, W.listOf [].toArray nn) :: (L + 3, ok) :: (L + 4, od) :: rowRest L oz ob ot lo lp lt o0 o1 o2 p0 p1 p2 p3 q0 q1 q2 q3 t0 t1 t2 t3 t4 t5 t6 t7 t8 t9 t10 n1 n2 n3))
    (hE : PassesOwn (model PySem.Challenge.rw_sr0010_01.row.prog w) (callerA.deeper (lawEnv L fa cd)) (lawEnv L fa cd) E) (hRO : RO' L lo lp lt lr) (hk : ok.data = .cell vk) (hdd : od.data = .cell vd) (ho : 0 ≤ o0 ∧ o0 ≤ 2 ∧ 0 ≤ o1 ∧ o1 ≤ 2 ∧ 0 ≤ o2 ∧ o2 ≤ 2)
    (hc : ∀ us n' ok' od' h' tk' m₁, m₁ (Str.ofString "order") = some (.ref lo) → m₁ (Str.ofString "tied") = some (.ref lt) → m₁ (Str.ofString "row") = some (.ref lr) → Fr g L h' m₁ →
      News g L h' ((lr, W.listOf us.toArray n') :: (L + 3, ok') :: (L + 4, od') :: rowRest L oz ob ot lo lp lt o0 o1 o2 p0 p1 p2 p3 q0 q1 q2 q3 t0 t1 t2 t3 t4 t5 t6 t7 t8 t9 t10 n1 n2 n3) →
      B8 us ((rangeKs 0 8).map (rowF o0 o1 o2 p0 p1 p2 p3 q0 q1 q2 q3)) →
      wpAny (model PySem.Challenge.rw_sr0010_01.row.prog w) (callerA.deeper (lawEnv L fa cd)) (execs (lawBody.drop 8) (lawEnv L fa cd)) Q E { s with heap := h', toks := tk' }) :
    wpAny (model PySem.Challenge.rw_sr0010_01.row.prog w) (callerA.deeper (lawEnv L fa cd)) (execs (lawBody.drop 7) (lawEnv L fa cd)) Q E s := by
  have hX := X
  have hRO5 := hRO
  revert X; k_fill; intro X
  dsimp only [lawBody, lawScope, lawEnv, lawStmt, PySem.Challenge.pw_sr0010_01, List.getLast?, List.getLast, Option.getD, List.drop]
  dsimp only [lawBody, lawScope, lawEnv, lawStmt, PySem.Challenge.pw_sr0010_01, List.getLast?, List.getLast, Option.getD, List.drop] at hc hE
  w_top off
  walk1
  rename Fr _ _ _ _ => lF
  with_unfolding_all refine' For_turns lF ?_ (hE := hE)
  k_whole
  w_top off
  k_steps
  rename IsRange _ _ _ _ _ _ _ _ => hR
  rename Fr _ _ _ _ => hF
  rename News _ _ _ _ => hN
  refine it_rng (n := 8) (JR (rowF o0 o1 o2 p0 p1 p2 p3 q0 q1 q2 q3) L lo lp lt lr (rowRest L oz ob ot lo lp lt o0 o1 o2 p0 p1 p2 p3 q0 q1 q2 q3 t0 t1 t2 t3 t4 t5 t6 t7 t8 t9 t10 n1 n2 n3)) rfl hR (by decide) (by decide) hF hN ⟨[], nn, ok, od, vk, vd, rfl, rfl, rfl, rfl, rfl, hk, hdd, .nil⟩ ?_ ?_
  · rintro i t m₁ news₁ h tk I it hi hlo hoff ⟨us, nn', ok', od', vk', vd', h1, h2, h3, h4, rfl, hk', hd', hU⟩ F₁ N₁
    rw [← map_four h1 h2 h3 h4] at F₁
    obtain ⟨z, a, b, c, d⟩ := hRO5.l1
    have e : @LT.lt Nat _ lr I := hlo (lr, _) (.head _)
    have z := fun Q => row_turn w p loose mean mg mb g h L fa cd s m₁ E Q { line := 89, col := 8, endLine := 89, endCol := 9 } B hX T lo lp lt lr I it ok' od' oz ob ot vk' vd' o0 o1 o2 p0 p1 p2 p3 q0 q1 q2 q3 t0 t1 t2 t3 t4 t5 t6 t7 t8 t9 t10 n1 n2 n3 nn' us i t tk F₁ N₁ ⟨⟨z, a, b, c, d, e⟩⟩ hk' hd' ho hi hU
    dsimp only [rowBody, lawBody, lawScope, lawEnv, lawStmt, PySem.Challenge.pw_sr0010_01, List.getLast?, List.getLast, Option.getD, List.drop] at z
    exact z _
  · rintro m₁ news₁ h tk ⟨us, nn', ok', od', vk', vd', h1, h2, h3, h4, rfl, hk', hd', hU⟩ F₁ N₁
    exact hc us nn' ok' od' h tk m₁ h1 h3 h4 F₁ N₁ (rowF_B8 hU)
end Mine

-- part Seg6
namespace Mine
open PySem PySem.W PyProof.Rows
local macro_rules | `(tactic| k_ne) => `(tactic| (refine neN ?_; (try dsimp only); first | (refine Hid.h ?_; assumption) | (refine Hid.sym ?_; assumption) | omega))
theorem fr_four {g h : Heap} {L : Addr} {m : Str → Option Value} {a b c d : Str} {va vb vc vd : Option Value} (F : Fr g L h m) (h1 : m a = va) (h2 : m b = vb) (h3 : m c = vc) (h4 : m d = vd) :
    Fr g L h (fun y => if y = a then va else if y = b then vb else if y = c then vc else if y = d then vd else m y) := by rw [map_four h1 h2 h3 h4]; exact F
theorem mem_all {a : Addr × Obj} {r N : List (Addr × Obj)} (h : a ∈ N) (hr : ∀ p ∈ r, p ∈ N) : ∀ p ∈ a :: r, p ∈ N := fun p hp => by
  rcases List.mem_cons.mp hp with rfl | hp
  · exact h
  · exact hr p hp
theorem seg6 (w : World) (p : Program) (loose : List Str) (mean : ExcName → Option Value) (mg mb : Str → Option Value) (g : Heap) (L fa : Addr) (cd : Value) (s : Shared) (m₁ : Str → Option Value) (E : Value → Shared → Prop) (Q : Flow → Shared → Prop)
    (B : Below callerA g [] g) (X : (hd.heap_39 w.params).In g) (T : Top p loose mean mg mb g)
    (lo lp lt lr : Addr) (ok od oz ob ot : Obj) (vb vt : Option Value) (o0 o1 o2 p0 p1 p2 p3 q0 q1 q2 q3 : Int) (t0 t1 t2 t3 t4 t5 t6 t7 t8 t9 t10 : Tok) (n1 n2 n3 nn : Nat) (us : List Value) (ns : List Int)
    (F' : Fr g L s.heap (fun y => if y = Str.ofString "order" then some (.ref lo) else if y = Str.ofString "tied" then some (.ref lt) else if y = Str.ofString "row" then some (.ref lr) else m₁ y))
    (N' : News g L s.heap ((lr, W.listOf us.toArray nn) :: (L + 3, ok) :: (L + 4, od) :: rowRest L oz ob ot lo lp lt o0 o1 o2 p0 p1 p2 p3 q0 q1 q2 q3 t0 t1 t2 t3 t4 t5 t6 t7 t8 t9 t10 n1 n2 n3))
    (hE : PassesOwn (model PySem.Challenge.rw_sr0010_01.row.prog w) (callerA.deeper (lawEnv L fa cd)) (lawEnv L fa cd) E) (hRO : RO' L lo lp lt lr)
    (hot : ot.data = .cell vt) (hob : ob.data = .cell vb) (hB : B8 us ns)
    (hlaw : ∀ i : Nat, i < 3 → ∃ j, PI (0 + (i : Int)) o0 o1 o2 j ∧ Law1 (decide ((rangeKs 0 ((7 : Int) - 0).toNat).map (fun k' => ((rangeKs 1 7).map (costOf ns)).getD k'.toNat 0 + ((rangeKs 1 7).map (costOf (turnF ns (0 + (i : Int))))).getD k'.toNat 0) = [7, 6, 5, 4, 3, 2, 1])) ([q0, q1, q2, q3].getD (Int.toNat 3) 0) ((q0 + q2) + ((q0 + q1) + ((q1 + q2) + 0))) ([q0 + q2, q0 + q1, q1 + q2].getD j 0))
    (hc : ∀ h' tk' m₁, Fr g L h' m₁ → News g L h' [(73, oz)] → Q (.ret (.bool true)) { s with heap := h', toks := tk' }) :
    wpAny (model PySem.Challenge.rw_sr0010_01.row.prog w) (callerA.deeper (lawEnv L fa cd)) (execs (lawBody.drop 8) (lawEnv L fa cd)) Q E s := by
  have hX := X
  have hRP5 := hRO
  have l1 : @LT.lt Nat _ 73 L ∧ @LT.lt Nat _ (L + 6) lo ∧ @LT.lt Nat _ lo lr ∧ @LT.lt Nat _ lp lr ∧ @LT.lt Nat _ lt lr := ⟨hRO.l1.1, hRO.l1.2.1, hRO.l1.2.2.1, hRO.l1.2.2.2.1.2.2.2, hRO.l1.2.2.2.2.2.2.2.2⟩
  have a1 : Hid (@Ne Nat lp (L + 5)) := ⟨hRO.l1.2.2.2.1.2.2.1⟩
  have a2 : Hid (@Ne Nat lt (L + 5)) := ⟨hRO.l1.2.2.2.2.2.2.1⟩
  revert X; k_fill; intro X
  obtain ⟨tl, htl⟩ : ∃ tl, lawBody.drop 10 = tl := ⟨_, rfl⟩
  have e : lawBody.drop 8 = (lawBody.drop 8).take 2 ++ lawBody.drop 10 := by rfl
  rw [e, htl]
  dsimp only [lawBody, lawScope, lawEnv, lawStmt, PySem.Challenge.pw_sr0010_01, List.getLast?, List.getLast, Option.getD, List.drop, List.take, List.append, List.cons_append, List.nil_append]
  dsimp only [rowRest] at N'
  w_top off
  repeat' (first
      | (k_unfold; (try dsimp only))
      | (k_end; kc_close)
      | (first | with_reducible (k_here; (with_reducible show wpAny _ _ (call (Value.ref 95) [Value.ref _]) _ _ _); (with_reducible rename B8 _ _ => hB9); k_dflt (refine' costs_cl _ _ _ _ _ _ _ _ _ _ _ ?hl hB9 _ _ _ _ _ _ _ _ _ _ _ _ _ _ _ _ _ ?kB ?kF ?kK ?kN ?kT ?kk ?kd ?ku ?_; (case kB => k_asm); (case kF => k_asm); (case kK => k_asm); (case kN => k_asm); (case kT => k_asm); (case kk => rfl); (case kd => decide); (case ku => decide); (case hl => k_mem)); dsimp only [RetL]; intro b9 us9 n9 h9 tk9 F9 N9 I9 o9; (have hL7 := L7.mk I9 (by simp [rangeKs_length])); clear I9; (simp only [LCg.Off1, and_true] at o9); (try dsimp only); (try k_fold)) | (k_here; (with_reducible show wpAny _ _ (call (Value.ref 95) [Value.ref _]) _ _ _); (with_reducible rename B8 _ _ => hB9); k_dflt (refine' costs_cl _ _ _ _ _ _ _ _ _ _ _ ?hl hB9 _ _ _ _ _ _ _ _ _ _ _ _ _ _ _ _ _ ?kB ?kF ?kK ?kN ?kT ?kk ?kd ?ku ?_; (case kB => k_asm); (case kF => k_asm); (case kK => k_asm); (case kN => k_asm); (case kT => k_asm); (case kk => rfl); (case kd => decide); (case ku => decide); (case hl => k_mem)); dsimp only [RetL]; intro b9 us9 n9 h9 tk9 F9 N9 I9 o9; (have hL7 := L7.mk I9 (by simp [rangeKs_length])); clear I9; (simp only [LCg.Off1, and_true] at o9); (try dsimp only); (try k_fold)))
      | walk1
      | (dsimp only; walk1)
      | (leave1; (try dsimp only))
      | fail "no step")
  rename L7 _ _ => hL7
  rename B8 _ _ => hB
  rename News _ _ _ _ => nN
  rename Fr _ _ _ _ => nF
  rename Obj.data _ = Data.cell (some (Value.ref _)) => dT
  rename_i hAl h6
  rename (lr ≠ _) ∧ _ => o9
  rw [← htl]
  refine seg7 w p loose mean mg mb g L fa cd _ _ E Q B hX T lo lt lr _ _ ot oz _ vt o0 o1 o2 q0 q1 q2 q3 _ _ _ _ _ _ _ _ _ _ _ _ _ _ _ _ nn _ us _ ns _ (fr_four nF rfl rfl rfl rfl) (cb_drop nN (mem_all (.tail _ (.tail _ (.head _))) (mem_all (.tail _ (.tail _ (.tail _ (.tail _ (.tail _ (.tail _ (.tail _ (.tail _ (.tail _ (.head _)))))))))) (mem_all (.tail _ (.tail _ (.tail _ (.tail _ (.tail _ (.tail _ (.tail _ (.tail _ (.head _))))))))) (mem_all (.tail _ (.head _)) (mem_all (.head _) (mem_all (.tail _ (.tail _ (.tail _ (.tail _ (.tail _ (.head _)))))) (mem_all (.tail _ (.tail _ (.tail _ (.tail _ (.tail _ (.tail _ (.tail _ (.head _)))))))) (mem_all (.tail _ (.tail _ (.tail _ (.tail _ (.tail _ (.tail _ (.tail _ (.tail _ (.tail _ (.tail _ (.head _))))))))))) (fun _ h => nomatch h)))))))))) hE ⟨l1.1, l1.2.1, l1.2.2.1, ⟨hRP5.l1.2.2.2.2.2.2.2.1, hRP5.l1.2.2.2.2.2.2.2.2⟩, Ne.symm o9.2.2.2.2.2.2.2.1, hAl.2.2.2.2.2.2.2.2.1⟩ hot dT hB hL7 hlaw ?_
  intro h' tk' m₂ F₂ N₂
  exact hc h' tk' m₂ F₂ N₂
end Mine

-- part Seg4a
namespace Mine
open PySem PySem.W PyProof.Rows
/-- a bit of a number's rest by 16, as the walk writes it -/
abbrev kbit (x e : Int) : Int := ((x.fmod 16).fdiv (2 ^ e.toNat)).fmod 2
theorem seg4a (w : World) (p : Program) (loose : List Str) (mean : ExcName → Option Value) (mg mb : Str → Option Value) (g : Heap) (L fa : Addr) (cd : Value) (s : Shared) (m₁ : Str → Option Value) (E : Value → Shared → Prop) (Q : Flow → Shared → Prop)
    (B : Below callerA g [] g) (X : (hd.heap_39 w.params).In g) (T : Top p loose mean mg mb g)
    (lo ld : Addr) (oc ok od oz ob ot : Obj) (o0 o1 o2 d0 d1 d2 d3 d4 : Int) (t0 t1 t2 t3 t4 t5 t6 t7 : Tok) (n1 nd : Nat)
    (F' : Fr g L s.heap m₁)
    (N' : News g L s.heap [(lo, W.listOf [.int o0 t0, .int o1 t1, .int o2 t2].toArray n1), (ld, W.listOf [.int d0 t3, .int d1 t4, .int d2 t5, .int d3 t6, .int d4 t7].toArray nd), (L + 1, oc), (L + 3, ok), (L + 4, od), (L + 5, ob), (L + 6, ot), (73, oz)])
    (l1 : @LT.lt Nat _ 73 L ∧ @LT.lt Nat _ (L + 6) lo ∧ @LT.lt Nat _ (L + 6) ld) (hoc : oc.data = .cell (some (.ref ld)))
    (hc : ∀ h' tk' lp t8 t9 t10 t11 n2, Fr g L h' (fun y => if y = Str.ofString "plain" then some (.ref lp) else m₁ y) → News g L h' [(lp, W.listOf [.int (kbit ([d0, d1, d2, d3, d4].getD (Int.toNat 3) 0) (0 + ((0 : Nat) : Int))) t8, .int (kbit ([d0, d1, d2, d3, d4].getD (Int.toNat 3) 0) (0 + ((0 + 1 : Nat) : Int))) t9, .int (kbit ([d0, d1, d2, d3, d4].getD (Int.toNat 3) 0) (0 + ((0 + 1 + 1 : Nat) : Int))) t10, .int (kbit ([d0, d1, d2, d3, d4].getD (Int.toNat 3) 0) (0 + ((0 + 1 + 1 + 1 : Nat) : Int))) t11].toArray n2), (lo, W.listOf [.int o0 t0, .int o1 t1, .int o2 t2].toArray n1), (ld, W.listOf [.int d0 t3, .int d1 t4, .int d2 t5, .int d3 t6, .int d4 t7].toArray nd), (L + 1, oc), (L + 3, ok), (L + 4, od), (L + 5, ob), (L + 6, ot), (73, oz)] →
      @Ne Nat lp (L + 3) ∧ @Ne Nat lp (L + 4) ∧ @Ne Nat lp (L + 5) →
      wpAny (model PySem.Challenge.rw_sr0010_01.row.prog w) (callerA.deeper (lawEnv L fa cd)) (execs (lawBody.drop 5) (lawEnv L fa cd)) Q E { s with heap := h', toks := tk' }) :
    wpAny (model PySem.Challenge.rw_sr0010_01.row.prog w) (callerA.deeper (lawEnv L fa cd)) (execs (lawBody.drop 4) (lawEnv L fa cd)) Q E s := by
  have hX := X
  revert X; k_fill; intro X
  obtain ⟨tl, htl⟩ : ∃ tl, lawBody.drop 5 = tl := ⟨_, rfl⟩
  have e : lawBody.drop 4 = (lawBody.drop 4).take 1 ++ lawBody.drop 5 := by rfl
  rw [e, htl]
  dsimp only [lawBody, lawScope, lawEnv, lawStmt, PySem.Challenge.pw_sr0010_01, List.getLast?, List.getLast, Option.getD, List.drop, List.take, List.append, List.cons_append, List.nil_append]
  w_top off
  repeat' (first
      | (k_unfold; (try dsimp only))
      | (k_end; kc_close)
      | ((with_reducible show LCg.CompSrc _ _ _ _ _ _ _ _ _ _ _ _ _ _); first | with_reducible (k_here; k_dflt (first | (refine LCg.CompSrc.ledger (by rfl) (by k_asm) (by k_asm) (by k_mem) (by first | size_fits | exact Nat.le_of_ble_eq_true rfl) ?_; intro gX9; lcg_lit) | (refine LCg.CompSrc.range (by rfl) (by k_asm) (by k_asm) (by assumption) (by first | decide | rfl) (by first | rfl | decide) (by first | size_fits | exact Nat.le_of_ble_eq_true rfl) ?_; intro gX9; lcg_lit))) | (k_here; k_dflt (first | (refine LCg.CompSrc.ledger (by rfl) (by k_asm) (by k_asm) (by k_mem) (by first | size_fits | exact Nat.le_of_ble_eq_true rfl) ?_; intro gX9; lcg_lit) | (refine LCg.CompSrc.range (by rfl) (by k_asm) (by k_asm) (by assumption) (by first | decide | rfl) (by first | rfl | decide) (by first | size_fits | exact Nat.le_of_ble_eq_true rfl) ?_; intro gX9; lcg_lit))))
      | ((with_reducible show LCg.CompEnd _ _ _ _ _ _ _ _ _ _ _ _ _ _); first | with_reducible (refine LCg.CompEnd.intro (by assumption) (by assumption) _ (fun _ hp => hp) (by first | assumption | (simp only [LCg.Off3, and_true]; assumption)) (by first | exact True.intro | exact src_led (by k_mem)) ?_) | (refine LCg.CompEnd.intro (by assumption) (by assumption) _ (fun _ hp => hp) (by first | assumption | (simp only [LCg.Off3, and_true]; assumption)) (by first | exact True.intro | exact src_led (by k_mem)) ?_))
      | ((with_reducible show wpAny _ _ (binaryOp Operator.Pow (Value.int _ _) (Value.int _ _)) _ _ _); first | with_reducible (k_here; (k_dflt (refine pow_int_small (by decide +kernel) (by decide +kernel) (by decide +kernel) ?_)); (try dsimp only); (try k_fold)) | (k_here; (k_dflt (refine pow_int_small (by decide +kernel) (by decide +kernel) (by decide +kernel) ?_)); (try dsimp only); (try k_fold)))
      | ((with_reducible show wpAny _ _ (binaryOp Operator.FloorDiv (Value.int _ _) (Value.int _ _)) _ _ _); first | with_reducible (k_here; (k_dflt (refine floordiv_int (by decide +kernel) ?_ (Or.inl (PyProof.noPylong_of_log2 (by decide +kernel))))); (try dsimp only); (try k_fold)) | (k_here; (k_dflt (refine floordiv_int (by decide +kernel) ?_ (Or.inl (PyProof.noPylong_of_log2 (by decide +kernel))))); (try dsimp only); (try k_fold)))
      | walk1
      | (dsimp only; walk1)
      | (leave1; (try dsimp only))
      | fail "no step")
  rw [← htl]
  rename (lo ≠ _) ∧ _ => o1
  rename News _ _ _ _ => nN
  rename Fr _ _ _ _ => nF
  exact hc _ _ _ _ _ _ _ _ nF nN ⟨Ne.symm o1.2.2.2.1, Ne.symm o1.2.2.2.2.1, Ne.symm o1.2.2.2.2.2.1⟩
theorem seg4b (w : World) (p : Program) (loose : List Str) (mean : ExcName → Option Value) (mg mb : Str → Option Value) (g : Heap) (L fa : Addr) (cd : Value) (s : Shared) (m₁ : Str → Option Value) (E : Value → Shared → Prop) (Q : Flow → Shared → Prop)
    (B : Below callerA g [] g) (X : (hd.heap_39 w.params).In g) (T : Top p loose mean mg mb g)
    (lo ld lp : Addr) (oc ok od oz ob ot : Obj) (o0 o1 o2 d0 d1 d2 d3 d4 p0 p1 p2 p3 : Int) (t0 t1 t2 t3 t4 t5 t6 t7 : Tok) (t8 t9 t10 t11 : Tok) (n1 nd n2 : Nat)
    (F' : Fr g L s.heap m₁)
    (N' : News g L s.heap [(lp, W.listOf [.int p0 t8, .int p1 t9, .int p2 t10, .int p3 t11].toArray n2), (lo, W.listOf [.int o0 t0, .int o1 t1, .int o2 t2].toArray n1), (ld, W.listOf [.int d0 t3, .int d1 t4, .int d2 t5, .int d3 t6, .int d4 t7].toArray nd), (L + 1, oc), (L + 3, ok), (L + 4, od), (L + 5, ob), (L + 6, ot), (73, oz)])
    (l1 : @LT.lt Nat _ 73 L ∧ @LT.lt Nat _ (L + 6) lo ∧ @LT.lt Nat _ (L + 6) ld) (hoc : oc.data = .cell (some (.ref ld)))
    (hc : ∀ h' tk' lt t12 t13 t14 t15 n3, Fr g L h' (fun y => if y = Str.ofString "tied" then some (.ref lt) else m₁ y) → News g L h' [(lt, W.listOf [.int (kbit ([d0, d1, d2, d3, d4].getD (Int.toNat 4) 0 + 3) (0 + ((0 : Nat) : Int))) t12, .int (kbit ([d0, d1, d2, d3, d4].getD (Int.toNat 4) 0 + 3) (0 + ((0 + 1 : Nat) : Int))) t13, .int (kbit ([d0, d1, d2, d3, d4].getD (Int.toNat 4) 0 + 3) (0 + ((0 + 1 + 1 : Nat) : Int))) t14, .int (kbit ([d0, d1, d2, d3, d4].getD (Int.toNat 4) 0 + 3) (0 + ((0 + 1 + 1 + 1 : Nat) : Int))) t15].toArray n3), (lp, W.listOf [.int p0 t8, .int p1 t9, .int p2 t10, .int p3 t11].toArray n2), (lo, W.listOf [.int o0 t0, .int o1 t1, .int o2 t2].toArray n1), (ld, W.listOf [.int d0 t3, .int d1 t4, .int d2 t5, .int d3 t6, .int d4 t7].toArray nd), (L + 1, oc), (L + 3, ok), (L + 4, od), (L + 5, ob), (L + 6, ot), (73, oz)] →
      @Ne Nat lt (L + 3) ∧ @Ne Nat lt (L + 4) ∧ @Ne Nat lt (L + 5) ∧ @Ne Nat lt (L + 6) →
      wpAny (model PySem.Challenge.rw_sr0010_01.row.prog w) (callerA.deeper (lawEnv L fa cd)) (execs (lawBody.drop 6) (lawEnv L fa cd)) Q E { s with heap := h', toks := tk' }) :
    wpAny (model PySem.Challenge.rw_sr0010_01.row.prog w) (callerA.deeper (lawEnv L fa cd)) (execs (lawBody.drop 5) (lawEnv L fa cd)) Q E s := by
  have hX := X
  revert X; k_fill; intro X
  obtain ⟨tl, htl⟩ : ∃ tl, lawBody.drop 6 = tl := ⟨_, rfl⟩
  have e : lawBody.drop 5 = (lawBody.drop 5).take 1 ++ lawBody.drop 6 := by rfl
  rw [e, htl]
  dsimp only [lawBody, lawScope, lawEnv, lawStmt, PySem.Challenge.pw_sr0010_01, List.getLast?, List.getLast, Option.getD, List.drop, List.take, List.append, List.cons_append, List.nil_append]
  w_top off
  repeat' (first
      | (k_unfold; (try dsimp only))
      | (k_end; kc_close)
      | ((with_reducible show LCg.CompSrc _ _ _ _ _ _ _ _ _ _ _ _ _ _); first | with_reducible (k_here; k_dflt (first | (refine LCg.CompSrc.ledger (by rfl) (by k_asm) (by k_asm) (by k_mem) (by first | size_fits | exact Nat.le_of_ble_eq_true rfl) ?_; intro gX9; lcg_lit) | (refine LCg.CompSrc.range (by rfl) (by k_asm) (by k_asm) (by assumption) (by first | decide | rfl) (by first | rfl | decide) (by first | size_fits | exact Nat.le_of_ble_eq_true rfl) ?_; intro gX9; lcg_lit))) | (k_here; k_dflt (first | (refine LCg.CompSrc.ledger (by rfl) (by k_asm) (by k_asm) (by k_mem) (by first | size_fits | exact Nat.le_of_ble_eq_true rfl) ?_; intro gX9; lcg_lit) | (refine LCg.CompSrc.range (by rfl) (by k_asm) (by k_asm) (by assumption) (by first | decide | rfl) (by first | rfl | decide) (by first | size_fits | exact Nat.le_of_ble_eq_true rfl) ?_; intro gX9; lcg_lit))))
      | ((with_reducible show LCg.CompEnd _ _ _ _ _ _ _ _ _ _ _ _ _ _); first | with_reducible (refine LCg.CompEnd.intro (by assumption) (by assumption) _ (fun _ hp => hp) (by first | assumption | (simp only [LCg.Off3, and_true]; assumption)) (by first | exact True.intro | exact src_led (by k_mem)) ?_) | (refine LCg.CompEnd.intro (by assumption) (by assumption) _ (fun _ hp => hp) (by first | assumption | (simp only [LCg.Off3, and_true]; assumption)) (by first | exact True.intro | exact src_led (by k_mem)) ?_))
      | ((with_reducible show wpAny _ _ (binaryOp Operator.Pow (Value.int _ _) (Value.int _ _)) _ _ _); first | with_reducible (k_here; (k_dflt (refine pow_int_small (by decide +kernel) (by decide +kernel) (by decide +kernel) ?_)); (try dsimp only); (try k_fold)) | (k_here; (k_dflt (refine pow_int_small (by decide +kernel) (by decide +kernel) (by decide +kernel) ?_)); (try dsimp only); (try k_fold)))
      | ((with_reducible show wpAny _ _ (binaryOp Operator.FloorDiv (Value.int _ _) (Value.int _ _)) _ _ _); first | with_reducible (k_here; (k_dflt (refine floordiv_int (by decide +kernel) ?_ (Or.inl (PyProof.noPylong_of_log2 (by decide +kernel))))); (try dsimp only); (try k_fold)) | (k_here; (k_dflt (refine floordiv_int (by decide +kernel) ?_ (Or.inl (PyProof.noPylong_of_log2 (by decide +kernel))))); (try dsimp only); (try k_fold)))
      | walk1
      | (dsimp only; walk1)
      | (leave1; (try dsimp only))
      | fail "no step")
  rw [← htl]
  rename (lp ≠ _) ∧ _ => o1
  rename News _ _ _ _ => nN
  rename Fr _ _ _ _ => nF
  exact hc _ _ _ _ _ _ _ _ nF nN ⟨Ne.symm o1.2.2.2.2.1, Ne.symm o1.2.2.2.2.2.1, Ne.symm o1.2.2.2.2.2.2.1, Ne.symm o1.2.2.2.2.2.2.2.1⟩
end Mine

-- part Seg4c
namespace Mine
open PySem PySem.W PyProof.Rows
theorem fr_three {g h : Heap} {L : Addr} {m : Str → Option Value} {a b c : Str} {va vb vc : Option Value} (F : Fr g L h m) (h1 : m a = va) (h2 : m b = vb) (h3 : m c = vc) :
    Fr g L h (fun y => if y = a then va else if y = b then vb else if y = c then vc else m y) := by
  have : (fun y => if y = a then va else if y = b then vb else if y = c then vc else m y) = m := by
    funext y
    split
    · next h => rw [h, h1]
    · split
      · next h => rw [h, h2]
      · split
        · next h => rw [h, h3]
        · rfl
  rw [this]; exact F
theorem up_ne {m : Str → Option Value} {a b : Str} {v w : Option Value} (h : m b = w) (hn : b ≠ a) : (fun z => if z = a then v else m z) b = w := by
  show (if b = a then v else m b) = w
  rw [if_neg hn]; exact h
theorem seg4c (w : World) (p : Program) (loose : List Str) (mean : ExcName → Option Value) (mg mb : Str → Option Value) (g : Heap) (L fa : Addr) (cd : Value) (s : Shared) (m₁ : Str → Option Value) (E : Value → Shared → Prop) (Q : Flow → Shared → Prop)
    (B : Below callerA g [] g) (X : (hd.heap_39 w.params).In g) (T : Top p loose mean mg mb g)
    (lo lp lt : Addr) (ok od oz ob ot : Obj) (vk vd vb vt : Option Value) (o0 o1 o2 p0 p1 p2 p3 q0 q1 q2 q3 : Int) (t0 t1 t2 t3 t4 t5 t6 t7 t8 t9 t10 : Tok) (n1 n2 n3 : Nat)
    (F' : Fr g L s.heap m₁) (hm1 : m₁ (Str.ofString "order") = some (.ref lo)) (hm2 : m₁ (Str.ofString "plain") = some (.ref lp)) (hm3 : m₁ (Str.ofString "tied") = some (.ref lt))
    (N' : News g L s.heap ((L + 3, ok) :: (L + 4, od) :: rowRest L oz ob ot lo lp lt o0 o1 o2 p0 p1 p2 p3 q0 q1 q2 q3 t0 t1 t2 t3 t4 t5 t6 t7 t8 t9 t10 n1 n2 n3))
    (hE : PassesOwn (model PySem.Challenge.rw_sr0010_01.row.prog w) (callerA.deeper (lawEnv L fa cd)) (lawEnv L fa cd) E)
    (l1 : @LT.lt Nat _ 73 L ∧ @LT.lt Nat _ (L + 6) lo) (hlp : @Ne Nat lp (L + 3) ∧ @Ne Nat lp (L + 4) ∧ @Ne Nat lp (L + 5)) (hlt : @Ne Nat lt (L + 3) ∧ @Ne Nat lt (L + 4) ∧ @Ne Nat lt (L + 5) ∧ @Ne Nat lt (L + 6))
    (hk : ok.data = .cell vk) (hdd : od.data = .cell vd) (ho : 0 ≤ o0 ∧ o0 ≤ 2 ∧ 0 ≤ o1 ∧ o1 ≤ 2 ∧ 0 ≤ o2 ∧ o2 ≤ 2)
    (hot : ot.data = .cell vt) (hob : ob.data = .cell vb)
    (hlaw : ∀ i : Nat, i < 3 → ∃ j, PI (0 + (i : Int)) o0 o1 o2 j ∧ Law1 (decide ((rangeKs 0 ((7 : Int) - 0).toNat).map (fun k' => ((rangeKs 1 7).map (costOf ((rangeKs 0 8).map (rowF o0 o1 o2 p0 p1 p2 p3 q0 q1 q2 q3)))).getD k'.toNat 0 + ((rangeKs 1 7).map (costOf (turnF ((rangeKs 0 8).map (rowF o0 o1 o2 p0 p1 p2 p3 q0 q1 q2 q3)) (0 + (i : Int))))).getD k'.toNat 0) = [7, 6, 5, 4, 3, 2, 1])) ([q0, q1, q2, q3].getD (Int.toNat 3) 0) ((q0 + q2) + ((q0 + q1) + ((q1 + q2) + 0))) ([q0 + q2, q0 + q1, q1 + q2].getD j 0))
    (hc : ∀ h' tk' m₁, Fr g L h' m₁ → News g L h' [(73, oz)] → Q (.ret (.bool true)) { s with heap := h', toks := tk' }) :
    wpAny (model PySem.Challenge.rw_sr0010_01.row.prog w) (callerA.deeper (lawEnv L fa cd)) (execs (lawBody.drop 6) (lawEnv L fa cd)) Q E s := by
  have hX := X
  revert X; k_fill; intro X
  obtain ⟨tl, htl⟩ : ∃ tl, lawBody.drop 7 = tl := ⟨_, rfl⟩
  have e : lawBody.drop 6 = (lawBody.drop 6).take 1 ++ lawBody.drop 7 := by rfl
  rw [e, htl]
  dsimp only [lawBody, lawScope, lawEnv, lawStmt, PySem.Challenge.pw_sr0010_01, List.getLast?, List.getLast, Option.getD, List.drop, List.take, List.append, List.cons_append, List.nil_append]
  dsimp only [rowRest] at N'
  w_top off
  k_steps
  rw [← htl]
  dsimp only
  rename (@LT.lt Nat _ _ _) ∧ _ => hAl
  rename News _ _ _ _ => nN
  rename Fr _ _ _ _ => nF
  have hRO : RO' L lo lp lt _ := ⟨l1.1, l1.2, hAl.2.2.1, ⟨hlp.1, hlp.2.1, hlp.2.2, hAl.2.2.2.1⟩, ⟨hlt.1, hlt.2.1, hlt.2.2.1, hlt.2.2.2, hAl.2.2.2.2.1⟩⟩
  refine seg5 w p loose mean mg mb g L fa cd _ _ E Q B hX T lo lp lt _ ok od oz ob ot vk vd o0 o1 o2 p0 p1 p2 p3 q0 q1 q2 q3 t0 t1 t2 t3 t4 t5 t6 t7 t8 t9 t10 n1 n2 n3 _ (fr_four nF (up_ne hm1 (by decide)) (up_ne hm2 (by decide)) (up_ne hm3 (by decide)) rfl) nN hE hRO hk hdd ho ?_
  intro us n' ok' od' h' tk' m₂ e1 e2 e3 F₂ N₂ hB
  refine seg6 w p loose mean mg mb g L fa cd _ m₂ E Q B hX T lo lp lt _ ok' od' oz ob ot vb vt o0 o1 o2 p0 p1 p2 p3 q0 q1 q2 q3 t0 t1 t2 t3 t4 t5 t6 t7 t8 t9 t10 n1 n2 n3 n' us _ (fr_three F₂ e1 e2 e3) N₂ hE hRO hot hob hB hlaw ?_
  intro h' tk' m₃ F₃ N₃
  exact hc h' tk' m₃ F₃ N₃
end Mine

-- part Seg3a
namespace Mine
open PySem PySem.W PyProof.Rows
def ranksC : PySem.Expr × PySem.Expr × Scope × Pos × Pos := match lawBody.drop 2 with
  | (PySem.Stmt.Assign _ (.ListComp elt [⟨.Name _ px, iter, _, _⟩] scope pos) _) :: _ => (elt, iter, scope, px, pos)
  | _ => default
def ranksElt : PySem.Expr := ranksC.1
def ranksScope : Scope := ranksC.2.2.1
/-- the order of two pairs, as a fact that omega shall not see -/
structure TL (x0 x1 y0 y1 : Int) (b : Bool) : Prop where
  e : decide (ltP x0 x1 y0 y1) = b
section
variable {prog : Program} {w : World} {A : Around} {E : Value → Shared → Prop} {s : Shared} {h₀ : Heap} {L : Addr} {news : List (Addr × Obj)}
theorem tup_lt2 {l b : Addr} {x0 x1 y0 y1 : Int} {t0 t1 u0 u1 : Tok} {n n2 : Nat} {Q : Value → Shared → Prop} (N : News h₀ L s.heap news)
    (hl : (l, ({ cls := .type "tuple", data := .seq #[.int x0 t0, .int x1 t1] n } : Obj)) ∈ news) (hb : (b, ({ cls := .type "tuple", data := .seq #[.int y0 u0, .int y1 u1] n2 } : Obj)) ∈ news) (hu : A.units < cLine)
    (h1 : TL x0 x1 y0 y1 true → Q (.bool true) s) (h2 : TL x0 x1 y0 y1 false → Q (.bool false) s) : wpAny (model prog w) A (compareOp .Lt (.ref l) (.ref b)) Q E s := by
  refine tup_lt N hl hb hu ?_
  cases e : decide (ltP x0 x1 y0 y1) with
  | true => exact h1 ⟨e⟩
  | false => exact h2 ⟨e⟩
end
/-- how many of the first three draws stand below the place k -/
abbrev tlC (ds : List Int) (k : Int) (j : Int) : Bool := decide (ltP (ds.getD j.toNat 0) j (ds.getD k.toNat 0) k)
def rkF (ds : List Int) (k : Int) : Int := cond (tlC ds k (0 + ((0 : Nat) : Int))) 1 0 + (cond (tlC ds k (0 + ((0 + 1 : Nat) : Int))) 1 0 + cond (tlC ds k (0 + ((0 + 1 + 1 : Nat) : Int))) 1 0)
def RkPost (g : Heap) (L : Addr) (m : Str → Option Value) (news : List (Addr × Obj)) (s : Shared) (x : Int) (y : Value) (s' : Shared) : Prop :=
  ∃ (h' : Heap) (tk' : Nat) (t' : Tok), y = .int x t' ∧ s' = { s with heap := h', toks := tk' } ∧ Fr g L h' m ∧ News g L h' news
theorem rk_mk {g h' : Heap} {L : Addr} {m : Str → Option Value} {news all : List (Addr × Obj)} {s : Shared} {tk' : Nat} {ds : List Int} {k x : Int} {t' : Tok} {b0 b1 b2 : Bool}
    (h0 : TL (ds.getD (0 + ((0 : Nat) : Int)).toNat 0) (0 + ((0 : Nat) : Int)) (ds.getD k.toNat 0) k b0) (h1 : TL (ds.getD (0 + ((0 + 1 : Nat) : Int)).toNat 0) (0 + ((0 + 1 : Nat) : Int)) (ds.getD k.toNat 0) k b1)
    (h2 : TL (ds.getD (0 + ((0 + 1 + 1 : Nat) : Int)).toNat 0) (0 + ((0 + 1 + 1 : Nat) : Int)) (ds.getD k.toNat 0) k b2) (F : Fr g L h' m) (N : News g L h' all) (sub : ∀ p ∈ news, p ∈ all) (e : x = cond b0 1 0 + (cond b1 1 0 + cond b2 1 0)) :
    RkPost g L m news s (rkF ds k) (.int x t') { s with heap := h', toks := tk' } := by
  refine ⟨h', tk', t', ?_, rfl, F, fun p hp => N p (sub p hp)⟩
  rw [e]
  unfold rkF tlC
  rw [h0.e, h1.e, h2.e]
theorem ranks_turn (w : World) (p : Program) (loose : List Str) (mean : ExcName → Option Value) (mg mb : Str → Option Value) (g h : Heap) (L fa : Addr) (cd : Value) (s : Shared) (m : Str → Option Value) (E : Value → Shared → Prop)
    (B : Below callerA g [] g) (X : (hd.heap_39 w.params).In g) (T : Top p loose mean mg mb g)
    (lo ld C I D Z : Addr) (oc oC oI oD oZ : Obj) (d0 d1 d2 d3 d4 k : Int) (t0 t1 t2 t3 t4 t : Tok) (nd tk : Nat) (oo ok orr od ob ot oz : Obj)
    (F' : Fr g L h m) (h0 : 0 ≤ k) (h3 : k < 3) (hZ : oZ.data = .cell (some (.int k t)))
    (N' : News g L h ((Z, oZ) :: (I, oI) :: (C, oC) :: (D, oD) :: [(lo, oo), (73, oz), (ld, W.listOf [.int d0 t0, .int d1 t1, .int d2 t2, .int d3 t3, .int d4 t4].toArray nd), (L + 1, oc), (L + 2, orr), (L + 3, ok), (L + 4, od), (L + 5, ob), (L + 6, ot)]))
    (l1 : @LT.lt Nat _ I D ∧ @LT.lt Nat _ D C ∧ @LT.lt Nat _ C Z) (hoc : oc.data = .cell (some (.ref ld))) :
    wpAny (model PySem.Challenge.rw_sr0010_01.row.prog w) (callerA.deeper (lawEnv L fa cd)) (eval ranksElt (compEnvC ranksScope [(Str.ofString "i", Z), (Str.ofString "draws", L + 1)] C (lawEnv L fa cd)))
      (RkPost g L m ((Z, oZ) :: (I, oI) :: (C, oC) :: (D, oD) :: [(lo, oo), (73, oz), (ld, W.listOf [.int d0 t0, .int d1 t1, .int d2 t2, .int d3 t3, .int d4 t4].toArray nd), (L + 1, oc), (L + 2, orr), (L + 3, ok), (L + 4, od), (L + 5, ob), (L + 6, ot)]) s (rkF [d0, d1, d2, d3, d4] k)) E { s with heap := h, toks := tk } := by
  revert X; k_fill; intro X
  dsimp only [ranksElt, ranksC, ranksScope, lawBody, lawScope, lawEnv, lawStmt, PySem.Challenge.pw_sr0010_01, List.getLast?, List.getLast, Option.getD, List.drop, List.take, List.append, List.cons_append, List.nil_append]
  w_top off
  repeat' (first
      | (k_unfold; (try dsimp only))
      | (k_end; kc_close)
      | ((with_reducible show wpAny _ _ (compareOp CmpOp.Lt (Value.ref _) (Value.ref _)) _ _ _); first | with_reducible (k_here; (with_reducible rename News _ _ _ _ => nN9); (k_dflt (refine' tup_lt2 nN9 ?a9 ?b9 ?c9 ?_ ?_; (case a9 => k_mem); (case b9 => k_mem); (case c9 => exact Nat.le_of_ble_eq_true rfl))); (all_goals (intro hTL; (try dsimp only); (try k_fold)))) | (k_here; (with_reducible rename News _ _ _ _ => nN9); (k_dflt (refine' tup_lt2 nN9 ?a9 ?b9 ?c9 ?_ ?_; (case a9 => k_mem); (case b9 => k_mem); (case c9 => exact Nat.le_of_ble_eq_true rfl))); (all_goals (intro hTL; (try dsimp only); (try k_fold)))))
      | ((with_reducible show LCg.CompEnd _ _ _ _ _ _ _ _ _ _ _ _ _ _); first | with_reducible (k_dflt (refine LCg.CompEnd.intro (by assumption) (by assumption) _ (fun _ hp => .tail _ (.tail _ hp)) (by first | assumption | (simp only [LCg.Off3, and_true]; assumption)) (by exact True.intro) ?_)) | (k_dflt (refine LCg.CompEnd.intro (by assumption) (by assumption) _ (fun _ hp => .tail _ (.tail _ hp)) (by first | assumption | (simp only [LCg.Off3, and_true]; assumption)) (by exact True.intro) ?_)))
      | walk1
      | (dsimp only; walk1)
      | (leave1; (try dsimp only))
      | fail "no step")
  all_goals (
    rename News _ _ _ _ => nN
    rename Fr _ _ _ _ => nF
    refine' rk_mk ?h0 ?h1 ?h2 nF nN (fun p hp => .tail _ hp) ?e
    case h0 => with_reducible assumption
    case h1 => with_reducible assumption
    case h2 => with_reducible assumption
    case e => rfl)
end Mine

-- part Seg3b
namespace Mine
open PySem PySem.W PyProof.Rows
structure RanksAt (ys : List Value) (ns : List Int) : Prop where
  e : IntsAre ys ns
theorem seg3b (w : World) (p : Program) (loose : List Str) (mean : ExcName → Option Value) (mg mb : Str → Option Value) (g : Heap) (L fa : Addr) (cd : Value) (s : Shared) (m₁ : Str → Option Value) (E : Value → Shared → Prop) (Q : Flow → Shared → Prop)
    (B : Below callerA g [] g) (X : (hd.heap_39 w.params).In g) (T : Top p loose mean mg mb g)
    (lo ld : Addr) (oo oc orr ok od oz ob ot : Obj) (vr : Option Value) (d0 d1 d2 d3 d4 : Int) (t0 t1 t2 t3 t4 : Tok) (nd : Nat)
    (F' : Fr g L s.heap m₁)
    (N' : News g L s.heap [(lo, oo), (73, oz), (ld, W.listOf [.int d0 t0, .int d1 t1, .int d2 t2, .int d3 t3, .int d4 t4].toArray nd), (L + 1, oc), (L + 2, orr), (L + 3, ok), (L + 4, od), (L + 5, ob), (L + 6, ot)])
    (l1 : @LT.lt Nat _ 73 L ∧ @LT.lt Nat _ (L + 6) lo ∧ @LT.lt Nat _ (L + 6) ld) (hoc : oc.data = .cell (some (.ref ld))) (horr : orr.data = .cell vr)
    (hc : ∀ h' tk' lk orr' us n, Fr g L h' m₁ → News g L h' [(lk, W.listOf us.toArray n), (lo, oo), (73, oz), (ld, W.listOf [.int d0 t0, .int d1 t1, .int d2 t2, .int d3 t3, .int d4 t4].toArray nd), (L + 1, oc), (L + 2, orr'), (L + 3, ok), (L + 4, od), (L + 5, ob), (L + 6, ot)] →
      IntsAre us ((rangeKs 0 3).map (rkF [d0, d1, d2, d3, d4])) → orr'.data = .cell (some (.ref lk)) → @LT.lt Nat _ (L + 6) lk →
      wpAny (model PySem.Challenge.rw_sr0010_01.row.prog w) (callerA.deeper (lawEnv L fa cd)) (execs (lawBody.drop 3) (lawEnv L fa cd)) Q E { s with heap := h', toks := tk' }) :
    wpAny (model PySem.Challenge.rw_sr0010_01.row.prog w) (callerA.deeper (lawEnv L fa cd)) (execs (lawBody.drop 2) (lawEnv L fa cd)) Q E s := by
  have hX := X
  revert X; k_fill; intro X
  obtain ⟨tl, htl⟩ : ∃ tl, lawBody.drop 3 = tl := ⟨_, rfl⟩
  have e : lawBody.drop 2 = (lawBody.drop 2).take 1 ++ lawBody.drop 3 := by rfl
  rw [e, htl]
  dsimp only [lawBody, lawScope, lawEnv, lawStmt, PySem.Challenge.pw_sr0010_01, List.getLast?, List.getLast, Option.getD, List.drop, List.take, List.append, List.cons_append, List.nil_append]
  w_top off
  k_steps
  refine' comp_cell (h₀ := g) (L := L) (m := m₁) (cl := [(Str.ofString "draws", L + 1)]) ?c1 ?c2 ?c3 ?c4 ?c5 ?c6 ?_
  case c1 => with_unfolding_all rfl
  case c2 => rfl
  case c3 => decide
  case c4 => exact fun _ => rfl
  case c5 => exact fun _ => rfl
  case c6 => rfl
  w_top off
  k_steps
  rename IsRange _ _ _ _ _ _ _ _ => hR
  rename Fr _ _ _ _ => hF
  rename News _ _ _ _ => hN
  refine ⟨_, 0, 3, _, _, _, 3, _, rkF [d0, d1, d2, d3, d4], rfl, rfl, hF, hN, hR, by decide, by rfl, by decide, ?_, ?_⟩
  · intro k t Z oZ I oI C oC D ys h tk E' h0 h3 hZ F N lo1 lID lDC lCX
    have z := fun s => ranks_turn w p loose mean mg mb g h L fa cd s m₁ E' B hX T lo ld C I D Z oc oC oI (LCg.lst ys) oZ d0 d1 d2 d3 d4 k t0 t1 t2 t3 t4 t nd tk oo ok orr od ob ot oz F h0 (by have : k < 0 + (((3 : Nat)) : Int) := h3; omega) hZ N ⟨lID, lDC, lCX⟩ hoc
    dsimp only [ranksElt, ranksC, ranksScope, lawBody, lawScope, lawEnv, lawStmt, PySem.Challenge.pw_sr0010_01, List.getLast?, List.getLast, Option.getD, List.drop, List.take, List.append, List.cons_append, List.nil_append] at z
    exact z _
  · intro D ys h tk F N hI hlt
    clear hF hN hR
    have hAl := allLt_of hlt
    dsimp only [AllLt] at hAl
    dsimp only
    have hRank : RanksAt ys ((rangeKs 0 3).map (rkF [d0, d1, d2, d3, d4])) := ⟨hI⟩
    clear hI
    w_top off
    k_steps
    rename (@LT.lt Nat _ _ _) ∧ _ => hAl
    rename RanksAt _ _ => hRank
    rename News _ _ _ _ => nN
    rename Fr _ _ _ _ => nF
    rename Obj.data _ = Data.cell (some (Value.ref _)) => dk
    rw [← htl]
    refine' hc _ _ _ _ ys _ nF nN hRank.e dk ?_
    omega
end Mine

-- part Seg3c
namespace Mine
open PySem PySem.W PyProof.Rows
/-- the ranks by the order are 0, 1, 2 -/
structure PermR (r0 r1 r2 o0 o1 o2 : Int) : Prop where
  a : [r0, r1, r2].getD o0.toNat 0 = 0
  b : [r0, r1, r2].getD o1.toNat 0 = 1
  c : [r0, r1, r2].getD o2.toNat 0 = 2
theorem seg3c (w : World) (p : Program) (loose : List Str) (mean : ExcName → Option Value) (mg mb : Str → Option Value) (g : Heap) (L fa : Addr) (cd : Value) (s : Shared) (m₁ : Str → Option Value) (E : Value → Shared → Prop) (Q : Flow → Shared → Prop)
    (B : Below callerA g [] g) (X : (hd.heap_39 w.params).In g) (T : Top p loose mean mg mb g)
    (lk lo ld : Addr) (oc orr ok od oz ob ot : Obj) (r0 r1 r2 o0 o1 o2 d0 d1 d2 d3 d4 : Int) (t0 t1 t2 t3 t4 t5 t6 t7 t8 t9 t10 : Tok) (n1 nk nd : Nat)
    (F' : Fr g L s.heap (fun y => if y = Str.ofString "order" then some (.ref lo) else m₁ y))
    (N' : News g L s.heap [(lk, W.listOf [.int r0 t8, .int r1 t9, .int r2 t10].toArray nk), (lo, W.listOf [.int o0 t5, .int o1 t6, .int o2 t7].toArray n1), (73, oz), (ld, W.listOf [.int d0 t0, .int d1 t1, .int d2 t2, .int d3 t3, .int d4 t4].toArray nd), (L + 1, oc), (L + 2, orr), (L + 3, ok), (L + 4, od), (L + 5, ob), (L + 6, ot)])
    (horr : orr.data = .cell (some (.ref lk))) (ho0 : 0 ≤ o0) (ho0' : o0 < 3) (ho1 : 0 ≤ o1) (ho1' : o1 < 3) (ho2 : 0 ≤ o2) (ho2' : o2 < 3) (hperm : PermR r0 r1 r2 o0 o1 o2)
    (hc : ∀ h' tk', Fr g L h' (fun y => if y = Str.ofString "order" then some (.ref lo) else m₁ y) → News g L h' [(lo, W.listOf [.int o0 t5, .int o1 t6, .int o2 t7].toArray n1), (73, oz), (ld, W.listOf [.int d0 t0, .int d1 t1, .int d2 t2, .int d3 t3, .int d4 t4].toArray nd), (L + 1, oc), (L + 2, orr), (L + 3, ok), (L + 4, od), (L + 5, ob), (L + 6, ot)] →
      wpAny (model PySem.Challenge.rw_sr0010_01.row.prog w) (callerA.deeper (lawEnv L fa cd)) (execs (lawBody.drop 4) (lawEnv L fa cd)) Q E { s with heap := h', toks := tk' }) :
    wpAny (model PySem.Challenge.rw_sr0010_01.row.prog w) (callerA.deeper (lawEnv L fa cd)) (execs (lawBody.drop 3) (lawEnv L fa cd)) Q E s := by
  have hX := X
  revert X; k_fill; intro X
  obtain ⟨tl, htl⟩ : ∃ tl, lawBody.drop 4 = tl := ⟨_, rfl⟩
  have e : lawBody.drop 3 = (lawBody.drop 3).take 1 ++ lawBody.drop 4 := by rfl
  rw [e, htl]
  dsimp only [lawBody, lawScope, lawEnv, lawStmt, PySem.Challenge.pw_sr0010_01, List.getLast?, List.getLast, Option.getD, List.drop, List.take, List.append, List.cons_append, List.nil_append]
  w_top off
  repeat' (first
      | (k_unfold; (try dsimp only))
      | (k_end; kc_close)
      | ((with_reducible show LCg.CompSrc _ _ _ _ _ _ _ _ _ _ _ _ _ _); first | with_reducible (k_here; k_dflt (first | (refine LCg.CompSrc.ledger (by rfl) (by k_asm) (by k_asm) (by k_mem) (by first | size_fits | exact Nat.le_of_ble_eq_true rfl) ?_; intro gX9; lcg_lit) | (refine LCg.CompSrc.range (by rfl) (by k_asm) (by k_asm) (by assumption) (by first | decide | rfl) (by first | rfl | decide) (by first | size_fits | exact Nat.le_of_ble_eq_true rfl) ?_; intro gX9; lcg_lit))) | (k_here; k_dflt (first | (refine LCg.CompSrc.ledger (by rfl) (by k_asm) (by k_asm) (by k_mem) (by first | size_fits | exact Nat.le_of_ble_eq_true rfl) ?_; intro gX9; lcg_lit) | (refine LCg.CompSrc.range (by rfl) (by k_asm) (by k_asm) (by assumption) (by first | decide | rfl) (by first | rfl | decide) (by first | size_fits | exact Nat.le_of_ble_eq_true rfl) ?_; intro gX9; lcg_lit))))
      | ((with_reducible show LCg.CompEnd _ _ _ _ _ _ _ _ _ _ _ _ _ _); first | with_reducible (refine LCg.CompEnd.intro (by assumption) (by assumption) _ (fun _ hp => hp) (by first | assumption | (simp only [LCg.Off3, and_true]; assumption)) (by first | exact True.intro | exact src_led (by k_mem)) ?_) | (refine LCg.CompEnd.intro (by assumption) (by assumption) _ (fun _ hp => hp) (by first | assumption | (simp only [LCg.Off3, and_true]; assumption)) (by first | exact True.intro | exact src_led (by k_mem)) ?_))
      | walk1
      | (dsimp only; walk1)
      | (leave1; (try dsimp only))
      | fail "no step")
  · rename News _ _ _ _ => nN
    rename Fr _ _ _ _ => nF
    dsimp only
    rw [← htl]
    exact hc _ _ nF (fun p hp => nN p (.tail _ (.tail _ (.tail _ hp))))
  · exfalso
    rename PermR _ _ _ _ _ _ => hp
    rename ¬ (_ : List Int) = _ => hne
    exact hne (by rw [hp.a, hp.b, hp.c])
end Mine

-- part Seg2
namespace Mine
open PySem PySem.W PyProof.Rows
theorem dis_nil {l : Nat} : ∀ p ∈ ([] : List (Addr × Obj)), p.1 ∉ [l, 73] := fun _ h => nomatch h
theorem dis_cons {l a : Nat} {o : Obj} {r : List (Addr × Obj)} (h : a ≠ l) (h2 : a ≠ 73) (hr : ∀ p ∈ r, p.1 ∉ [l, 73]) : ∀ p ∈ (a, o) :: r, p.1 ∉ [l, 73] := fun p hp q => by
  rcases List.mem_cons.mp hp with rfl | hp
  · rcases List.mem_cons.mp q with q | q
    · exact h q
    · exact h2 (List.mem_singleton.mp q)
  · exact hr p hp q
/-- the far part of a ledger stands below -/
structure FarLt (b : Nat) (far : List (Addr × Obj)) : Prop where
  e : ∀ p ∈ far, @LT.lt Nat _ p.1 b
/-- the order's list -/
structure OrdAt (us : List Value) (d0 d1 d2 : Int) : Prop where
  e : IntsAre us (ordF d0 d1 d2)
theorem seg2 (w : World) (p : Program) (loose : List Str) (mean : ExcName → Option Value) (mg mb : Str → Option Value) (g : Heap) (L fa : Addr) (cd : Value) (s : Shared) (m₁ : Str → Option Value) (E : Value → Shared → Prop) (Q : Flow → Shared → Prop)
    (B : Below callerA g [] g) (X : (hd.heap_39 w.params).In g) (T : Top p loose mean mg mb g) (hC : CodeHd g 77 73)
    (ld : Addr) (oc orr ok od ob ot : Obj) (d0 d1 d2 d3 d4 : Int) (t0 t1 t2 t3 t4 : Tok) (nd : Nat)
    (F' : Fr g L s.heap m₁)
    (N' : News g L s.heap [(73, tabObj #[]), (ld, W.listOf [.int d0 t0, .int d1 t1, .int d2 t2, .int d3 t3, .int d4 t4].toArray nd), (L + 1, oc), (L + 2, orr), (L + 3, ok), (L + 4, od), (L + 5, ob), (L + 6, ot)])
    (l1 : @LT.lt Nat _ 73 L ∧ @LT.lt Nat _ (L + 6) ld) (hoc : oc.data = .cell (some (.ref ld)))
    (hc : ∀ h' tk' lo (us : List Value) n ps, Fr g L h' (fun y => if y = Str.ofString "order" then some (.ref lo) else m₁ y) → News g L h' [(lo, W.listOf us.toArray n), (73, tabObj ps), (ld, W.listOf [.int d0 t0, .int d1 t1, .int d2 t2, .int d3 t3, .int d4 t4].toArray nd), (L + 1, oc), (L + 2, orr), (L + 3, ok), (L + 4, od), (L + 5, ob), (L + 6, ot)] →
      IntsAre us (ordF d0 d1 d2) → @LT.lt Nat _ (L + 6) lo →
      wpAny (model PySem.Challenge.rw_sr0010_01.row.prog w) (callerA.deeper (lawEnv L fa cd)) (execs (lawBody.drop 2) (lawEnv L fa cd)) Q E { s with heap := h', toks := tk' }) :
    wpAny (model PySem.Challenge.rw_sr0010_01.row.prog w) (callerA.deeper (lawEnv L fa cd)) (execs (lawBody.drop 1) (lawEnv L fa cd)) Q E s := by
  have hX := X
  revert X; k_fill; intro X
  obtain ⟨tl, htl⟩ : ∃ tl, lawBody.drop 2 = tl := ⟨_, rfl⟩
  have e : lawBody.drop 1 = (lawBody.drop 1).take 1 ++ lawBody.drop 2 := by rfl
  rw [e, htl]
  dsimp only [lawBody, lawScope, lawEnv, lawStmt, PySem.Challenge.pw_sr0010_01, List.getLast?, List.getLast, Option.getD, List.drop, List.take, List.append, List.cons_append, List.nil_append]
  w_top off
  repeat' (first
      | (k_unfold; (try dsimp only))
      | (k_end; kc_close)
      | (first | with_reducible (k_here; (with_reducible show wpAny _ _ (call (Value.ref 78) [Value.ref _]) _ _ _); (with_reducible rename CodeHd _ 77 73 => hC9); (with_reducible rename News _ _ _ _ => nN9); k_dflt (refine' order_cl _ _ _ _ _ _ _ _ _ _ _ _ _ _ _ ?hdis ?h73 _ _ _ _ _ _ _ _ _ _ _ _ _ _ _ ?kB ?kF ?kK nN9 ?kT ?kk hC9 ?_; (case kB => k_asm); (case kF => k_asm); (case kK => k_asm); (case kT => k_asm); (case kk => rfl); (case h73 => omega); (case hdis => (repeat (first | refine dis_cons (by omega) (by omega) ?_ | exact dis_nil)))); k_dflt (intro b9 us9 xs9 n9 ps9 h9 tk9 F9 N9 I9 e9 lb9 hf9; (have hFar9 := FarLt.mk hf9); (have hOrd9 := OrdAt.mk (e9 ▸ I9)); clear I9 e9 hf9); (try dsimp only); (try k_fold)) | (k_here; (with_reducible show wpAny _ _ (call (Value.ref 78) [Value.ref _]) _ _ _); (with_reducible rename CodeHd _ 77 73 => hC9); (with_reducible rename News _ _ _ _ => nN9); k_dflt (refine' order_cl _ _ _ _ _ _ _ _ _ _ _ _ _ _ _ ?hdis ?h73 _ _ _ _ _ _ _ _ _ _ _ _ _ _ _ ?kB ?kF ?kK nN9 ?kT ?kk hC9 ?_; (case kB => k_asm); (case kF => k_asm); (case kK => k_asm); (case kT => k_asm); (case kk => rfl); (case h73 => omega); (case hdis => (repeat (first | refine dis_cons (by omega) (by omega) ?_ | exact dis_nil)))); k_dflt (intro b9 us9 xs9 n9 ps9 h9 tk9 F9 N9 I9 e9 lb9 hf9; (have hFar9 := FarLt.mk hf9); (have hOrd9 := OrdAt.mk (e9 ▸ I9)); clear I9 e9 hf9); (try dsimp only); (try k_fold)))
      | walk1
      | (dsimp only; walk1)
      | (leave1; (try dsimp only))
      | fail "no step")
  rename FarLt _ _ => hFar
  rename OrdAt _ _ _ _ => hOrd
  rename News _ _ _ _ => nN
  rename Fr _ _ _ _ => nF
  rw [← htl]
  exact hc _ _ _ _ _ _ nF nN hOrd.e (hFar.e _ (.tail _ (.tail _ (.tail _ (.tail _ (.tail _ (.tail _ (.head _))))))))
end Mine

-- part Seg1
namespace Mine
open PySem PySem.W PyProof.Rows
section
variable {prog : Program} {w : World} {A : Around} {E : Value → Shared → Prop} {s : Shared} {h₀ : Heap} {L l : Addr} {m : Str → Option Value} {news : List (Addr × Obj)} {value slice : PySem.Expr} {vs : List Value} {xs : List Int} {Q : Value → Shared → Prop}
theorem pick_tail (vs : List Value) {k : Int} (h0 : 0 ≤ k) : kms_pick vs (some k) none = vs.drop k.toNat := by
  have h : ¬ k < 0 := by omega
  simp only [kms_pick, kms_lo, kms_hi, if_neg h]
  by_cases hk : k.toNat ≤ vs.length
  · rw [Nat.min_eq_left hk]
    exact List.take_of_length_le (by rw [List.length_drop]; exact Nat.le_refl _)
  · have hk' : vs.length ≤ k.toNat := by omega
    rw [Nat.min_eq_right hk', List.drop_eq_nil_of_le hk', List.drop_eq_nil_of_le (Nat.le_refl _), List.take_nil]
theorem sl_tail {k : Int} {t : Tok} {n : Nat} (F : Fr h₀ L s.heap m) (N : News h₀ L s.heap news) (hm : (l, W.listOf vs.toArray n) ∈ news) (hI : IntsAre vs xs) (h0 : 0 ≤ k) (hz : vs.toArray.size ≤ sizeLine)
    (h : ∀ D h' zs, Fr h₀ L h' m → News h₀ L h' ((D, W.listOf (List.toArray zs) 0) :: news) → IntsAre zs (xs.drop k.toNat) → (∀ p ∈ news, p.1 < D) → Q (.ref D) { s with heap := h' })
    (hs : subscripted slice false (.ref l) (.ref s.heap.objs.size) = operate [.ref s.heap.objs.size, .ref l] (getItem (.ref l) (.ref s.heap.objs.size))) (ht : ∀ r, letTemporaryGo value (.ref l) r = pure ()) :
    wpAny (model prog w) A (subscriptTail value slice (.ref l) (.ref s.heap.objs.size)) Q E { s with heap := s.heap.push { cls := .type "slice", data := .fields #[.int k t, .none, .none] } } := by
  refine kmk_slice F N (News.isList N hm) (IsPart.int _ _) IsPart.none (fun D h' F' N' l1 => ?_) hs ht hz
  rw [kms_pick_eq, pick_tail _ h0] at N'
  exact h D h' _ F' N' (hI.drop _) l1
end
theorem seg1 (w : World) (p : Program) (loose : List Str) (mean : ExcName → Option Value) (mg mb : Str → Option Value) (g : Heap) (L fa : Addr) (cd : Value) (s : Shared) (m₁ : Str → Option Value) (E : Value → Shared → Prop) (Q : Flow → Shared → Prop)
    (B : Below callerA g [] g) (X : (hd.heap_39 w.params).In g) (T : Top p loose mean mg mb g)
    (sa : Addr) (ws : List Value) (ns : List Int) (oc orr ok od ob ot oz : Obj)
    (F' : Fr g L s.heap (fun y => if y = Str.ofString "script" then some (.ref sa) else m₁ y)) (hl : g.IsList sa ws.toArray) (hI : IntsAre ws ns) (hlen : ¬ ((63 : Nat) : Int) < (ns.length : Int))
    (N' : News g L s.heap [(L + 6, ot), (L + 5, ob), (L + 4, od), (L + 3, ok), (L + 2, orr), (L + 1, oc), (73, oz)])
    (l1 : @LT.lt Nat _ 73 L) (hoc : oc.data = .cell none)
    (hc : ∀ h' tk' ld (us : List Value) n oc' m₂, Fr g L h' m₂ → News g L h' [(ld, W.listOf us.toArray n), (L + 6, ot), (L + 5, ob), (L + 4, od), (L + 3, ok), (L + 2, orr), (L + 1, oc'), (73, oz)] →
      IntsAre us (ns.take 5 ++ [41, 7, 23, 6, 0].drop (((ns.take 5).length : Nat) : Int).toNat) → @LT.lt Nat _ (L + 6) ld → oc'.data = .cell (some (.ref ld)) →
      wpAny (model PySem.Challenge.rw_sr0010_01.row.prog w) (callerA.deeper (lawEnv L fa cd)) (execs (lawBody.drop 1) (lawEnv L fa cd)) Q E { s with heap := h', toks := tk' }) :
    wpAny (model PySem.Challenge.rw_sr0010_01.row.prog w) (callerA.deeper (lawEnv L fa cd)) (execs (lawBody.drop 0) (lawEnv L fa cd)) Q E s := by
  have hX := X
  revert X; k_fill; intro X
  obtain ⟨tl, htl⟩ : ∃ tl, lawBody.drop 1 = tl := ⟨_, rfl⟩
  have e : lawBody.drop 0 = (lawBody.drop 0).take 1 ++ lawBody.drop 1 := by rfl
  rw [e, htl]
  dsimp only [lawBody, lawScope, lawEnv, lawStmt, PySem.Challenge.pw_sr0010_01, List.getLast?, List.getLast, Option.getD, List.drop, List.take, List.append, List.cons_append, List.nil_append]
  w_top off
  repeat' (first
      | (k_unfold; (try dsimp only))
      | (k_end; kc_close)
      | (first | with_reducible (k_here; (with_reducible show wpAny _ _ (subscriptTail _ (PySem.Expr.Slice (some _) none none _) (Value.ref _) (Value.ref _)) _ _ _); k_dflt ((with_reducible rename News _ _ _ _ => nN9); (with_reducible rename Fr _ _ _ _ => nF9); refine' sl_tail nF9 nN9 ?m ?i ?k ?z ?_ ?s ?t; (case m => k_mem); (case i => exact .cons _ _ (.cons _ _ (.cons _ _ (.cons _ _ (.cons _ _ .nil))))); (case k => exact Int.ofNat_nonneg _); (case z => exact Nat.le_of_ble_eq_true rfl); (case s => with_unfolding_all rfl); (case t => intro _; with_unfolding_all rfl); intro D9 h9 zs9 F9 N9 I9 l9); (try k_lt l9); (try dsimp only); (try k_fold)) | (k_here; (with_reducible show wpAny _ _ (subscriptTail _ (PySem.Expr.Slice (some _) none none _) (Value.ref _) (Value.ref _)) _ _ _); k_dflt ((with_reducible rename News _ _ _ _ => nN9); (with_reducible rename Fr _ _ _ _ => nF9); refine' sl_tail nF9 nN9 ?m ?i ?k ?z ?_ ?s ?t; (case m => k_mem); (case i => exact .cons _ _ (.cons _ _ (.cons _ _ (.cons _ _ (.cons _ _ .nil))))); (case k => exact Int.ofNat_nonneg _); (case z => exact Nat.le_of_ble_eq_true rfl); (case s => with_unfolding_all rfl); (case t => intro _; with_unfolding_all rfl); intro D9 h9 zs9 F9 N9 I9 l9); (try k_lt l9); (try dsimp only); (try k_fold)))
      | walk1
      | (dsimp only; walk1)
      | (leave1; (try dsimp only))
      | fail "no step")
  rename News _ _ _ _ => nN
  rename Fr _ _ _ _ => nF
  rename (@LT.lt Nat _ _ _) ∧ _ => lD
  rename Obj.data _ = Data.cell (some (Value.ref _)) => dD
  rename IntsAre _ (_ ++ _) => hU
  rw [← htl]
  exact hc _ _ _ _ _ _ _ nF (cb_drop nN (fun p hp => by
    rcases List.mem_cons.mp hp with rfl | hp
    · exact .head _
    · exact .tail _ (.tail _ (.tail _ (.tail _ (.tail _ hp)))))) hU lD.2.2.2.2.1 dD
end Mine

-- part Plain2
namespace Mine
open PySem PySem.W PyProof.Rows
theorem let_it {ns : List Int} (h : ns ∈ bits 8) {k : Int} (h0 : 0 ≤ k) (h1 : k < 8) : Txt.item (letT ns) k = (if ns.getD k.toNat 0 = 0 then Str.ofString "a" else Str.ofString "A") := by
  obtain ⟨hl, hb⟩ := of_bits 8 ns h
  rw [let_at hb h0 (by omega), sgn_str]
/-- the count of unlike neighbours, by the numbers -/
def costI (ns : List Int) (sh : Int) : Int := ((rangeKs 0 (8 - sh).toNat).map (fun k => if (ns.getD k.toNat 0 = 0 ↔ ns.getD (k + sh).toNat 0 = 0) then (0 : Int) else 1)).sum
theorem mem_rangeKs {a : Int} {n : Nat} {k : Int} (h : k ∈ rangeKs a n) : a ≤ k ∧ k < a + (n : Int) := by
  obtain ⟨i, hi, rfl⟩ := List.mem_map.mp h
  have := List.mem_range.mp hi
  omega
theorem costOf_eq {ns : List Int} (h : ns ∈ bits 8) {sh : Int} (h1 : 1 ≤ sh) (h2 : sh < 1 + ((7 : Nat) : Int)) : costOf ns sh = costI ns sh := by
  unfold costOf costI
  refine congrArg List.sum (List.map_congr_left fun k hk => ?_)
  have hb := mem_rangeKs hk
  rw [let_it h (by omega) (by omega), let_it h (k := k + sh) (by omega) (by omega)]
  unfold unl
  by_cases a : ns.getD k.toNat 0 = 0 <;> by_cases b : ns.getD (k + sh).toNat 0 = 0
  · rw [if_pos a, if_pos b, if_pos rfl, if_pos ⟨fun _ => b, fun _ => a⟩]
  · rw [if_pos a, if_neg b, if_neg (by decide), if_neg fun q => b (q.mp a)]
  · rw [if_neg a, if_pos b, if_neg (by decide), if_neg fun q => a (q.mpr b)]
  · rw [if_neg a, if_neg b, if_pos rfl, if_pos ⟨fun q => absurd q a, fun q => absurd q b⟩]
theorem costs_eq {ns : List Int} (h : ns ∈ bits 8) : (rangeKs 1 7).map (costOf ns) = (rangeKs 1 7).map (costI ns) :=
  List.map_congr_left fun k hk => costOf_eq h (mem_rangeKs hk).1 (mem_rangeKs hk).2
theorem map_bits {f : Int → Int} (hf : ∀ k, 0 ≤ f k ∧ f k ≤ 1) : (rangeKs 0 8).map f ∈ bits 8 := by
  refine mem_bits 8 _ (by simp [rangeKs_length]) fun r hr => ?_
  obtain ⟨k, _, rfl⟩ := List.mem_map.mp hr
  exact hf k
theorem turn_bits (ns : List Int) (p : Int) : turnF ns p ∈ bits 8 := map_bits fun _ => ⟨fmod_lo _ (by decide), Int.lt_add_one_iff.mp (fmod_hi _ (by decide))⟩
theorem row_bits (o0 o1 o2 p0 p1 p2 p3 q0 q1 q2 q3 : Int) : (rangeKs 0 8).map (rowF o0 o1 o2 p0 p1 p2 p3 q0 q1 q2 q3) ∈ bits 8 := map_bits fun _ => ⟨fmod_lo _ (by decide), Int.lt_add_one_iff.mp (fmod_hi _ (by decide))⟩
/-- the products in a row of eight: of the digits 0 and 1, 1 and 2, 0 and 2, of all three -/
def anf : List Int → List Int
  | [a, b, c, d, e, f, g, h] => [(a + b + c + d) % 2, (a + c + e + g) % 2, (a + b + e + f) % 2, (a + b + c + d + e + f + g + h) % 2]
  | _ => []
/-- just two of the three products of two, not all three, and the place in one of them alone -/
def golT : List Int → Int → Bool
  | [x01, x12, x02, x], i => x == 0 && (x01 + x12 + x02 == 2 && (if i = 0 then x01 + x02 else if i = 1 then x01 + x12 else x12 + x02) == 1)
  | _, _ => false
abbrev sums (us vs : List Int) : List Int := (rangeKs 0 ((7 : Int) - 0).toNat).map (fun k' => us.getD k'.toNat 0 + vs.getD k'.toNat 0)
abbrev uN (x y : Int) : Int := if (x = 0 ↔ y = 0) then (0 : Int) else 1
theorem bit_mem {x : Int} (h : 0 ≤ x ∧ x ≤ 1) : x ∈ [(0 : Int), 1] := by
  rcases (by omega : x = 0 ∨ x = 1) with rfl | rfl
  · exact .head _
  · exact .tail _ (.head _)
theorem tn00 {x : Int} (h : x ∈ [(0 : Int), 1]) : (x + (0 : Int).fdiv (2 ^ (0 : Int).toNat)).fmod 2 = x := by
  rcases List.mem_cons.mp h with rfl | h
  · decide
  · rw [List.mem_singleton.mp h]; decide
theorem tn01 {x : Int} (h : x ∈ [(0 : Int), 1]) : (x + (1 : Int).fdiv (2 ^ (0 : Int).toNat)).fmod 2 = 1 - x := by
  rcases List.mem_cons.mp h with rfl | h
  · decide
  · rw [List.mem_singleton.mp h]; decide
theorem tn02 {x : Int} (h : x ∈ [(0 : Int), 1]) : (x + (2 : Int).fdiv (2 ^ (0 : Int).toNat)).fmod 2 = x := by
  rcases List.mem_cons.mp h with rfl | h
  · decide
  · rw [List.mem_singleton.mp h]; decide
theorem tn03 {x : Int} (h : x ∈ [(0 : Int), 1]) : (x + (3 : Int).fdiv (2 ^ (0 : Int).toNat)).fmod 2 = 1 - x := by
  rcases List.mem_cons.mp h with rfl | h
  · decide
  · rw [List.mem_singleton.mp h]; decide
theorem tn04 {x : Int} (h : x ∈ [(0 : Int), 1]) : (x + (4 : Int).fdiv (2 ^ (0 : Int).toNat)).fmod 2 = x := by
  rcases List.mem_cons.mp h with rfl | h
  · decide
  · rw [List.mem_singleton.mp h]; decide
theorem tn05 {x : Int} (h : x ∈ [(0 : Int), 1]) : (x + (5 : Int).fdiv (2 ^ (0 : Int).toNat)).fmod 2 = 1 - x := by
  rcases List.mem_cons.mp h with rfl | h
  · decide
  · rw [List.mem_singleton.mp h]; decide
theorem tn06 {x : Int} (h : x ∈ [(0 : Int), 1]) : (x + (6 : Int).fdiv (2 ^ (0 : Int).toNat)).fmod 2 = x := by
  rcases List.mem_cons.mp h with rfl | h
  · decide
  · rw [List.mem_singleton.mp h]; decide
theorem tn07 {x : Int} (h : x ∈ [(0 : Int), 1]) : (x + (7 : Int).fdiv (2 ^ (0 : Int).toNat)).fmod 2 = 1 - x := by
  rcases List.mem_cons.mp h with rfl | h
  · decide
  · rw [List.mem_singleton.mp h]; decide
theorem tn10 {x : Int} (h : x ∈ [(0 : Int), 1]) : (x + (0 : Int).fdiv (2 ^ (1 : Int).toNat)).fmod 2 = x := by
  rcases List.mem_cons.mp h with rfl | h
  · decide
  · rw [List.mem_singleton.mp h]; decide
theorem tn11 {x : Int} (h : x ∈ [(0 : Int), 1]) : (x + (1 : Int).fdiv (2 ^ (1 : Int).toNat)).fmod 2 = x := by
  rcases List.mem_cons.mp h with rfl | h
  · decide
  · rw [List.mem_singleton.mp h]; decide
theorem tn12 {x : Int} (h : x ∈ [(0 : Int), 1]) : (x + (2 : Int).fdiv (2 ^ (1 : Int).toNat)).fmod 2 = 1 - x := by
  rcases List.mem_cons.mp h with rfl | h
  · decide
  · rw [List.mem_singleton.mp h]; decide
theorem tn13 {x : Int} (h : x ∈ [(0 : Int), 1]) : (x + (3 : Int).fdiv (2 ^ (1 : Int).toNat)).fmod 2 = 1 - x := by
  rcases List.mem_cons.mp h with rfl | h
  · decide
  · rw [List.mem_singleton.mp h]; decide
theorem tn14 {x : Int} (h : x ∈ [(0 : Int), 1]) : (x + (4 : Int).fdiv (2 ^ (1 : Int).toNat)).fmod 2 = x := by
  rcases List.mem_cons.mp h with rfl | h
  · decide
  · rw [List.mem_singleton.mp h]; decide
theorem tn15 {x : Int} (h : x ∈ [(0 : Int), 1]) : (x + (5 : Int).fdiv (2 ^ (1 : Int).toNat)).fmod 2 = x := by
  rcases List.mem_cons.mp h with rfl | h
  · decide
  · rw [List.mem_singleton.mp h]; decide
theorem tn16 {x : Int} (h : x ∈ [(0 : Int), 1]) : (x + (6 : Int).fdiv (2 ^ (1 : Int).toNat)).fmod 2 = 1 - x := by
  rcases List.mem_cons.mp h with rfl | h
  · decide
  · rw [List.mem_singleton.mp h]; decide
theorem tn17 {x : Int} (h : x ∈ [(0 : Int), 1]) : (x + (7 : Int).fdiv (2 ^ (1 : Int).toNat)).fmod 2 = 1 - x := by
  rcases List.mem_cons.mp h with rfl | h
  · decide
  · rw [List.mem_singleton.mp h]; decide
theorem tn20 {x : Int} (h : x ∈ [(0 : Int), 1]) : (x + (0 : Int).fdiv (2 ^ (2 : Int).toNat)).fmod 2 = x := by
  rcases List.mem_cons.mp h with rfl | h
  · decide
  · rw [List.mem_singleton.mp h]; decide
theorem tn21 {x : Int} (h : x ∈ [(0 : Int), 1]) : (x + (1 : Int).fdiv (2 ^ (2 : Int).toNat)).fmod 2 = x := by
  rcases List.mem_cons.mp h with rfl | h
  · decide
  · rw [List.mem_singleton.mp h]; decide
theorem tn22 {x : Int} (h : x ∈ [(0 : Int), 1]) : (x + (2 : Int).fdiv (2 ^ (2 : Int).toNat)).fmod 2 = x := by
  rcases List.mem_cons.mp h with rfl | h
  · decide
  · rw [List.mem_singleton.mp h]; decide
theorem tn23 {x : Int} (h : x ∈ [(0 : Int), 1]) : (x + (3 : Int).fdiv (2 ^ (2 : Int).toNat)).fmod 2 = x := by
  rcases List.mem_cons.mp h with rfl | h
  · decide
  · rw [List.mem_singleton.mp h]; decide
theorem tn24 {x : Int} (h : x ∈ [(0 : Int), 1]) : (x + (4 : Int).fdiv (2 ^ (2 : Int).toNat)).fmod 2 = 1 - x := by
  rcases List.mem_cons.mp h with rfl | h
  · decide
  · rw [List.mem_singleton.mp h]; decide
theorem tn25 {x : Int} (h : x ∈ [(0 : Int), 1]) : (x + (5 : Int).fdiv (2 ^ (2 : Int).toNat)).fmod 2 = 1 - x := by
  rcases List.mem_cons.mp h with rfl | h
  · decide
  · rw [List.mem_singleton.mp h]; decide
theorem tn26 {x : Int} (h : x ∈ [(0 : Int), 1]) : (x + (6 : Int).fdiv (2 ^ (2 : Int).toNat)).fmod 2 = 1 - x := by
  rcases List.mem_cons.mp h with rfl | h
  · decide
  · rw [List.mem_singleton.mp h]; decide
theorem tn27 {x : Int} (h : x ∈ [(0 : Int), 1]) : (x + (7 : Int).fdiv (2 ^ (2 : Int).toNat)).fmod 2 = 1 - x := by
  rcases List.mem_cons.mp h with rfl | h
  · decide
  · rw [List.mem_singleton.mp h]; decide
theorem costs8 (a b c d e f g h : Int) : (rangeKs 1 7).map (costI [a, b, c, d, e, f, g, h]) = [uN a b + (uN b c + (uN c d + (uN d e + (uN e f + (uN f g + (uN g h + 0)))))), uN a c + (uN b d + (uN c e + (uN d f + (uN e g + (uN f h + 0))))), uN a d + (uN b e + (uN c f + (uN d g + (uN e h + 0)))), uN a e + (uN b f + (uN c g + (uN d h + 0))), uN a f + (uN b g + (uN c h + 0)), uN a g + (uN b h + 0), uN a h + 0] := rfl
theorem gol0 : ∀ a ∈ [(0 : Int), 1], ∀ b ∈ [(0 : Int), 1], ∀ c ∈ [(0 : Int), 1], ∀ d ∈ [(0 : Int), 1], ∀ e ∈ [(0 : Int), 1], ∀ f ∈ [(0 : Int), 1], ∀ g ∈ [(0 : Int), 1], ∀ h ∈ [(0 : Int), 1], decide ([uN a b + (uN b c + (uN c d + (uN d e + (uN e f + (uN f g + (uN g h + 0)))))) + (uN a (1 - b) + (uN (1 - b) c + (uN c (1 - d) + (uN (1 - d) e + (uN e (1 - f) + (uN (1 - f) g + (uN g (1 - h) + 0))))))), uN a c + (uN b d + (uN c e + (uN d f + (uN e g + (uN f h + 0))))) + (uN a c + (uN (1 - b) (1 - d) + (uN c e + (uN (1 - d) (1 - f) + (uN e g + (uN (1 - f) (1 - h) + 0)))))), uN a d + (uN b e + (uN c f + (uN d g + (uN e h + 0)))) + (uN a (1 - d) + (uN (1 - b) e + (uN c (1 - f) + (uN (1 - d) g + (uN e (1 - h) + 0))))), uN a e + (uN b f + (uN c g + (uN d h + 0))) + (uN a e + (uN (1 - b) (1 - f) + (uN c g + (uN (1 - d) (1 - h) + 0)))), uN a f + (uN b g + (uN c h + 0)) + (uN a (1 - f) + (uN (1 - b) g + (uN c (1 - h) + 0))), uN a g + (uN b h + 0) + (uN a g + (uN (1 - b) (1 - h) + 0)), uN a h + 0 + (uN a (1 - h) + 0)] = [7, 6, 5, 4, 3, 2, 1]) = golT (anf [a, b, c, d, e, f, g, h]) 0 := by decide +kernel
theorem turnE0 {a b c d e f g h : Int} (ha : a ∈ [(0 : Int), 1]) (hb : b ∈ [(0 : Int), 1]) (hc : c ∈ [(0 : Int), 1]) (hd : d ∈ [(0 : Int), 1]) (he : e ∈ [(0 : Int), 1]) (hf : f ∈ [(0 : Int), 1]) (hg : g ∈ [(0 : Int), 1]) (hh : h ∈ [(0 : Int), 1]) : turnF [a, b, c, d, e, f, g, h] 0 = [a, 1 - b, c, 1 - d, e, 1 - f, g, 1 - h] := by
  show [(a + (0 : Int).fdiv (2 ^ (0 : Int).toNat)).fmod 2, (b + (1 : Int).fdiv (2 ^ (0 : Int).toNat)).fmod 2, (c + (2 : Int).fdiv (2 ^ (0 : Int).toNat)).fmod 2, (d + (3 : Int).fdiv (2 ^ (0 : Int).toNat)).fmod 2, (e + (4 : Int).fdiv (2 ^ (0 : Int).toNat)).fmod 2, (f + (5 : Int).fdiv (2 ^ (0 : Int).toNat)).fmod 2, (g + (6 : Int).fdiv (2 ^ (0 : Int).toNat)).fmod 2, (h + (7 : Int).fdiv (2 ^ (0 : Int).toNat)).fmod 2] = _
  rw [tn00 ha, tn01 hb, tn02 hc, tn03 hd, tn04 he, tn05 hf, tn06 hg, tn07 hh]
theorem gol1 : ∀ a ∈ [(0 : Int), 1], ∀ b ∈ [(0 : Int), 1], ∀ c ∈ [(0 : Int), 1], ∀ d ∈ [(0 : Int), 1], ∀ e ∈ [(0 : Int), 1], ∀ f ∈ [(0 : Int), 1], ∀ g ∈ [(0 : Int), 1], ∀ h ∈ [(0 : Int), 1], decide ([uN a b + (uN b c + (uN c d + (uN d e + (uN e f + (uN f g + (uN g h + 0)))))) + (uN a b + (uN b (1 - c) + (uN (1 - c) (1 - d) + (uN (1 - d) e + (uN e f + (uN f (1 - g) + (uN (1 - g) (1 - h) + 0))))))), uN a c + (uN b d + (uN c e + (uN d f + (uN e g + (uN f h + 0))))) + (uN a (1 - c) + (uN b (1 - d) + (uN (1 - c) e + (uN (1 - d) f + (uN e (1 - g) + (uN f (1 - h) + 0)))))), uN a d + (uN b e + (uN c f + (uN d g + (uN e h + 0)))) + (uN a (1 - d) + (uN b e + (uN (1 - c) f + (uN (1 - d) (1 - g) + (uN e (1 - h) + 0))))), uN a e + (uN b f + (uN c g + (uN d h + 0))) + (uN a e + (uN b f + (uN (1 - c) (1 - g) + (uN (1 - d) (1 - h) + 0)))), uN a f + (uN b g + (uN c h + 0)) + (uN a f + (uN b (1 - g) + (uN (1 - c) (1 - h) + 0))), uN a g + (uN b h + 0) + (uN a (1 - g) + (uN b (1 - h) + 0)), uN a h + 0 + (uN a (1 - h) + 0)] = [7, 6, 5, 4, 3, 2, 1]) = golT (anf [a, b, c, d, e, f, g, h]) 1 := by decide +kernel
theorem turnE1 {a b c d e f g h : Int} (ha : a ∈ [(0 : Int), 1]) (hb : b ∈ [(0 : Int), 1]) (hc : c ∈ [(0 : Int), 1]) (hd : d ∈ [(0 : Int), 1]) (he : e ∈ [(0 : Int), 1]) (hf : f ∈ [(0 : Int), 1]) (hg : g ∈ [(0 : Int), 1]) (hh : h ∈ [(0 : Int), 1]) : turnF [a, b, c, d, e, f, g, h] 1 = [a, b, 1 - c, 1 - d, e, f, 1 - g, 1 - h] := by
  show [(a + (0 : Int).fdiv (2 ^ (1 : Int).toNat)).fmod 2, (b + (1 : Int).fdiv (2 ^ (1 : Int).toNat)).fmod 2, (c + (2 : Int).fdiv (2 ^ (1 : Int).toNat)).fmod 2, (d + (3 : Int).fdiv (2 ^ (1 : Int).toNat)).fmod 2, (e + (4 : Int).fdiv (2 ^ (1 : Int).toNat)).fmod 2, (f + (5 : Int).fdiv (2 ^ (1 : Int).toNat)).fmod 2, (g + (6 : Int).fdiv (2 ^ (1 : Int).toNat)).fmod 2, (h + (7 : Int).fdiv (2 ^ (1 : Int).toNat)).fmod 2] = _
  rw [tn10 ha, tn11 hb, tn12 hc, tn13 hd, tn14 he, tn15 hf, tn16 hg, tn17 hh]
theorem gol2 : ∀ a ∈ [(0 : Int), 1], ∀ b ∈ [(0 : Int), 1], ∀ c ∈ [(0 : Int), 1], ∀ d ∈ [(0 : Int), 1], ∀ e ∈ [(0 : Int), 1], ∀ f ∈ [(0 : Int), 1], ∀ g ∈ [(0 : Int), 1], ∀ h ∈ [(0 : Int), 1], decide ([uN a b + (uN b c + (uN c d + (uN d e + (uN e f + (uN f g + (uN g h + 0)))))) + (uN a b + (uN b c + (uN c d + (uN d (1 - e) + (uN (1 - e) (1 - f) + (uN (1 - f) (1 - g) + (uN (1 - g) (1 - h) + 0))))))), uN a c + (uN b d + (uN c e + (uN d f + (uN e g + (uN f h + 0))))) + (uN a c + (uN b d + (uN c (1 - e) + (uN d (1 - f) + (uN (1 - e) (1 - g) + (uN (1 - f) (1 - h) + 0)))))), uN a d + (uN b e + (uN c f + (uN d g + (uN e h + 0)))) + (uN a d + (uN b (1 - e) + (uN c (1 - f) + (uN d (1 - g) + (uN (1 - e) (1 - h) + 0))))), uN a e + (uN b f + (uN c g + (uN d h + 0))) + (uN a (1 - e) + (uN b (1 - f) + (uN c (1 - g) + (uN d (1 - h) + 0)))), uN a f + (uN b g + (uN c h + 0)) + (uN a (1 - f) + (uN b (1 - g) + (uN c (1 - h) + 0))), uN a g + (uN b h + 0) + (uN a (1 - g) + (uN b (1 - h) + 0)), uN a h + 0 + (uN a (1 - h) + 0)] = [7, 6, 5, 4, 3, 2, 1]) = golT (anf [a, b, c, d, e, f, g, h]) 2 := by decide +kernel
theorem turnE2 {a b c d e f g h : Int} (ha : a ∈ [(0 : Int), 1]) (hb : b ∈ [(0 : Int), 1]) (hc : c ∈ [(0 : Int), 1]) (hd : d ∈ [(0 : Int), 1]) (he : e ∈ [(0 : Int), 1]) (hf : f ∈ [(0 : Int), 1]) (hg : g ∈ [(0 : Int), 1]) (hh : h ∈ [(0 : Int), 1]) : turnF [a, b, c, d, e, f, g, h] 2 = [a, b, c, d, 1 - e, 1 - f, 1 - g, 1 - h] := by
  show [(a + (0 : Int).fdiv (2 ^ (2 : Int).toNat)).fmod 2, (b + (1 : Int).fdiv (2 ^ (2 : Int).toNat)).fmod 2, (c + (2 : Int).fdiv (2 ^ (2 : Int).toNat)).fmod 2, (d + (3 : Int).fdiv (2 ^ (2 : Int).toNat)).fmod 2, (e + (4 : Int).fdiv (2 ^ (2 : Int).toNat)).fmod 2, (f + (5 : Int).fdiv (2 ^ (2 : Int).toNat)).fmod 2, (g + (6 : Int).fdiv (2 ^ (2 : Int).toNat)).fmod 2, (h + (7 : Int).fdiv (2 ^ (2 : Int).toNat)).fmod 2] = _
  rw [tn20 ha, tn21 hb, tn22 hc, tn23 hd, tn24 he, tn25 hf, tn26 hg, tn27 hh]
end Mine

-- part Plain3
namespace Mine
open PySem PySem.W PyProof.Rows
abbrev rowL (o0 o1 o2 p0 p1 p2 p3 q0 q1 q2 q3 : Int) : List Int := (rangeKs 0 8).map (rowF o0 o1 o2 p0 p1 p2 p3 q0 q1 q2 q3)
theorem anf012 : ∀ p0 ∈ [(0 : Int), 1], ∀ p1 ∈ [(0 : Int), 1], ∀ p2 ∈ [(0 : Int), 1], ∀ p3 ∈ [(0 : Int), 1], ∀ q0 ∈ [(0 : Int), 1], ∀ q1 ∈ [(0 : Int), 1], ∀ q2 ∈ [(0 : Int), 1], ∀ q3 ∈ [(0 : Int), 1], anf (rowL 0 1 2 p0 p1 p2 p3 q0 q1 q2 q3) = [q0, q1, q2, q3] := by decide +kernel
theorem anf102 : ∀ p0 ∈ [(0 : Int), 1], ∀ p1 ∈ [(0 : Int), 1], ∀ p2 ∈ [(0 : Int), 1], ∀ p3 ∈ [(0 : Int), 1], ∀ q0 ∈ [(0 : Int), 1], ∀ q1 ∈ [(0 : Int), 1], ∀ q2 ∈ [(0 : Int), 1], ∀ q3 ∈ [(0 : Int), 1], anf (rowL 1 0 2 p0 p1 p2 p3 q0 q1 q2 q3) = [q0, q2, q1, q3] := by decide +kernel
theorem anf021 : ∀ p0 ∈ [(0 : Int), 1], ∀ p1 ∈ [(0 : Int), 1], ∀ p2 ∈ [(0 : Int), 1], ∀ p3 ∈ [(0 : Int), 1], ∀ q0 ∈ [(0 : Int), 1], ∀ q1 ∈ [(0 : Int), 1], ∀ q2 ∈ [(0 : Int), 1], ∀ q3 ∈ [(0 : Int), 1], anf (rowL 0 2 1 p0 p1 p2 p3 q0 q1 q2 q3) = [q2, q1, q0, q3] := by decide +kernel
theorem anf201 : ∀ p0 ∈ [(0 : Int), 1], ∀ p1 ∈ [(0 : Int), 1], ∀ p2 ∈ [(0 : Int), 1], ∀ p3 ∈ [(0 : Int), 1], ∀ q0 ∈ [(0 : Int), 1], ∀ q1 ∈ [(0 : Int), 1], ∀ q2 ∈ [(0 : Int), 1], ∀ q3 ∈ [(0 : Int), 1], anf (rowL 2 0 1 p0 p1 p2 p3 q0 q1 q2 q3) = [q1, q2, q0, q3] := by decide +kernel
theorem anf120 : ∀ p0 ∈ [(0 : Int), 1], ∀ p1 ∈ [(0 : Int), 1], ∀ p2 ∈ [(0 : Int), 1], ∀ p3 ∈ [(0 : Int), 1], ∀ q0 ∈ [(0 : Int), 1], ∀ q1 ∈ [(0 : Int), 1], ∀ q2 ∈ [(0 : Int), 1], ∀ q3 ∈ [(0 : Int), 1], anf (rowL 1 2 0 p0 p1 p2 p3 q0 q1 q2 q3) = [q2, q0, q1, q3] := by decide +kernel
theorem anf210 : ∀ p0 ∈ [(0 : Int), 1], ∀ p1 ∈ [(0 : Int), 1], ∀ p2 ∈ [(0 : Int), 1], ∀ p3 ∈ [(0 : Int), 1], ∀ q0 ∈ [(0 : Int), 1], ∀ q1 ∈ [(0 : Int), 1], ∀ q2 ∈ [(0 : Int), 1], ∀ q3 ∈ [(0 : Int), 1], anf (rowL 2 1 0 p0 p1 p2 p3 q0 q1 q2 q3) = [q1, q0, q2, q3] := by decide +kernel
/-- what the law asks at a place that stands at j in the order -/
abbrev askT (q0 q1 q2 q3 : Int) (j : Nat) : Bool := [q0, q1, q2, q3].getD (Int.toNat 3) 0 == 0 && ((q0 + q2) + ((q0 + q1) + ((q1 + q2) + 0)) == 4 && [q0 + q2, q0 + q1, q1 + q2].getD j 0 == 1)
/-- where the place i stands, and the products by the natural digits -/
def posN : Int → Int → Int → Int → Nat := fun o0 o1 _ i => if i = o0 then 0 else if i = o1 then 1 else 2
theorem ask012 : ∀ q0 ∈ [(0 : Int), 1], ∀ q1 ∈ [(0 : Int), 1], ∀ q2 ∈ [(0 : Int), 1], ∀ q3 ∈ [(0 : Int), 1], ∀ i ∈ [(0 : Int), 1, 2], golT [q0, q1, q2, q3] i = askT q0 q1 q2 q3 (posN 0 1 2 i) := by decide +kernel
theorem ask102 : ∀ q0 ∈ [(0 : Int), 1], ∀ q1 ∈ [(0 : Int), 1], ∀ q2 ∈ [(0 : Int), 1], ∀ q3 ∈ [(0 : Int), 1], ∀ i ∈ [(0 : Int), 1, 2], golT [q0, q2, q1, q3] i = askT q0 q1 q2 q3 (posN 1 0 2 i) := by decide +kernel
theorem ask021 : ∀ q0 ∈ [(0 : Int), 1], ∀ q1 ∈ [(0 : Int), 1], ∀ q2 ∈ [(0 : Int), 1], ∀ q3 ∈ [(0 : Int), 1], ∀ i ∈ [(0 : Int), 1, 2], golT [q2, q1, q0, q3] i = askT q0 q1 q2 q3 (posN 0 2 1 i) := by decide +kernel
theorem ask201 : ∀ q0 ∈ [(0 : Int), 1], ∀ q1 ∈ [(0 : Int), 1], ∀ q2 ∈ [(0 : Int), 1], ∀ q3 ∈ [(0 : Int), 1], ∀ i ∈ [(0 : Int), 1, 2], golT [q1, q2, q0, q3] i = askT q0 q1 q2 q3 (posN 2 0 1 i) := by decide +kernel
theorem ask120 : ∀ q0 ∈ [(0 : Int), 1], ∀ q1 ∈ [(0 : Int), 1], ∀ q2 ∈ [(0 : Int), 1], ∀ q3 ∈ [(0 : Int), 1], ∀ i ∈ [(0 : Int), 1, 2], golT [q2, q0, q1, q3] i = askT q0 q1 q2 q3 (posN 1 2 0 i) := by decide +kernel
theorem ask210 : ∀ q0 ∈ [(0 : Int), 1], ∀ q1 ∈ [(0 : Int), 1], ∀ q2 ∈ [(0 : Int), 1], ∀ q3 ∈ [(0 : Int), 1], ∀ i ∈ [(0 : Int), 1, 2], golT [q1, q0, q2, q3] i = askT q0 q1 q2 q3 (posN 2 1 0 i) := by decide +kernel
/-- one of the six orders -/
inductive Six : Int → Int → Int → Prop
  | a : Six 0 1 2
  | b : Six 1 0 2
  | c : Six 0 2 1
  | d : Six 2 0 1
  | e : Six 1 2 0
  | f : Six 2 1 0
theorem golA {ns : List Int} (hm : ns ∈ bits 8) {i : Int} (hi : i ∈ [(0 : Int), 1, 2]) : decide (sums ((rangeKs 1 7).map (costOf ns)) ((rangeKs 1 7).map (costOf (turnF ns i))) = [7, 6, 5, 4, 3, 2, 1]) = golT (anf ns) i := by
  rw [costs_eq hm, costs_eq (turn_bits ns i)]
  obtain ⟨hl, hb⟩ := of_bits 8 ns hm
  match ns, hl, hb with
  | [a, b, c, d, e, f, g, h], _, hb =>
    have ha := bit_mem (hb a (.head _))
    have hb1 := bit_mem (hb b (.tail _ (.head _)))
    have hc := bit_mem (hb c (.tail _ (.tail _ (.head _))))
    have hd := bit_mem (hb d (.tail _ (.tail _ (.tail _ (.head _)))))
    have he := bit_mem (hb e (.tail _ (.tail _ (.tail _ (.tail _ (.head _))))))
    have hf := bit_mem (hb f (.tail _ (.tail _ (.tail _ (.tail _ (.tail _ (.head _)))))))
    have hg := bit_mem (hb g (.tail _ (.tail _ (.tail _ (.tail _ (.tail _ (.tail _ (.head _))))))))
    have hh := bit_mem (hb h (.tail _ (.tail _ (.tail _ (.tail _ (.tail _ (.tail _ (.tail _ (.head _)))))))))
    rcases List.mem_cons.mp hi with rfl | hi
    · rw [turnE0 ha hb1 hc hd he hf hg hh, costs8, costs8]
      exact gol0 a ha b hb1 c hc d hd e he f hf g hg h hh
    · rcases List.mem_cons.mp hi with rfl | hi
      · rw [turnE1 ha hb1 hc hd he hf hg hh, costs8, costs8]
        exact gol1 a ha b hb1 c hc d hd e he f hf g hg h hh
      · rcases List.mem_cons.mp hi with rfl | hi
        · rw [turnE2 ha hb1 hc hd he hf hg hh, costs8, costs8]
          exact gol2 a ha b hb1 c hc d hd e he f hf g hg h hh
        · nomatch hi
theorem pi_of {o0 o1 o2 : Int} (h : Six o0 o1 o2) {i : Int} (hi : i ∈ [(0 : Int), 1, 2]) : PI i o0 o1 o2 (posN o0 o1 o2 i) := by
  rcases List.mem_cons.mp hi with rfl | hi
  · cases h <;> exact ⟨fun _ _ _ => rfl, by decide⟩
  · rcases List.mem_cons.mp hi with rfl | hi
    · cases h <;> exact ⟨fun _ _ _ => rfl, by decide⟩
    · rcases List.mem_cons.mp hi with rfl | hi
      · cases h <;> exact ⟨fun _ _ _ => rfl, by decide⟩
      · nomatch hi
theorem law_all {o0 o1 o2 p0 p1 p2 p3 q0 q1 q2 q3 : Int} (h : Six o0 o1 o2) (hp0 : p0 ∈ [(0 : Int), 1]) (hp1 : p1 ∈ [(0 : Int), 1]) (hp2 : p2 ∈ [(0 : Int), 1]) (hp3 : p3 ∈ [(0 : Int), 1])
    (hq0 : q0 ∈ [(0 : Int), 1]) (hq1 : q1 ∈ [(0 : Int), 1]) (hq2 : q2 ∈ [(0 : Int), 1]) (hq3 : q3 ∈ [(0 : Int), 1]) (i : Nat) (hi : i < 3) :
    ∃ j, PI (0 + (i : Int)) o0 o1 o2 j ∧ Law1 (decide ((rangeKs 0 ((7 : Int) - 0).toNat).map (fun k' => ((rangeKs 1 7).map (costOf ((rangeKs 0 8).map (rowF o0 o1 o2 p0 p1 p2 p3 q0 q1 q2 q3)))).getD k'.toNat 0 + ((rangeKs 1 7).map (costOf (turnF ((rangeKs 0 8).map (rowF o0 o1 o2 p0 p1 p2 p3 q0 q1 q2 q3)) (0 + (i : Int))))).getD k'.toNat 0) = [7, 6, 5, 4, 3, 2, 1])) ([q0, q1, q2, q3].getD (Int.toNat 3) 0) ((q0 + q2) + ((q0 + q1) + ((q1 + q2) + 0))) ([q0 + q2, q0 + q1, q1 + q2].getD j 0) := by
  have hi' : (0 + (i : Int)) ∈ [(0 : Int), 1, 2] := by
    rcases (by omega : i = 0 ∨ i = 1 ∨ i = 2) with rfl | rfl | rfl <;> decide
  refine ⟨posN o0 o1 o2 (0 + (i : Int)), pi_of h hi', ⟨?_⟩⟩
  refine (golA (row_bits o0 o1 o2 p0 p1 p2 p3 q0 q1 q2 q3) hi').trans ?_
  generalize 0 + (i : Int) = i' at hi'
  show golT (anf (rowL o0 o1 o2 p0 p1 p2 p3 q0 q1 q2 q3)) i' = askT q0 q1 q2 q3 (posN o0 o1 o2 i')
  cases h
  · rw [anf012 p0 hp0 p1 hp1 p2 hp2 p3 hp3 q0 hq0 q1 hq1 q2 hq2 q3 hq3]; exact ask012 q0 hq0 q1 hq1 q2 hq2 q3 hq3 i' hi'
  · rw [anf102 p0 hp0 p1 hp1 p2 hp2 p3 hp3 q0 hq0 q1 hq1 q2 hq2 q3 hq3]; exact ask102 q0 hq0 q1 hq1 q2 hq2 q3 hq3 i' hi'
  · rw [anf021 p0 hp0 p1 hp1 p2 hp2 p3 hp3 q0 hq0 q1 hq1 q2 hq2 q3 hq3]; exact ask021 q0 hq0 q1 hq1 q2 hq2 q3 hq3 i' hi'
  · rw [anf201 p0 hp0 p1 hp1 p2 hp2 p3 hp3 q0 hq0 q1 hq1 q2 hq2 q3 hq3]; exact ask201 q0 hq0 q1 hq1 q2 hq2 q3 hq3 i' hi'
  · rw [anf120 p0 hp0 p1 hp1 p2 hp2 p3 hp3 q0 hq0 q1 hq1 q2 hq2 q3 hq3]; exact ask120 q0 hq0 q1 hq1 q2 hq2 q3 hq3 i' hi'
  · rw [anf210 p0 hp0 p1 hp1 p2 hp2 p3 hp3 q0 hq0 q1 hq1 q2 hq2 q3 hq3]; exact ask210 q0 hq0 q1 hq1 q2 hq2 q3 hq3 i' hi'
end Mine

-- part Plain4
namespace Mine
open PySem PySem.W PyProof.Rows
abbrev ltN (x0 x1 y0 y1 : Int) : Int := if (x0 < y0 ∨ (x0 = y0 ∧ x1 < y1)) then 1 else 0
theorem cond_lt (x0 x1 y0 y1 : Int) : cond (decide (ltP x0 x1 y0 y1)) (1 : Int) 0 = ltN x0 x1 y0 y1 := by
  by_cases h : ltP x0 x1 y0 y1
  · rw [decide_eq_true h]; exact (if_pos h).symm
  · rw [decide_eq_false h]; exact (if_neg h).symm
theorem rk0 (d0 d1 d2 d3 d4 : Int) : rkF [d0, d1, d2, d3, d4] 0 = ltN d0 0 d0 0 + (ltN d1 1 d0 0 + ltN d2 2 d0 0) := by
  show cond (decide (ltP d0 0 d0 0)) 1 0 + (cond (decide (ltP d1 1 d0 0)) 1 0 + cond (decide (ltP d2 2 d0 0)) 1 0) = _
  rw [cond_lt, cond_lt, cond_lt]
theorem rk1 (d0 d1 d2 d3 d4 : Int) : rkF [d0, d1, d2, d3, d4] 1 = ltN d0 0 d1 1 + (ltN d1 1 d1 1 + ltN d2 2 d1 1) := by
  show cond (decide (ltP d0 0 d1 1)) 1 0 + (cond (decide (ltP d1 1 d1 1)) 1 0 + cond (decide (ltP d2 2 d1 1)) 1 0) = _
  rw [cond_lt, cond_lt, cond_lt]
theorem rk2 (d0 d1 d2 d3 d4 : Int) : rkF [d0, d1, d2, d3, d4] 2 = ltN d0 0 d2 2 + (ltN d1 1 d2 2 + ltN d2 2 d2 2) := by
  show cond (decide (ltP d0 0 d2 2)) 1 0 + (cond (decide (ltP d1 1 d2 2)) 1 0 + cond (decide (ltP d2 2 d2 2)) 1 0) = _
  rw [cond_lt, cond_lt, cond_lt]
local macro_rules | `(tactic| k_mem) => `(tactic| (unfold ltN; (repeat' (first | rw [if_pos (by omega)] | rw [if_neg (by omega)])) <;> first | done | rfl))
theorem ord_six (d0 d1 d2 d3 d4 : Int) : ∃ o0 o1 o2, ordF d0 d1 d2 = [o0, o1, o2] ∧ Six o0 o1 o2 ∧ PermR (rkF [d0, d1, d2, d3, d4] 0) (rkF [d0, d1, d2, d3, d4] 1) (rkF [d0, d1, d2, d3, d4] 2) o0 o1 o2 := by
  rw [rk0, rk1, rk2]
  unfold ordF
  by_cases h1 : d1 < d0
  · by_cases h2 : d2 < d0
    · by_cases h3 : d2 < d1
      · refine ⟨2, 1, 0, by rw [if_pos h1, if_pos h2, if_pos h3], .f, ⟨?_, ?_, ?_⟩⟩
        · show ltN d0 0 d2 2 + (ltN d1 1 d2 2 + ltN d2 2 d2 2) = 0
          k_mem
        · show ltN d0 0 d1 1 + (ltN d1 1 d1 1 + ltN d2 2 d1 1) = 1
          k_mem
        · show ltN d0 0 d0 0 + (ltN d1 1 d0 0 + ltN d2 2 d0 0) = 2
          k_mem
      · refine ⟨1, 2, 0, by rw [if_pos h1, if_pos h2, if_neg h3], .e, ⟨?_, ?_, ?_⟩⟩
        · show ltN d0 0 d1 1 + (ltN d1 1 d1 1 + ltN d2 2 d1 1) = 0
          k_mem
        · show ltN d0 0 d2 2 + (ltN d1 1 d2 2 + ltN d2 2 d2 2) = 1
          k_mem
        · show ltN d0 0 d0 0 + (ltN d1 1 d0 0 + ltN d2 2 d0 0) = 2
          k_mem
    · refine ⟨1, 0, 2, by rw [if_pos h1, if_neg h2], .b, ⟨?_, ?_, ?_⟩⟩
      · show ltN d0 0 d1 1 + (ltN d1 1 d1 1 + ltN d2 2 d1 1) = 0
        k_mem
      · show ltN d0 0 d0 0 + (ltN d1 1 d0 0 + ltN d2 2 d0 0) = 1
        k_mem
      · show ltN d0 0 d2 2 + (ltN d1 1 d2 2 + ltN d2 2 d2 2) = 2
        k_mem
  · by_cases h2 : d2 < d1
    · by_cases h3 : d2 < d0
      · refine ⟨2, 0, 1, by rw [if_neg h1, if_pos h2, if_pos h3], .d, ⟨?_, ?_, ?_⟩⟩
        · show ltN d0 0 d2 2 + (ltN d1 1 d2 2 + ltN d2 2 d2 2) = 0
          k_mem
        · show ltN d0 0 d0 0 + (ltN d1 1 d0 0 + ltN d2 2 d0 0) = 1
          k_mem
        · show ltN d0 0 d1 1 + (ltN d1 1 d1 1 + ltN d2 2 d1 1) = 2
          k_mem
      · refine ⟨0, 2, 1, by rw [if_neg h1, if_pos h2, if_neg h3], .c, ⟨?_, ?_, ?_⟩⟩
        · show ltN d0 0 d0 0 + (ltN d1 1 d0 0 + ltN d2 2 d0 0) = 0
          k_mem
        · show ltN d0 0 d2 2 + (ltN d1 1 d2 2 + ltN d2 2 d2 2) = 1
          k_mem
        · show ltN d0 0 d1 1 + (ltN d1 1 d1 1 + ltN d2 2 d1 1) = 2
          k_mem
    · refine ⟨0, 1, 2, by rw [if_neg h1, if_neg h2], .a, ⟨?_, ?_, ?_⟩⟩
      · show ltN d0 0 d0 0 + (ltN d1 1 d0 0 + ltN d2 2 d0 0) = 0
        k_mem
      · show ltN d0 0 d1 1 + (ltN d1 1 d1 1 + ltN d2 2 d1 1) = 1
        k_mem
      · show ltN d0 0 d2 2 + (ltN d1 1 d2 2 + ltN d2 2 d2 2) = 2
        k_mem
end Mine

-- part LawW
namespace Mine
open PySem PySem.W PyProof.Rows
theorem ints_three {us : List Value} {a b c : Int} (h : IntsAre us [a, b, c]) : ∃ t u v, us = [.int a t, .int b u, .int c v] := by
  cases h with | cons _ t h => cases h with | cons _ u h => cases h with | cons _ v h => cases h; exact ⟨t, u, v, rfl⟩
theorem ints_five {us : List Value} {ns : List Int} (h : IntsAre us ns) (hl : ns.length = 5) : ∃ d0 d1 d2 d3 d4 t0 t1 t2 t3 t4, us = [.int d0 t0, .int d1 t1, .int d2 t2, .int d3 t3, .int d4 t4] := by
  cases h with
  | nil => cases hl
  | cons a t h => cases h with
    | nil => cases hl
    | cons b u h => cases h with
      | nil => cases hl
      | cons c v h => cases h with
        | nil => cases hl
        | cons d x h => cases h with
          | nil => cases hl
          | cons e y h => cases h with
            | nil => exact ⟨a, b, c, d, e, t, u, v, x, y, rfl⟩
            | cons f z h => simp at hl
theorem five_len (ns : List Int) : (ns.take 5 ++ [41, 7, 23, 6, (0 : Int)].drop (((ns.take 5).length : Nat) : Int).toNat).length = 5 := by
  rw [List.length_append, List.length_drop, Int.toNat_natCast, List.length_take]
  show min 5 ns.length + (5 - min 5 ns.length) = 5
  omega
theorem kbit_mem (x e : Int) : kbit x e ∈ [(0 : Int), 1] := by
  have h0 := fmod_lo ((x.fmod 16).fdiv (2 ^ e.toNat)) (n := 2) (by decide)
  have h1 := fmod_hi ((x.fmod 16).fdiv (2 ^ e.toNat)) (n := 2) (by decide)
  rcases (by omega : ((x.fmod 16).fdiv (2 ^ e.toNat)).fmod 2 = 0 ∨ ((x.fmod 16).fdiv (2 ^ e.toNat)).fmod 2 = 1) with h | h
  · show ((x.fmod 16).fdiv (2 ^ e.toNat)).fmod 2 ∈ _
    rw [h]; exact .head _
  · show ((x.fmod 16).fdiv (2 ^ e.toNat)).fmod 2 ∈ _
    rw [h]; exact .tail _ (.head _)
theorem Six.bnd {o0 o1 o2 : Int} (h : Six o0 o1 o2) : (0 ≤ o0 ∧ o0 < 3) ∧ (0 ≤ o1 ∧ o1 < 3) ∧ 0 ≤ o2 ∧ o2 < 3 := by cases h <;> decide
theorem law_walk (w : World) (p : Program) (loose : List Str) (mean : ExcName → Option Value) (mg mb : Str → Option Value) (g : Heap) (L fa : Addr) (cd : Value) (s : Shared) (m₁ : Str → Option Value) (E : Value → Shared → Prop) (Q : Flow → Shared → Prop)
    (B : Below callerA g [] g) (X : (hd.heap_39 w.params).In g) (T : Top p loose mean mg mb g) (hC : CodeHd g 77 73)
    (sa : Addr) (ws : List Value) (ns : List Int) (oc orr ok od ob ot : Obj)
    (F' : Fr g L s.heap (fun y => if y = Str.ofString "script" then some (.ref sa) else m₁ y)) (hl : g.IsList sa ws.toArray) (hI : IntsAre ws ns) (hlen : ¬ ((63 : Nat) : Int) < (ns.length : Int))
    (N' : News g L s.heap [(L + 6, ot), (L + 5, ob), (L + 4, od), (L + 3, ok), (L + 2, orr), (L + 1, oc), (73, tabObj #[])])
    (hE : PassesOwn (model PySem.Challenge.rw_sr0010_01.row.prog w) (callerA.deeper (lawEnv L fa cd)) (lawEnv L fa cd) E)
    (l1 : @LT.lt Nat _ 73 L) (hoc : oc.data = .cell none) (horr : orr.data = .cell none) (hok : ok.data = .cell none) (hod : od.data = .cell none) (hob : ob.data = .cell none) (hot : ot.data = .cell none)
    (hc : ∀ h' tk' m₁ ps, Fr g L h' m₁ → News g L h' [(73, tabObj ps)] → Q (.ret (.bool true)) { s with heap := h', toks := tk' }) :
    wpAny (model PySem.Challenge.rw_sr0010_01.row.prog w) (callerA.deeper (lawEnv L fa cd)) (execs (lawBody.drop 0) (lawEnv L fa cd)) Q E s := by
  refine seg1 w p loose mean mg mb g L fa cd s m₁ E Q B X T sa ws ns oc orr ok od ob ot _ F' hl hI hlen N' l1 hoc ?_
  intro h1 tk1 ld us nd oc' m₂ F1 N1 hU hld hoc'
  obtain ⟨d0, d1, d2, d3, d4, t0, t1, t2, t3, t4, rfl⟩ := ints_five hU (five_len ns)
  clear hU N' F'
  refine seg2 w p loose mean mg mb g L fa cd _ m₂ E Q B X T hC ld oc' orr ok od ob ot d0 d1 d2 d3 d4 t0 t1 t2 t3 t4 nd F1 (cb_drop N1 (by kcj_all)) ⟨l1, hld⟩ hoc' ?_
  intro h2 tk2 lo us2 n2 ps F2 N2 hOrd hlo
  obtain ⟨o0, o1, o2, eo, hsix, hperm⟩ := ord_six d0 d1 d2 d3 d4
  rw [eo] at hOrd
  obtain ⟨u0, u1, u2, rfl⟩ := ints_three hOrd
  clear hOrd N1 F1
  refine seg3b w p loose mean mg mb g L fa cd _ _ E Q B X T lo ld _ oc' orr ok od (tabObj ps) ob ot none d0 d1 d2 d3 d4 t0 t1 t2 t3 t4 nd F2 N2 ⟨l1, hlo, hld⟩ hoc' horr ?_
  intro h3 tk3 lk orr' us3 n3 F3 N3 hR hrr hlk
  obtain ⟨v0, v1, v2, rfl⟩ := ints_three (a := rkF [d0, d1, d2, d3, d4] 0) (b := rkF [d0, d1, d2, d3, d4] 1) (c := rkF [d0, d1, d2, d3, d4] 2) hR
  clear hR N2 F2
  obtain ⟨⟨b0, b0'⟩, ⟨b1, b1'⟩, b2, b2'⟩ := hsix.bnd
  refine seg3c w p loose mean mg mb g L fa cd _ m₂ E Q B X T lk lo ld oc' orr' ok od (tabObj ps) ob ot _ _ _ o0 o1 o2 d0 d1 d2 d3 d4 t0 t1 t2 t3 t4 u0 u1 u2 v0 v1 v2 n2 n3 nd F3 N3 hrr b0 b0' b1 b1' b2 b2' hperm ?_
  intro h4 tk4 F4 N4
  clear N3 F3
  refine seg4a w p loose mean mg mb g L fa cd _ _ E Q B X T lo ld oc' ok od (tabObj ps) ob ot o0 o1 o2 d0 d1 d2 d3 d4 u0 u1 u2 t0 t1 t2 t3 t4 n2 nd F4 (cb_drop N4 (by kcj_all)) ⟨l1, hlo, hld⟩ hoc' ?_
  intro h5 tk5 lp x0 x1 x2 x3 n5 F5 N5 hlp
  refine seg4b w p loose mean mg mb g L fa cd _ _ E Q B X T lo ld lp oc' ok od (tabObj ps) ob ot o0 o1 o2 d0 d1 d2 d3 d4 _ _ _ _ u0 u1 u2 t0 t1 t2 t3 t4 x0 x1 x2 x3 n2 nd n5 F5 N5 ⟨l1, hlo, hld⟩ hoc' ?_
  intro h6 tk6 lt y0 y1 y2 y3 n6 F6 N6 hlt
  refine seg4c w p loose mean mg mb g L fa cd _ _ E Q B X T lo lp lt ok od (tabObj ps) ob ot none none none none o0 o1 o2 _ _ _ _ _ _ _ _ u0 u1 u2 x0 x1 x2 x3 y0 y1 y2 y3 n2 n5 n6 F6 (by rw [if_neg (by decide), if_neg (by decide), if_pos rfl]) (by rw [if_neg (by decide), if_pos rfl]) (by rw [if_pos rfl]) (cb_drop N6 (by kcj_all)) hE ⟨l1, hlo⟩ hlp hlt hok hod ⟨b0, Int.lt_add_one_iff.mp b0', b1, Int.lt_add_one_iff.mp b1', b2, Int.lt_add_one_iff.mp b2'⟩ hot hob
    (law_all hsix (kbit_mem _ _) (kbit_mem _ _) (kbit_mem _ _) (kbit_mem _ _) (kbit_mem _ _) (kbit_mem _ _) (kbit_mem _ _) (kbit_mem _ _)) ?_
  intro h7 tk7 m₃ F7 N7
  exact hc h7 tk7 m₃ ps F7 N7
end Mine

-- part Fin
open PySem PySem.W PyProof.Rows
theorem PySem.Challenge.cw_sr0010_01_holds : PySem.Challenge.rw_sr0010_01.Holds := by
  refine Mine.hd ?_
  w_top off
  k_go0
  rename_i w1 s₀ s₁ mg mb G Y fa o pm cd doc ho hcd hg X V T B TE TW ns hs hlay0 hL1 hr1 hl2 a0 a1 sa ws a2 hL ra w1' r0 hI hr hcond hcond' hD h₁ tk₁ o6 o5 o4 o3 o2 o1 e6 e5 e4 e3 e2 e1 X0 X' T' K' F' N' l0
  replace F' : Fr (ghostOf s₁.heap [(77, 73)]) s₁.heap.objs.size h₁ (fun y => if y = Str.ofString "script" then some (.ref sa) else none) := F'
  replace e1 : o1.data = .cell none := e1
  replace e2 : o2.data = .cell none := e2
  replace e3 : o3.data = .cell none := e3
  replace e4 : o4.data = .cell none := e4
  replace e5 : o5.data = .cell none := e5
  replace e6 : o6.data = .cell none := e6
  have z := fun E hE Q hc => Mine.law_walk w1 _ _ _ _ _ _ _ fa cd { heap := h₁, gens := s₁.gens, drawn := s₁.drawn, toks := tk₁, os := s₁.os } _ E Q K' X' T' codeHd sa ws ns o1 o2 o3 o4 o5 o6 F' lifted hI hcond N' hE l0 e1 e2 e3 e4 e5 e6 hc
  dsimp only [Mine.lawBody, Mine.lawScope, Mine.lawEnv, Mine.lawStmt, PySem.Challenge.pw_sr0010_01, List.getLast?, List.getLast, Option.getD, List.drop] at z
  refine' z _ PassesOwn.leaving _ ?_
  intro h' tk' m₁ ps F1 N1
  dsimp only
  refine ⟨?_, GrownAt.of N1 (.head _), True.intro⟩
  k_end
  kc_close


import PyProof.Rows.All
import Wide.All
import OpenK.AllK
import Wide.FinOn
import PySem.Challenge.RW_sr0079_01
set_option Elab.async false
set_option hygiene false
set_option compiler.extract_closed false

section
open PySem PySem.W PyProof.Rows PySem.Spec PySem.Calls
set_option maxRecDepth 100000
set_option maxHeartbeats 4000000
namespace Mine
theorem said0 : PySem.Challenge.rw_sr0079_01.wellSaid = true := by
  unfold OpenLaw.wellSaid OpenRow.wellSaid OpenRow.partSaid looksOpen
  repeat' (with_reducible refine look_both ?_ ?_)
  all_goals decide +kernel
end Mine
end

section
open PySem PySem.W PyProof.Rows PySem.Spec PySem.Calls
namespace Mine
theorem subC {α : Type} {p : α} {b a : List α} (h : p ∈ a) (k : ∀ q ∈ b, q ∈ a) : ∀ q ∈ p :: b, q ∈ a := List.forall_mem_cons.mpr ⟨h, k⟩
theorem subN {α : Type} {a : List α} : ∀ q ∈ ([] : List α), q ∈ a := fun _ h => nomatch h
theorem subA {α : Type} {a b c : List α} (h : ∀ q ∈ a, q ∈ c) (k : ∀ q ∈ b, q ∈ c) : ∀ q ∈ a ++ b, q ∈ c := fun q hq => (List.mem_append.mp hq).elim (h q) (k q)
theorem subT {α : Type} {x : α} {a b : List α} (h : ∀ q ∈ b, q ∈ a) : ∀ q ∈ b, q ∈ x :: a := fun q hq => .tail _ (h q hq)
theorem subI {α : Type} {a : List α} : ∀ q ∈ a, q ∈ a := fun _ h => h
theorem subL {α : Type} {a b c : List α} (h : ∀ q ∈ b, q ∈ a) : ∀ q ∈ b, q ∈ a ++ c := fun q hq => List.mem_append_left _ (h q hq)
theorem subR {α : Type} {a b c : List α} (h : ∀ q ∈ b, q ∈ c) : ∀ q ∈ b, q ∈ a ++ c := fun q hq => List.mem_append_right _ (h q hq)
/-- a ledger that is part of one is one -/
theorem newsSub {h₀ h : Heap} {L : Addr} {a b : List (Addr × Obj)} (N : News h₀ L h a) (hs : ∀ p ∈ b, p ∈ a) : News h₀ L h b := fun p hp => N p (hs p hp)
theorem memH {α : Type} {a : α} {l : List α} : a ∈ a :: l := .head _
theorem memT {α : Type} {a b : α} {l : List α} (h : a ∈ l) : a ∈ b :: l := .tail _ h
theorem le100 {n : Nat} (h : n ≤ 100) : n ≤ PySem.sizeLine := Nat.le_trans h (by rw [PySem.sizeLine_eq]; decide)
theorem srtCons {a b : Nat} {l : List Nat} (h : a < b) (s : (b :: l).Pairwise (· < ·)) : (a :: b :: l).Pairwise (· < ·) :=
  List.pairwise_cons.mpr ⟨fun x hx => (List.mem_cons.mp hx).elim (fun e => e ▸ h) fun hx => Nat.lt_trans h ((List.pairwise_cons.mp s).1 x hx), s⟩
theorem srtLt {l : List Nat} (h : l.Pairwise (· < ·)) (i j : Nat) {a b : Nat} (ha : l[i]? = some a) (hb : l[j]? = some b) (hij : i < j) : a < b := by
  obtain ⟨h1, rfl⟩ := List.getElem?_eq_some_iff.mp ha
  obtain ⟨h2, rfl⟩ := List.getElem?_eq_some_iff.mp hb
  exact List.pairwise_iff_getElem.mp h i j h1 h2 hij
theorem srtNe {l : List Nat} (h : l.Pairwise (· < ·)) (i j : Nat) {a b : Nat} (ha : l[i]? = some a) (hb : l[j]? = some b) (hij : i ≠ j) : a ≠ b := by
  rcases Nat.lt_or_gt_of_ne hij with q | q
  · exact Nat.ne_of_lt (srtLt h i j ha hb q)
  · exact Nat.ne_of_gt (srtLt h j i hb ha q)
theorem srtLe {l : List Nat} (h : l.Pairwise (· < ·)) (i j : Nat) {a b : Nat} (ha : l[i]? = some a) (hb : l[j]? = some b) (hij : i < j) : a ≤ b := Nat.le_of_lt (srtLt h i j ha hb hij)
theorem roomA {a b c n : Nat} (h : a + b < c) (hn : n ≤ b) : a + n < c := Nat.lt_of_le_of_lt (Nat.add_le_add_left hn a) h
theorem roomB {a b c m n : Nat} (h : a + b < c) (hn : m + n ≤ b) : a + m + n < c := by rw [Nat.add_assoc]; exact roomA h hn
theorem roomC {a b c : Nat} (h : a + b < c) : a < c := Nat.lt_of_le_of_lt (Nat.le_add_right a b) h
theorem sh1 {a : Int} (b : 0 ≤ a ∧ a < 5) (h : ¬ a = 0) : 1 ≤ a ∧ a < 5 := by lia
theorem divneg (x : Int) : 256 + x.fdiv 64 < 256 ↔ x < 0 := by rw [Int.fdiv_eq_ediv_of_nonneg _ (by decide)]; lia
theorem sclA (t : Int) : 0 < t ↔ 256 + (-t * 1).fdiv 64 < 256 := by rw [divneg]; lia
theorem sclB (t : Int) : 0 < t ↔ 256 + (-t * 640).fdiv 64 < 256 := by rw [divneg]; lia
theorem sclC (t : Int) : t < 0 ↔ 256 + (t * 1).fdiv 64 < 256 := by rw [divneg]; lia
theorem sclD (t : Int) : t < 0 ↔ 256 + (t * 640).fdiv 64 < 256 := by rw [divneg]; lia
theorem rngZ {x : Int} (h : -640000 ≤ x ∧ x ≤ 640000) : -20000 ≤ 256 + x.fdiv 64 ∧ 256 + x.fdiv 64 ≤ 20000 := by rw [Int.fdiv_eq_ediv_of_nonneg _ (by decide)]; lia
theorem rngA {t : Int} (h : -1000 ≤ t ∧ t ≤ 1000) : -20000 ≤ 256 + (-t * 1).fdiv 64 ∧ 256 + (-t * 1).fdiv 64 ≤ 20000 := rngZ (by lia)
theorem rngB {t : Int} (h : -1000 ≤ t ∧ t ≤ 1000) : -20000 ≤ 256 + (-t * 640).fdiv 64 ∧ 256 + (-t * 640).fdiv 64 ≤ 20000 := rngZ (by lia)
theorem rngC {t : Int} (h : -1000 ≤ t ∧ t ≤ 1000) : -20000 ≤ 256 + (t * 1).fdiv 64 ∧ 256 + (t * 1).fdiv 64 ≤ 20000 := rngZ (by lia)
theorem rngD {t : Int} (h : -1000 ≤ t ∧ t ≤ 1000) : -20000 ≤ 256 + (t * 640).fdiv 64 ∧ 256 + (t * 640).fdiv 64 ≤ 20000 := rngZ (by lia)
theorem ap_le {x y : PySem.Str} {m n : Nat} (hx : x.length ≤ m) (hy : y.length ≤ n) : (x ++ y).length ≤ m + n := by rw [PySem.Str.length_append]; exact Nat.add_le_add hx hy
theorem natAbs_lt {a : Int} {n : Nat} (h1 : -(n : Int) ≤ a) (h2 : a ≤ n) (hn : n < 2 ^ 1023) : a.natAbs < 2 ^ 1023 := Nat.lt_of_le_of_lt (by lia) hn
theorem dec1 {i n : Nat} (h : i < n) : n + 1 - (i + 1) < n + 1 - i := Nat.sub_lt_sub_left (Nat.lt_succ_of_lt h) (Nat.lt_succ_self i)
theorem lt10 {c z : Int} (h1 : c < z) (h2 : z ≤ 8) : c < 10 := Int.lt_of_lt_of_le h1 (Int.le_trans h2 (by decide))
theorem le01 {a : Int} (h : 1 ≤ a) : 0 ≤ a := Int.le_trans (by decide) h
theorem tcl {x s : Int} (h : 0 ≤ x ∧ x < s) : ((x.toNat : Nat) : Int) < s := by rw [Int.toNat_of_nonneg h.1]; exact h.2
theorem j1lt {j c z : Int} (h1 : j < c) (h2 : c < z) : j + 1 < z := Int.lt_of_le_of_lt (Int.add_one_le_of_lt h1) h2
theorem totb (x : Int) : -1000 ≤ x.fmod 1536 - 768 ∧ x.fmod 1536 - 768 ≤ 1000 := by rw [Int.fmod_eq_emod_of_nonneg _ (by decide)]; lia
theorem nab24 {a k : Int} (h : -8 ≤ a ∧ a ≤ 8) (hk : k = -1 ∨ k = 0 ∨ k = 1) : (a + k + 24).natAbs < 2 ^ 1023 := Nat.lt_of_le_of_lt (m := 33) (by lia) (by decide +kernel)
theorem nabLt {a : Int} (h : 0 ≤ a ∧ a < 700) : a.natAbs < 2 ^ 1023 := Nat.lt_of_le_of_lt (m := 700) (by lia) (by decide +kernel)
theorem seven (xs lk : List Int) (h : lk.length = 7) : (xs.take 7 ++ lk.drop (xs.take 7).length).length = 7 := by
  rw [List.length_append, List.length_drop, h]
  exact Nat.add_sub_cancel' (List.length_take_le 7 xs)
end Mine
end

section
open PySem PySem.W PyProof.Rows PySem.Spec PySem.Calls
set_option maxRecDepth 100000
set_option maxHeartbeats 8000000
namespace Mine
section
variable {prog : Program} {w : World} {A : Around} {s : Shared} {env : Env} {h₀ : Heap}
/-- the end of a loop's turn: left by return or break, or the word of the next turn over a ledger off the iterator -/
noncomputable def TurnEnd (h₀ : Heap) (L I : Addr) (oI : Obj) (src : List (Addr × Obj)) (Jn : (Str → Option Value) → List (Addr × Obj) → Prop) (s₁ : Shared) (Qr : Value → Shared → Prop) (Qb : Shared → Prop) (f : Flow) (s₂ : Shared) : Prop :=
  match f with
  | .ret v => Qr v s₂
  | .brk => Qb s₂
  | _ => ∃ h' tk m' nw, s₂ = { s₁ with heap := h', toks := tk } ∧ Fr h₀ L h' m' ∧ News h₀ L h' ((I, oI) :: nw) ∧ (∀ p ∈ src, p ∈ nw) ∧ (∀ p ∈ nw, p.1 ≠ I) ∧ Jn m' nw
theorem TurnEnd.mk {L I : Addr} {oI : Obj} {src nw : List (Addr × Obj)} {Jn : (Str → Option Value) → List (Addr × Obj) → Prop} {s₁ : Shared} {Qr : Value → Shared → Prop} {Qb : Shared → Prop} {h' : Heap} {tk : Nat} {m' : Str → Option Value}
    (F : Fr h₀ L h' m') (N : News h₀ L h' ((I, oI) :: nw)) (hs : ∀ p ∈ src, p ∈ nw) (hn : ∀ p ∈ nw, p.1 ≠ I) (hj : Jn m' nw) : TurnEnd h₀ L I oI src Jn s₁ Qr Qb .next { s₁ with heap := h', toks := tk } :=
  ⟨h', tk, m', nw, rfl, F, N, hs, hn, hj⟩
theorem News.same {h : Heap} {L : Addr} {news : List (Addr × Obj)} {a : Addr} {o : Obj} (N : News h₀ L h news) (hm : (a, o) ∈ news) : h.get? a = some o := (N _ hm).1
/-- the word between two turns -/
inductive LW (h₀ : Heap) (s : Shared) (L : Addr) (St : Nat → Heap → Prop) (J : Nat → (Str → Option Value) → List (Addr × Obj) → Prop) (src : List (Addr × Obj)) (I : Addr) (n k : Nat) (s' : Shared) : Prop
  | mk (h' : Heap) (tk : Nat) (m' : Str → Option Value) (nw : List (Addr × Obj)) (i : Nat) (e : s' = { s with heap := h', toks := tk }) (st : St i h') (F : Fr h₀ L h' m') (N : News h₀ L h' nw) (hs : ∀ p ∈ src, p ∈ nw) (hn : ∀ p ∈ nw, p.1 ≠ I) (hj : J i m' nw) (hi : i ≤ n) (hk : k = n + 1 - i) : LW h₀ s L St J src I n k s'
/-- a for over an iterator I, its turns told by a word J over the frame and the ledger -/
theorem loopW {R : Result → Shared → Prop} {target : Expr} {body : List Stmt} {I : Addr} {fp : List Addr} {n : Nat} {P : Nat → Value → Prop} {St : Nat → Heap → Prop} {m : Str → Option Value} {news : List (Addr × Obj)}
    (W : Walks prog w A I fp [I] n P St) (hex : ∀ i h, St i h → ∃ o, h.get? I = some o) (src : List (Addr × Obj)) (hfp : ∀ b ∈ fp, b = I ∨ (∃ o, (b, o) ∈ src) ∨ ∃ o, h₀.get? b = some o)
    (hst : St 0 s.heap) (F : Fr h₀ env.locals s.heap m) (N : News h₀ env.locals s.heap news) (hI : h₀.get? I = none) (hIL : I ≠ env.locals) (hnI : ∀ p ∈ news, p.1 ≠ I) (hsrc : ∀ p ∈ src, p ∈ news)
    (J : Nat → (Str → Option Value) → List (Addr × Obj) → Prop) (h0 : J 0 m news)
    (turn : ∀ i v m₁ news₁ h tk oI, i < n → P i v → J i m₁ news₁ → (∀ p ∈ src, p ∈ news₁) → (∀ p ∈ news₁, p.1 ≠ I) → Fr h₀ env.locals h m₁ → News h₀ env.locals h ((I, oI) :: news₁) →
      wpAny (model prog w) A (assign target env v) (fun _ s₂ => wpAny (model prog w) A (execs body env) (TurnEnd h₀ env.locals I oI src (J (i + 1)) s (fun v s' => R (.ok (.ret v)) s') (fun s' => R (.ok .next) s')) (fun _ _ => False) s₂) (fun _ _ => False) { s with heap := h, toks := tk })
    (done : ∀ m' news' h' tk, J n m' news' → Fr h₀ env.locals h' m' → News h₀ env.locals h' news' → (∀ p ∈ src, p ∈ news') → R (.ok .next) { s with heap := h', toks := tk })
    (hlet : ∀ v, letOwnedTupleGo target (.ref I) v = pure () := by intro _; rfl) :
    codeAny (model prog w) A (.forLoop target (.ref I) body [] env) R s := by
  have off : ∀ b o, h₀.get? b = some o → b ∉ [I] := fun b o e hb => by rw [List.mem_singleton.mp hb, hI] at e; cases e
  refine codeAny_forLoop (LW h₀ s env.locals St J src I n) ?_ (n + 1)
    ⟨s.heap, s.toks, m, news, 0, rfl, hst, F, N, hsrc, hnI, h0, Nat.zero_le _, rfl⟩ hlet
  rintro k s' ⟨H, tk, m', nw, i, rfl, hst', F', N', hs', hn', hJ, hi, rfl⟩
  have move : ∀ h₁ : Heap, (∀ b o, b ∉ [I] → H.get? b = some o → h₁.get? b = some o) → Fr h₀ env.locals h₁ m' ∧ News h₀ env.locals h₁ nw := fun h₁ hk =>
    ⟨⟨F'.ns.at' fun o e => hk _ o (fun hm => hIL (List.mem_singleton.mp hm).symm) e, fun b o e => hk b o (off b o e) (F'.keep b o e), F'.above⟩,
     fun p hp => ⟨hk _ _ (fun hm => hn' p hp (List.mem_singleton.mp hm)) (N' p hp).1, (N' p hp).2⟩⟩
  by_cases hlt : i < n
  · refine W.item i _ _ _ hlt hst' fun v h₁ tk₁ hP hst₁ hk₁ => ?_
    obtain ⟨F₁, N₁⟩ := move h₁ hk₁
    obtain ⟨oI, hoI⟩ := hex _ _ hst₁
    have NI : News h₀ env.locals h₁ ((I, oI) :: nw) := fun p hp => by
      rcases List.mem_cons.mp hp with rfl | hp
      · exact ⟨hoI, hIL, hI⟩
      · exact N₁ p hp
    refine wpAny_mono (turn i v m' nw h₁ tk₁ oI hlt hP hJ hs' hn' F₁ NI) (fun _ s₂ h₂ => wpAny_mono h₂ (fun f s₃ h₃ => ?_) fun _ _ e => e.elim) fun _ _ e => e.elim
    have fin : (∃ h' tk m' nw, s₃ = { s with heap := h', toks := tk } ∧ Fr h₀ env.locals h' m' ∧ News h₀ env.locals h' ((I, oI) :: nw) ∧ (∀ p ∈ src, p ∈ nw) ∧ (∀ p ∈ nw, p.1 ≠ I) ∧ J (i + 1) m' nw) →
        ∃ k, k < n + 1 - i ∧ LW h₀ s env.locals St J src I n k s₃ := by
      rintro ⟨h₂, tk₂, m₂, nw₂, rfl, F₂, N₂, hs₂, hn₂, hJ₂⟩
      refine ⟨n + 1 - (i + 1), Nat.sub_lt_sub_left (Nat.lt_succ_of_lt (by assumption)) (Nat.lt_succ_self i), h₂, tk₂, m₂, nw₂, i + 1, rfl, ?_, F₂, fun p hp => N₂ p (List.mem_cons_of_mem _ hp), hs₂, hn₂, hJ₂, hlt, rfl⟩
      refine W.frame _ _ _ hst₁ fun b hb o e => ?_
      rcases hfp b hb with rfl | ⟨o', ho'⟩ | ⟨o', ho'⟩
      · rw [hoI] at e; cases e
        exact (N₂ _ (List.mem_cons_self ..)).1
      · have e₁ := (N₁ _ (hs' _ ho')).1
        rw [e] at e₁; cases e₁
        exact (N₂ _ (List.mem_cons_of_mem _ (hs₂ _ ho'))).1
      · have e₁ := F₁.keep _ _ ho'
        rw [e] at e₁; cases e₁
        exact F₂.keep _ _ ho'
    cases f with
    | ret v => exact h₃
    | brk => exact h₃
    | next => exact fin h₃
    | cont => exact fin h₃
  · have hin : i = n := by first | exact Nat.le_antisymm (by assumption) (Nat.le_of_not_lt (by assumption)) | omega
    subst hin
    refine W.done _ _ _ hst' fun h₁ tk₁ hk₁ => wpAny_execs_nil ?_
    obtain ⟨F₁, N₁⟩ := move h₁ hk₁
    exact done m' nw h₁ tk₁ hJ F₁ N₁ hs'

/-- a for over a list of the ledger that no turn changes -/
theorem loop_list {Q : Flow → Shared → Prop} {Er : Value → Shared → Prop} {target : Expr} {body : List Stmt} {l : Addr} {items : Array Value} {nn : Nat} {m : Str → Option Value} {news : List (Addr × Obj)} {E : Value → Shared → Prop}
    (hh : A.handled = none) (F : Fr h₀ env.locals s.heap m) (N : News h₀ env.locals s.heap news) (hl : (l, W.listOf items nn) ∈ news)
    (J : Nat → (Str → Option Value) → List (Addr × Obj) → Prop) (h0 : J 0 m news)
    (turn : ∀ i v m₁ news₁ h tk I oI, items[i]? = some v → J i m₁ news₁ → (l, W.listOf items nn) ∈ news₁ → (∀ p ∈ news, @LT.lt Nat _ p.1 I) → (∀ p ∈ news₁, p.1 ≠ I) → Fr h₀ env.locals h m₁ → News h₀ env.locals h ((I, oI) :: news₁) →
      wpAny (model prog w) A (assign target env v) (fun _ s₂ => wpAny (model prog w) A (execs body env) (TurnEnd h₀ env.locals I oI [(l, W.listOf items nn)] (J (i + 1)) s (fun v s' => Q (.ret v) s') (fun s' => Q .next s')) (fun _ _ => False) s₂) (fun _ _ => False) { s with heap := h, toks := tk })
    (done : ∀ m' news' h' tk, J items.size m' news' → (l, W.listOf items nn) ∈ news' → Fr h₀ env.locals h' m' → News h₀ env.locals h' news' → Q .next { s with heap := h', toks := tk })
    (hlet : ∀ I v, letOwnedTupleGo target (.ref I) v = pure () := by intro _ _; rfl) :
    wpAny (model prog w) A (pyIter (.ref l)) (fun it s₂ => codeAny (model prog w) A (.forLoop target it body [] env) (fun r s' => match r with | .ok f => Q f s' | .error e => Er e s') s₂) E s := by
  have ho := (N _ hl).1
  have hls : s.heap.IsList l items := ⟨_, ho, rfl, nn, rfl⟩
  have hne : l ≠ s.heap.objs.size := Nat.ne_of_lt (Heap.lt_size ho)
  refine wpAny_pyIter_list hls ?_
  have Wk := Walks.list (prog := prog) (w := w) hh s.heap.objs.size l hne items
  have hlt : ∀ p ∈ news, @LT.lt Nat _ p.1 s.heap.objs.size := fun p hp => Heap.lt_size (N p hp).1
  refine loopW (R := fun r s' => match r with | .ok f => Q f s' | .error e => Er e s') Wk (fun i h st => let ⟨o, ho, _⟩ := st.1; ⟨o, ho⟩) [(l, W.listOf items nn)] (fun b hb => ?_) ⟨⟨_, Heap.get?_push_size _ rfl, rfl, rfl⟩, hls.at fun o e => Heap.get?_push_of_some _ e⟩ (F.push _)
    (fun p hp => ⟨Heap.get?_push_of_some _ (N p hp).1, (N p hp).2⟩) (next_is_new F) (Nat.ne_of_gt F.ns.lt) (fun p hp => Nat.ne_of_lt (hlt p hp)) (fun p hp => by rw [List.mem_singleton.mp hp]; exact hl) J h0
    (fun i v m₁ news₁ h tk oI hi hP hJ hs hn F₁ N₁ => turn i v m₁ news₁ h tk _ oI hP hJ (hs _ (List.mem_singleton.mpr rfl)) hlt hn F₁ N₁)
    (fun m' news' h' tk hJ F' N' hs => done m' news' h' tk hJ (hs _ (List.mem_singleton.mpr rfl)) F' N') (hlet _)
  rcases List.mem_cons.mp hb with rfl | hb
  · exact .inl rfl
  · rw [List.mem_singleton.mp hb]; exact .inr (.inl ⟨_, List.mem_singleton.mpr rfl⟩)

/-- the end of a turn over the items of a dict -/
noncomputable def TurnEndO (h₀ : Heap) (L : Addr) (own src : List (Addr × Obj)) (I : Addr) (Jn : (Str → Option Value) → List (Addr × Obj) → Prop) (s₁ : Shared) (f : Flow) (s₂ : Shared) : Prop :=
  f = .next ∧ ∃ h' tk m' nw, s₂ = { s₁ with heap := h', toks := tk } ∧ Fr h₀ L h' m' ∧ News h₀ L h' (nw ++ own) ∧ (∀ p ∈ src, p ∈ nw) ∧ (∀ p ∈ nw, p.1 ≠ I) ∧ Jn m' nw
theorem TurnEndO.mk {L I : Addr} {own src nw : List (Addr × Obj)} {Jn : (Str → Option Value) → List (Addr × Obj) → Prop} {s₁ : Shared} {h' : Heap} {tk : Nat} {m' : Str → Option Value}
    (F : Fr h₀ L h' m') (N : News h₀ L h' (nw ++ own)) (hs : ∀ p ∈ src, p ∈ nw) (hn : ∀ p ∈ nw, p.1 ≠ I) (hj : Jn m' nw) : TurnEndO h₀ L own src I Jn s₁ .next { s₁ with heap := h', toks := tk } :=
  ⟨rfl, h', tk, m', nw, rfl, F, N, hs, hn, hj⟩
/-- a for over the items of a dict of two str keys, both turns by themselves -/
theorem loop_items2 {Q : Flow → Shared → Prop} {Er : Value → Shared → Prop} {E : Value → Shared → Prop} {xk xv : PySem.Str} {pk pv pt : Pos} {x1 : Nat} {body : List Stmt} {d vw : Addr} {o : Obj} {k0 k1 : PySem.Str} {d0 d1 : PyData} {m : Str → Option Value} {news : List (Addr × Obj)}
    (hh : A.handled = none) (hxk : env.kindOf xk = some .local) (hxv : env.kindOf xv = some .local)
    (hp : (env.scope.kind == .class || (env.scope.kind == .module && env.locals != env.globals)) = false)
    (hvw : ∃ ov, s.heap.get? vw = some ov ∧ ov.cls = .type "dict_items" ∧ ov.data = .fields #[.ref d]) (T : StrTab prog w s.heap d [(.str k0, d0), (.str k1, d1)])
    (F : Fr h₀ env.locals s.heap m) (N : News h₀ env.locals s.heap news) (hd : (d, o) ∈ news) (J J2 : (Str → Option Value) → List (Addr × Obj) → Prop)
    (first : ∀ v t s₁ I own, PyProof.V.Flat v d0 → (∀ p ∈ own, p.1 = I) → (∀ p ∈ news, @LT.lt Nat _ p.1 I) → Fr h₀ env.locals s₁.heap (fun y => if y = xv then some v else if y = xk then some (.str k0 t) else m y) → News h₀ env.locals s₁.heap (news ++ own) →
      wpAny (model prog w) A (execs body env) (TurnEndO h₀ env.locals own [(d, o)] I J s₁) (fun _ _ => False) s₁)
    (second : ∀ v t m₁ news₁ s₁ I own, PyProof.V.Flat v d1 → (∀ p ∈ own, p.1 = I) → J m₁ news₁ → (d, o) ∈ news₁ → (∀ p ∈ news, @LT.lt Nat _ p.1 I) → (∀ p ∈ news₁, p.1 ≠ I) → Fr h₀ env.locals s₁.heap (fun y => if y = xv then some v else if y = xk then some (.str k1 t) else m₁ y) → News h₀ env.locals s₁.heap (news₁ ++ own) →
      wpAny (model prog w) A (execs body env) (TurnEndO h₀ env.locals own [(d, o)] I J2 s₁) (fun _ _ => False) s₁)
    (done : ∀ m' nw h' tk, J2 m' nw → Fr h₀ env.locals h' m' → News h₀ env.locals h' nw → Q .next { s with heap := h', toks := tk }) :
    wpAny (model prog w) A (pyIter (.ref vw)) (fun it s₂ => codeAny (model prog w) A (.forLoop (.Tuple [.Name xk pk, .Name xv pv] x1 pt) it body [] env) (fun r s' => match r with | .ok f => Q f s' | .error e => Er e s') s₂) E s := by
  obtain ⟨lo, kvs, hdo, hf⟩ := id T
  obtain ⟨ep, hat⟩ := hdo.dictAt
  refine wpAny_pyIter_items (knd := strKind prog w) (d := d) (kvs := kvs) (ep := ep) hvw hat ?_
  have hne : d ≠ s.heap.objs.size := Nat.ne_of_lt hat.lt_size
  have hlt : ∀ p ∈ news, @LT.lt Nat _ p.1 s.heap.objs.size := fun p hp => Heap.lt_size (N p hp).1
  have hlen : kvs.length = 2 := (PyProof.V.FlatPairs.length hf).symm
  have hdL : d ≠ env.locals := fun e => (N _ hd).2.1 e
  let J' : Nat → (Str → Option Value) → List (Addr × Obj) → Prop := fun i m₁ nw => match i with | 0 => m₁ = m ∧ nw = news | 1 => J m₁ nw | _ => J2 m₁ nw
  refine codeAny_forLoop_items_frU (R := fun r s' => match r with | .ok f => Q f s' | .error e => Er e s') (knd := strKind prog w) (h₀ := h₀) (news := news) hh hxk hxv hp (Nat.ne_of_gt F.ns.lt) hdL hne (next_is_new F)
    (fun p hp hI => absurd (hlt p hp) ((List.mem_singleton.mp hI) ▸ Nat.lt_irrefl _)) (Heap.get?_push_size _ rfl) (hat.push _) (F.push _)
    (fun p hp => ⟨Heap.get?_push_of_some _ (N p hp).1, (N p hp).2⟩)
    (fun i m₁ nw => (d, o) ∈ nw ∧ J' i m₁ nw) ⟨hd, rfl, rfl⟩ ?_ ?_
  · intro i k v key m₁ news₁ s₁ own hx hkey hJ hoff hown _ F₁ N₁
    obtain ⟨hd₁, hJ⟩ := hJ
    obtain ⟨dv, hDi, hl, hfl⟩ := hf.lookup_at PyProof.V.same_str hat.nodup hx
    obtain ⟨t, rfl⟩ := Value.isStrOf_shape hkey
    have hoff' : ∀ p ∈ news₁, p.1 ≠ s.heap.objs.size := fun p hp e => hoff p hp (List.mem_singleton.mpr e)
    have NI : News h₀ env.locals s₁.heap (news₁ ++ own.filter fun p => decide (p.1 = s.heap.objs.size)) := fun p hp => by
      rcases List.mem_append.mp hp with h | h
      · exact N₁ p (List.mem_append_right _ h)
      · exact N₁ p (List.mem_append_left _ (List.mem_filter.mp h).1)
    have hoI : ∀ p ∈ own.filter (fun p => decide (p.1 = s.heap.objs.size)), p.1 = s.heap.objs.size := fun p hp => by simpa using (List.mem_filter.mp hp).2
    have key : ∀ (Jn : (Str → Option Value) → List (Addr × Obj) → Prop), (∀ m' nw, Jn m' nw → J' (i + 1) m' nw) →
        wpAny (model prog w) A (execs body env) (TurnEndO h₀ env.locals (own.filter fun p => decide (p.1 = s.heap.objs.size)) [(d, o)] s.heap.objs.size Jn s₁) (fun _ _ => False) s₁ →
        wpAny (model prog w) A (execs body env) (LoopStepU h₀ env.locals [s.heap.objs.size] own (fun m₁ nw => (d, o) ∈ nw ∧ J' (i + 1) m₁ nw) s₁) (notedBy (model prog w) A env fun e s' => Er e s') s₁ := by
      intro Jn hJn h
      refine wpAny_mono h (fun f s₂ h₂ => ?_) fun _ _ e => e.elim
      obtain ⟨rfl, h', tk, m', nw, rfl, F', N', hs', hn', hj'⟩ := h₂
      have hd' : (d, o) ∈ nw := hs' _ (List.mem_singleton.mpr rfl)
      refine ⟨rfl, h', tk, m', nw, rfl, F', fun p hp => ?_, fun p hp e => hn' p hp (List.mem_singleton.mp e), hd', hJn _ _ hj'⟩
      rcases List.mem_append.mp hp with h | h
      · by_cases hI : p.1 = s.heap.objs.size
        · exact N' p (List.mem_append_right _ (List.mem_filter.mpr ⟨h, by simpa using hI⟩))
        · have h1 : p.1 = d := by
            rcases List.mem_cons.mp (hown p h) with h2 | h2
            · exact absurd h2 hI
            · exact List.mem_singleton.mp h2
          have h2 := (N₁ p (List.mem_append_left _ h)).1
          have h3 := (N₁ _ (List.mem_append_right _ hd₁)).1
          rw [h1, h3] at h2
          have h4 : p = (d, o) := Prod.ext h1 (Option.some.inj h2).symm
          rw [h4]
          exact N' _ (List.mem_append_left _ hd')
      · exact N' p (List.mem_append_left _ h)
    have hi : i < 2 := by
      rcases Nat.lt_or_ge i kvs.length with h1 | h1
      · omega
      · rw [List.getElem?_eq_none h1] at hx; cases hx
    match i, hi, hJ, hDi, key with
    | 0, _, hJ, hDi, key =>
      obtain ⟨rfl, rfl⟩ := hJ
      simp only [List.getElem?_cons_zero, Option.some.injEq, Prod.mk.injEq, PyData.str.injEq] at hDi
      obtain ⟨rfl, rfl⟩ := hDi
      exact key J (fun _ _ x => x) (first v t s₁ _ _ hfl hoI hlt F₁ NI)
    | 1, _, hJ, hDi, key =>
      simp only [List.getElem?_cons_zero, List.getElem?_cons_succ, Option.some.injEq, Prod.mk.injEq, PyData.str.injEq] at hDi
      obtain ⟨rfl, rfl⟩ := hDi
      exact key J2 (fun _ _ x => x) (second v t m₁ news₁ s₁ _ _ hfl hoI hJ hd₁ hlt hoff' F₁ NI)
  · intro h' tk m' news' F' N' _ hJ
    rw [hlen] at hJ
    exact done m' news' h' tk hJ.2 F' N'
end
end Mine
end

section
open PySem PySem.W PyProof.Rows PySem.Spec PySem.Calls
set_option maxRecDepth 100000
set_option maxHeartbeats 8000000
namespace Mine
section
variable {prog : Program} {w : World} {A : Around} {s : Shared} {env : Env} {h₀ : Heap}
/-- a for over a tuple of the ledger -/
theorem loop_tuple {Q : Flow → Shared → Prop} {Er : Value → Shared → Prop} {target : Expr} {body : List Stmt} {l : Addr} {items : Array Value} {nn : Nat} {m : Str → Option Value} {news : List (Addr × Obj)} {E : Value → Shared → Prop}
    (hh : A.handled = none) (F : Fr h₀ env.locals s.heap m) (N : News h₀ env.locals s.heap news) (hl : (l, ({ cls := .type "tuple", data := .seq items nn } : Obj)) ∈ news)
    (J : Nat → (Str → Option Value) → List (Addr × Obj) → Prop) (h0 : J 0 m news)
    (turn : ∀ i v m₁ news₁ h tk I oI, items[i]? = some v → J i m₁ news₁ → (l, ({ cls := .type "tuple", data := .seq items nn } : Obj)) ∈ news₁ → (∀ p ∈ news, @LT.lt Nat _ p.1 I) → (∀ p ∈ news₁, p.1 ≠ I) → Fr h₀ env.locals h m₁ → News h₀ env.locals h ((I, oI) :: news₁) →
      wpAny (model prog w) A (assign target env v) (fun _ s₂ => wpAny (model prog w) A (execs body env) (TurnEnd h₀ env.locals I oI [(l, { cls := .type "tuple", data := .seq items nn })] (J (i + 1)) s (fun v s' => Q (.ret v) s') (fun s' => Q .next s')) (fun _ _ => False) s₂) (fun _ _ => False) { s with heap := h, toks := tk })
    (done : ∀ m' news' h' tk, J items.size m' news' → (l, ({ cls := .type "tuple", data := .seq items nn } : Obj)) ∈ news' → Fr h₀ env.locals h' m' → News h₀ env.locals h' news' → Q .next { s with heap := h', toks := tk })
    (hlet : ∀ I v, letOwnedTupleGo target (.ref I) v = pure () := by intro _ _; rfl) :
    wpAny (model prog w) A (pyIter (.ref l)) (fun it s₂ => codeAny (model prog w) A (.forLoop target it body [] env) (fun r s' => match r with | .ok f => Q f s' | .error e => Er e s') s₂) E s := by
  have ho := (N _ hl).1
  have hls : s.heap.IsTuple l items := ⟨_, ho, rfl, nn, rfl⟩
  have hne : l ≠ s.heap.objs.size := Nat.ne_of_lt (Heap.lt_size ho)
  refine wpAny_pyIter_tuple hls ?_
  have Wk := Walks.tuple (prog := prog) (w := w) hh s.heap.objs.size l hne items
  have hlt : ∀ p ∈ news, @LT.lt Nat _ p.1 s.heap.objs.size := fun p hp => Heap.lt_size (N p hp).1
  refine loopW (R := fun r s' => match r with | .ok f => Q f s' | .error e => Er e s') Wk (fun i h st => let ⟨o, ho, _⟩ := st.1; ⟨o, ho⟩) [(l, { cls := .type "tuple", data := .seq items nn })] (fun b hb => ?_) ⟨⟨_, Heap.get?_push_size _ rfl, rfl, rfl⟩, hls.at fun o e => Heap.get?_push_of_some _ e⟩ (F.push _)
    (fun p hp => ⟨Heap.get?_push_of_some _ (N p hp).1, (N p hp).2⟩) (next_is_new F) (Nat.ne_of_gt F.ns.lt) (fun p hp => Nat.ne_of_lt (hlt p hp)) (fun p hp => by rw [List.mem_singleton.mp hp]; exact hl) J h0
    (fun i v m₁ news₁ h tk oI hi hP hJ hs hn F₁ N₁ => turn i v m₁ news₁ h tk _ oI hP hJ (hs _ (List.mem_singleton.mpr rfl)) hlt hn F₁ N₁)
    (fun m' news' h' tk hJ F' N' hs => done m' news' h' tk hJ (hs _ (List.mem_singleton.mpr rfl)) F' N') (hlet _)
  rcases List.mem_cons.mp hb with rfl | hb
  · exact .inl rfl
  · rw [List.mem_singleton.mp hb]; exact .inr (.inl ⟨_, List.mem_singleton.mpr rfl⟩)
/-- a for over an empty list of the ledger -/
theorem loop_empty {Q : Flow → Shared → Prop} {Er : Value → Shared → Prop} {target : Expr} {body : List Stmt} {l : Addr} {nn : Nat} {m : Str → Option Value} {news : List (Addr × Obj)} {E : Value → Shared → Prop}
    (hh : A.handled = none) (F : Fr h₀ env.locals s.heap m) (N : News h₀ env.locals s.heap news) (hl : (l, W.listOf #[] nn) ∈ news)
    (done : ∀ h' tk, Fr h₀ env.locals h' m → News h₀ env.locals h' news → Q .next { s with heap := h', toks := tk }) :
    wpAny (model prog w) A (pyIter (.ref l)) (fun it s₂ => codeAny (model prog w) A (.forLoop target it body [] env) (fun r s' => match r with | .ok f => Q f s' | .error e => Er e s') s₂) E s := by
  have ho := (N _ hl).1
  have hls : s.heap.IsList l #[] := ⟨_, ho, rfl, nn, rfl⟩
  have hne : l ≠ s.heap.objs.size := Nat.ne_of_lt (Heap.lt_size ho)
  refine wpAny_pyIter_list hls ?_
  have Wk := Walks.list (prog := prog) (w := w) hh s.heap.objs.size l hne #[]
  have hlt : ∀ p ∈ news, @LT.lt Nat _ p.1 s.heap.objs.size := fun p hp => Heap.lt_size (N p hp).1
  have F1 := F.push { cls := .type "list_iterator", data := .fields #[.ref l, .int 0 0] }
  refine codeAny_forLoop_any (R := fun r s' => match r with | .ok f => Q f s' | .error e => Er e s') (fun _ s' => s' = _) ?_ 0 rfl
  rintro n s' rfl
  refine Wk.done _ _ _ ⟨⟨_, Heap.get?_push_size _ rfl, rfl, rfl⟩, hls.at fun o e => Heap.get?_push_of_some _ e⟩ fun h₁ tk₁ hk => wpAny_execs_nil ?_
  have hI0 : h₀.get? s.heap.objs.size = none := next_is_new F
  refine done h₁ tk₁ ⟨(F.push _).ns.at' fun o e => hk _ o (by simp only [List.mem_singleton]; exact Nat.ne_of_lt F.ns.lt) e, fun b o e => hk b o (fun hm => by rw [List.mem_singleton.mp hm, hI0] at e; cases e) ((F.push _).keep b o e), F.above⟩
    fun p hp => ⟨hk _ _ (by simp only [List.mem_singleton]; exact Nat.ne_of_lt (hlt p hp)) (Heap.get?_push_of_some _ (N p hp).1), (N p hp).2⟩
end
end Mine
end

section
open PySem PySem.W PyProof.Rows PySem.Spec PySem.Calls
set_option maxRecDepth 100000
set_option maxHeartbeats 8000000
namespace Mine
section
variable {M : Model} {A : Around} {E : Value → Shared → Prop} {s : Shared}
/-- a slice of an int is refused -/
theorem int_no_item {value : Expr} {lo hi : Option Expr} {p : Pos} {x : Int} {t : Tok} {i : Value} {Q : Value → Shared → Prop} (hh : A.handled = none)
    (h : ∀ h' tk e, Heap.NewExc s.heap h' e "TypeError" → E (.ref e) { s with heap := h', toks := tk }) :
    wpAny M A (subscriptTail value (.Slice lo hi none p) (.int x t) i) Q E s := by
  have hT : s.TypeIs (.int x t) "int" := rfl
  have hl : typeLookup (.type "int") (Str.ofString "__getitem__") = pure none := by rw [typeLookup_type, builtinLookup_eq_fast]; kernel_rfl
  unfold subscriptTail
  refine wpAny_bind ?_
  rw [getitemInPython_of_ne hT.not_modules]
  refine wpAny_bind (wpAny_specialOf hT hl ?_)
  refine wpAny_pure ?_
  refine wpAny_bind ?_
  show wpAny M A (operate [i, .int x t] (getItem (.int x t) i)) _ E s
  refine wpAny_operating ?_
  unfold getItem
  refine wpAny_holding ?_
  unfold sequenceKey
  refine wpAny_bind (wpAny_bind (wpAny_typeOf hT ?_))
  have e1 : (!seqItemTypes.contains "int") = true := by decide +kernel
  simp only [e1, if_true]
  refine wpAny_pure ?_
  refine wpAny_bind (wpAny_callSpecial?_none hT hl ?_)
  refine wpAny_bind ?_
  refine wpAny_of_eq (a := false) rfl ?_
  simp only [Bool.false_eq_true, if_false]
  refine wpAny_bind (wpAny_typeNameOf' hT (by decide) ?_)
  refine wpAny_raiseTypeError hh h ?_
  decide +kernel
end
section
variable {M : Model} {A : Around} {c : ClaimW} {cl : Str → Option Addr} {args : List WData} {s₁ s' : Shared} {name : Str} {scope : Scope} {L a e : Addr} {cd : Value} {m : Str → Option Value} {h h₀ : Heap}
/-- an exception made anew leaves a frame with cells -/
theorem leaveI {cls : String} (hfr : A.frames = some []) (F : Fr s₁.heap L h m) (hx : Heap.NewExc h s'.heap e cls) (hg : s'.gens = #[]) (hr : c.raises args (.builtin cls) = true)
    (hos : s'.os = s₁.os := by rfl) (hkf : scope.kind = .function := by rfl) :
    wpAny M (A.deeper (envOfC name scope L a cd)) (leaving (envOfC name scope L a cd) (.ref e)) (fun _ s'' => GoodW c cl (ExcName.means h₀) args s₁ (.error (.ref e)) s'') (fun e' s'' => GoodW c cl (ExcName.means h₀) args s₁ (.error e') s'') s' := by
  obtain ⟨oL, _, _, hL, _⟩ := F.ns
  obtain ⟨ob, tp, he, hcls, hd⟩ := hx.there
  have hLe : L ≠ e := fun q => by have h0 := hx.new; rw [← q, hL] at h0; cases h0
  have hnew : s₁.heap.get? e = none := by
    cases hq : s₁.heap.get? e with
    | none => rfl
    | some o' => have := F.keep e o' hq; rw [hx.new] at this; cases this
  refine wpAny_leaving_new (L := L) (by show A.frames.map _ = _; rw [hfr]; rfl) rfl (hx.keeps _ _ hL) he hLe hd rfl fun h₄ hk ⟨o', ho', hc'⟩ => ?_
  exact ⟨.inr ⟨e, o', .builtin cls, rfl, ho', by rw [hc'.trans hcls]; rfl, hr, hnew⟩, fun b o' hb =>
    hk b o' (Nat.ne_of_lt (Nat.lt_of_lt_of_le (Heap.lt_size hb) F.above)) (fun q => by rw [q, hnew] at hb; cases hb) (hx.keeps _ _ (F.keep b o' hb)), hos, hg⟩
end
end Mine
end

section
set_option Elab.async true
open PySem PySem.W PyProof.Rows PySem.Spec PySem.Calls
set_option maxRecDepth 100000
set_option maxHeartbeats 8000000
namespace Mine
/-- a row of my own over the same program: law of an int raises TypeError -/
abbrev rowI : OpenRow := { PySem.Challenge.rw_sr0079_01.row with
  args := [.int], pre := .lit (.bool true), post := .lit (.bool true), raises := [(.builtin "TypeError", .lit (.bool true))] }
theorem thr.tw327232131215264848 : True := trivial
theorem thr.tw1286122867582016707 : True := trivial
theorem thr.tw2559372723346971851 : True := trivial
theorem thr.tw9269099016500612497 : True := trivial
theorem thr.tw11211339057798039992 : True := trivial
theorem thr.tw16567371179690886331 : True := trivial
theorem thr.tw11042712607776912395 : True := trivial
theorem thr.tw7259518634938076129 : True := trivial
theorem thr.tw7575498738305452359 : True := trivial
theorem thr.tw7133691990101966143 : True := trivial
theorem thr.tw12651693113548368317 : True := trivial
theorem thr.tw9511389223047076099 : True := trivial
theorem thr.tw6924888108972637614 : True := trivial
theorem thr.tw10103069205970046396 : True := trivial
theorem thr.tw5029902131932158180 : True := trivial
theorem thr.tw7523877369707504538 : True := trivial
theorem thr.tw15297142130237851110 : True := trivial
theorem thr.tw14319171499545210442 : True := trivial
theorem thr.tw12010117209535183876 : True := trivial
theorem thr.tw15010362081277713541 : True := trivial
theorem thr.tw536145050283912176 : True := trivial
theorem thr.tw16795797110984774490 : True := trivial
theorem thr.tw13202514062438146792 : True := trivial
theorem thr.tw17032313771408838745 : True := trivial
theorem thr.tw14288353745069635721 : True := trivial
theorem thr.tw6978055898893436095 : True := trivial
theorem thr.tw1375942674533010161 : True := trivial
theorem thr.tw6385689262602535585 : True := trivial
theorem thr.tw11957763995556158620 : True := trivial
theorem thr.tw10409660541342159190 : True := trivial
theorem thr.tw6338150276439348372 : True := trivial
theorem thr.tw1203462048213028749 : True := trivial
theorem thr.tw17346003716499147875 : True := trivial
theorem thr.tw10074373882519144290 : True := trivial
theorem thr.tw7452356901904157956 : True := trivial
theorem thr.tw16267922754780006028 : True := trivial
theorem thr.tw4297694216003815772 : True := trivial
theorem thr.tw14932711850980427317 : True := trivial
theorem thr.tw214689304630711762 : True := trivial
theorem thr.tw17039302454362265472 : True := trivial
theorem thr.tw6063636101911080173 : True := trivial
theorem thr.tw9678486646660726305 : True := trivial
theorem thr.tw7026119811656343784 : True := trivial
theorem thr.tw205641894510913777 : True := trivial
theorem thr.tw14348192958264624127 : True := trivial
theorem thr.tw13325487086609034996 : True := trivial
theorem thr.tw7872939918141410713 : True := trivial
theorem thr.tw10434071693323318852 : True := trivial
theorem thr.tw16179251845766804461 : True := trivial
theorem thr.tw7196758185285798001 : True := trivial
theorem thr.tw8878461816165040287 : True := trivial
theorem thr.tw1060152604634305970 : True := trivial
theorem thr.tw7413603469806970827 : True := trivial
theorem thr.tw3949859897425152877 : True := trivial
theorem thr.tw4663083775711371079 : True := trivial
theorem thr.tw15091890187343027196 : True := trivial
theorem thr.tw6729242586708502924 : True := trivial
theorem thr.tw2572676253253472946 : True := trivial
theorem thr.tw6886494116041601292 : True := trivial
theorem thr.tw12622899448148224454 : True := trivial
theorem thr.tw8502678420267784649 : True := trivial
theorem thr.tw2901257648005201944 : True := trivial
theorem thr.tw7432006001836527880 : True := trivial
theorem thr.tw12792842221929030828 : True := trivial
theorem thr.tw3711421915915159084 : True := trivial
theorem thr.tw16116895808190823309 : True := trivial
theorem thr.tw13132301699424527199 : True := trivial
theorem thr.tw9271319406723619367 : True := trivial
theorem thr.tw13278132197135537439 : True := trivial
theorem thr.tw15485548383536346867 : True := trivial
theorem thr.tw4165256093187243318 : True := trivial
theorem thr.tw13029384194518111041 : True := trivial
theorem thr.tw17156776050497381135 : True := trivial
theorem thr.tw8178760237599459827 : True := trivial
theorem thr.tw5701785564945362327 : True := trivial
theorem thr.tw5386194027959579211 : True := trivial
theorem thr.tw8005962024528761066 : True := trivial
theorem thr.tw8746680556712489916 : True := trivial
theorem thr.tw11809611781827034917 : True := trivial
theorem thr.tw5600484425110530811 : True := trivial
theorem thr.tw16798061006912410954 : True := trivial
theorem thr.tw2588536549654720471 : True := trivial
theorem thr.tw3289503577970635188 : True := trivial
theorem thr.tw13750782537606378029 : True := trivial
theorem thr.tw12456454936992358158 : True := trivial
theorem thr.tw1620064111800817137 : True := trivial
theorem thr.tw4895353654308020733 : True := trivial
theorem thr.tw6490695490786771368 : True := trivial
theorem thr.tw8199834802952732901 : True := trivial
theorem thr.tw13322736928196123753 : True := trivial
theorem thr.tw2477584813039825496 : True := trivial
theorem thr.tw6148179034357049645 : True := trivial
theorem thr.tw3204854201769473533 : True := trivial
theorem thr.tw7854140492841001995 : True := trivial
theorem thr.tw17991597434089414348 : True := trivial
theorem thr.tw3276590036954545059 : True := trivial
theorem thr.tw18074350951861786837 : True := trivial
theorem thr.tw17478799977833810388 : True := trivial
theorem thr.tw12825026270256209115 : True := trivial
theorem thr.tw10479289066939513793 : True := trivial
theorem thr.tw18421984786510358708 : True := trivial
theorem thr.tw2059023705349843535 : True := trivial
theorem thr.tw5724411915763554287 : True := trivial
theorem thr.tw8443201880281951285 : True := trivial
theorem thr.tw4549942591750480229 : True := trivial
theorem thr.tw17455593123427836139 : True := trivial
theorem thr.tw9987868301388913486 : True := trivial
theorem thr.tw9109274149681053518 : True := trivial
theorem thr.tw9432367659875039303 : True := trivial
theorem thr.tw12934786836597363615 : True := trivial
theorem thr.tw5669128109430381685 : True := trivial
theorem thr.tw9530136252098443046 : True := trivial
theorem thr.tw9446534929494114824 : True := trivial
theorem thr.tw18089387783747919734 : True := trivial
theorem thr.tw1362383847605540782 : True := trivial
theorem thr.tw15374111038119523150 : True := trivial
theorem thr.tw8532098527086905557 : True := trivial
theorem thr.tw1206293191170274537 : True := trivial
theorem thr.tw10700571799199051999 : True := trivial
theorem thr.tw5827286583653301321 : True := trivial
theorem thr.tw12215378215123804753 : True := trivial
theorem thr.tw686403534859892346 : True := trivial
theorem thr.tw8741822400272846383 : True := trivial
theorem thr.tw6094181254867118508 : True := trivial
theorem thr.tw13608883651932914334 : True := trivial
theorem thr.tw1524043926461101699 : True := trivial
theorem thr.tw9080768033766354708 : True := trivial
theorem thr.tw8213931841148046173 : True := trivial
theorem thr.tw10983470392418319254 : True := trivial
theorem thr.tw7352281914218870480 : True := trivial
theorem thr.tw4788506942437530180 : True := trivial
theorem thr.tw213492459500378910 : True := trivial
theorem thr.tw14216440218587037051 : True := trivial
theorem thr.tw14615272822211766329 : True := trivial
theorem thr.tw16011254024761276425 : True := trivial
theorem thr.tw15508351030796815838 : True := trivial
theorem thr.tw5895608570859619105 : True := trivial
theorem thr.tw4394810839859746793 : True := trivial
theorem thr.tw15016184919170721591 : True := trivial
theorem thr.tw11094588748314928878 : True := trivial
theorem thr.tw709896644035074576 : True := trivial
theorem thr.tw2247491833567018333 : True := trivial
theorem thr.tw508083095892460430 : True := trivial
theorem thr.tw1797215654278890517 : True := trivial
theorem thr.tw7916178300107157194 : True := trivial
theorem thr.tw7134036219471199867 : True := trivial
theorem thr.tw4159348973665799399 : True := trivial
theorem thr.tw8492171237802893716 : True := trivial
theorem thr.tw13152872654807965634 : True := trivial
theorem thr.tw9873087907653962749 : True := trivial
theorem thr.tw5813868699671511971 : True := trivial
theorem thr.tw12622452899017688555 : True := trivial
theorem thr.tw5541996782073880585 : True := trivial
theorem thr.tw5859395825966028437 : True := trivial
theorem thr.tw16247468019195052177 : True := trivial
theorem thr.tw5659755231555314749 : True := trivial
theorem thr.tw12044416603677930557 : True := trivial
theorem thr.tw8775291371110343881 : True := trivial
theorem thr.tw7086558888835634003 : True := trivial
theorem thr.tw17116745073150976273 : True := trivial
theorem thr.tw14042907992580692586 : True := trivial
theorem thr.tw1881215827432793649 : True := trivial
theorem thr.tw13055023746492051373 : True := trivial
theorem thr.tw14787274252603401927 : True := trivial
theorem thr.tw5005576807679560059 : True := trivial
theorem thr.tw15990104830523681788 : True := trivial
theorem thr.tw16821623791006921294 : True := trivial
theorem thr.tw14636541130218657801 : True := trivial
theorem thr.tw4720812533531888903 : True := trivial
theorem thr.tw8517807940110091881 : True := trivial
theorem thr.tw17112068170302601380 : True := trivial
theorem thr.tw15955407471474519290 : True := trivial
theorem thr.tw597047006176780977 : True := trivial
theorem thr.tw6088415264514673318 : True := trivial
theorem thr.tw12035323936143720681 : True := trivial
theorem thr.tw6891390129649579601 : True := trivial
theorem thr.tw8713464466252241666 : True := trivial
theorem thr.tw11640471819062333683 : True := trivial
theorem thr.tw1264505840002491336 : True := trivial
theorem thr.tw16850787925907869356 : True := trivial
theorem thr.tw3402820912073809914 : True := trivial
theorem thr.tw14201286785682634115 : True := trivial
theorem thr.tw11876755296279048932 : True := trivial
theorem thr.tw7310912768898565518 : True := trivial
theorem thr.tw8656988937751623843 : True := trivial
theorem thr.tw3563488130689338197 : True := trivial
theorem thr.tw11936275982097287517 : True := trivial
theorem thr.tw4718630106434652437 : True := trivial
theorem thr.tw1573637375420338939 : True := trivial
theorem thr.tw10198748924906319956 : True := trivial
theorem thr.tw3538926617913398245 : True := trivial
theorem thr.tw14935337410504304625 : True := trivial
theorem thr.tw10788181187264887361 : True := trivial
theorem thr.tw1797205940905571377 : True := trivial
theorem thr.tw535891088010462605 : True := trivial
theorem thr.tw6468095860464356506 : True := trivial
theorem thr.tw3792616744615034439 : True := trivial
theorem thr.tw14791112801102017556 : True := trivial
theorem thr.tw2866945004820186252 : True := trivial
theorem thr.tw9161454975464535338 : True := trivial
theorem thr.tw10741199520003926528 : True := trivial
theorem thr.tw14997711454681224731 : True := trivial
theorem thr.tw18123586715176735806 : True := trivial
theorem thr.tw3637188329328713628 : True := trivial
theorem thr.tw18034672175952316947 : True := trivial
theorem thr.tw14587265252836597111 : True := trivial
theorem thr.tw7191094387748859849 : True := trivial
theorem thr.tw6628394305308732541 : True := trivial
theorem thr.tw11411133528310561911 : True := trivial
theorem thr.tw15162584718864059601 : True := trivial
theorem thr.tw18227066999628629564 : True := trivial
theorem thr.tw2214922210952121274 : True := trivial
theorem thr.tw17376527342476401965 : True := trivial
theorem thr.tw492703114553532112 : True := trivial
theorem thr.tw6590558781927110758 : True := trivial
theorem thr.tw17200329128645582434 : True := trivial
theorem thr.tw3408701654175294528 : True := trivial
theorem thr.tw8442616256852242013 : True := trivial
theorem thr.tw2372690706473068142 : True := trivial
theorem thr.tw10060004629441292270 : True := trivial
theorem thr.tw4764341032772767059 : True := trivial
theorem thr.tw5410537650395991358 : True := trivial
theorem thr.tw12245467546432014556 : True := trivial
theorem thr.tw3196186276654629594 : True := trivial
theorem thr.tw12007342453242600687 : True := trivial
theorem thr.tw13548598585172023488 : True := trivial
theorem thr.tw10060964387421511156 : True := trivial
theorem thr.tw16077950177897913789 : True := trivial
theorem thr.tw18110978568506815979 : True := trivial
theorem thr.tw17503931671615904150 : True := trivial
theorem thr.tw12713982046719257900 : True := trivial
theorem thr.tw13282325663796515596 : True := trivial
theorem thr.tw1316620714016364120 : True := trivial
theorem thr.tw6613495510965792202 : True := trivial
theorem thr.tw10252222696875671035 : True := trivial
theorem thr.tw7876025134255028656 : True := trivial
theorem thr.tw11515798633617548435 : True := trivial
theorem thr.tw3858923245581184873 : True := trivial
theorem thr.tw13145333130586216977 : True := trivial
theorem thr.tw11982944774900368672 : True := trivial
theorem thr.tw12177624035483367095 : True := trivial
theorem thr.tw9677564863257072310 : True := trivial
theorem thr.tw8247983086353809494 : True := trivial
theorem thr.tw14238008062577583269 : True := trivial
theorem thr.tw14576019147206291320 : True := trivial
theorem thr.tw12803508461091156799 : True := trivial
theorem thr.tw11495408912951056419 : True := trivial
theorem thr.tw5023578364341941034 : True := trivial
theorem thr.tw13408903656222135836 : True := trivial
theorem thr.tw12643026354431851022 : True := trivial
theorem thr.tw9786509389492498802 : True := trivial
theorem thr.tw1942332850333265564 : True := trivial
theorem thr.tw12291339354339517473 : True := trivial
theorem thr.tw12151008635954816774 : True := trivial
theorem thr.tw10672689604431637442 : True := trivial
theorem thr.tw9629244600477083142 : True := trivial
theorem thr.tw16187917352110886968 : True := trivial
theorem thr.tw8269623756980224942 : True := trivial
theorem thr.tw10045884016119909410 : True := trivial
theorem thr.tw9452390778107668206 : True := trivial
theorem thr.tw12685283205801216607 : True := trivial
theorem thr.tw982622770146690152 : True := trivial
theorem thr.tw11425587768877877131 : True := trivial
theorem thr.tw16099370179840275579 : True := trivial
theorem thr.tw3744477460990078284 : True := trivial
theorem thr.tw12582526236965380088 : True := trivial
theorem thr.tw7808890723665710070 : True := trivial
theorem thr.tw8727365476977846340 : True := trivial
theorem thr.tw2643257063571132821 : True := trivial
theorem thr.tw911221654319260580 : True := trivial
theorem thr.tw6736162801268186361 : True := trivial
theorem thr.tw16434736775187268463 : True := trivial
theorem thr.tw11422045127231870913 : True := trivial
theorem thr.tw4312226017486563015 : True := trivial
theorem thr.tw16328029255980306261 : True := trivial
theorem thr.tw7023073906682559767 : True := trivial
theorem thr.tw17342085665229467744 : True := trivial
theorem thr.tw17184535186781315948 : True := trivial
theorem thr.tw11089146577739178019 : True := trivial
theorem thr.tw848752829344397533 : True := trivial
theorem thr.tw4940179427879114516 : True := trivial
theorem thr.tw9252034540439857776 : True := trivial
theorem thr.tw4325672583969158183 : True := trivial
theorem thr.tw933004295069735889 : True := trivial
theorem thr.tw704244137082929990 : True := trivial
theorem thr.tw13994942084231639902 : True := trivial
theorem thr.tw11659209161540836189 : True := trivial
theorem thr.tw2169937318229883349 : True := trivial
theorem thr.tw4287632440736289345 : True := trivial
theorem thr.tw14008631973287939251 : True := trivial
theorem thr.tw17198561289170641957 : True := trivial
theorem thr.tw11820156336070019236 : True := trivial
theorem thr.tw6083963932699569311 : True := trivial
theorem thr.tw9239986539437328274 : True := trivial
theorem thr.tw3856717258058372258 : True := trivial
theorem thr.tw7468679608476642271 : True := trivial
theorem thr.tw8285654331598171021 : True := trivial
theorem thr.tw13288620612578997976 : True := trivial
theorem thr.tw2476683466298311103 : True := trivial
theorem thr.tw9752920118978056579 : True := trivial
theorem thr.tw11095033491989484827 : True := trivial
theorem thr.tw6299316375871206888 : True := trivial
theorem thr.tw16375901470141964629 : True := trivial
theorem thr.tw11200550926615286042 : True := trivial
theorem thr.tw14894951759624333871 : True := trivial
theorem thr.tw5854347334410760323 : True := trivial
theorem thr.tw14930735500055925000 : True := trivial
theorem thr.tw8136883634498755441 : True := trivial
theorem thr.tw1638161106283637333 : True := trivial
theorem thr.tw1950343950438494663 : True := trivial
theorem thr.tw5284300527251149342 : True := trivial
theorem thr.tw10078337537661363708 : True := trivial
theorem thr.tw7611351985631566704 : True := trivial
theorem thr.tw9423408638548404336 : True := trivial
theorem thr.tw3802536378233446966 : True := trivial
theorem thr.tw3959223348415677146 : True := trivial
theorem thr.tw658638547099118674 : True := trivial
theorem thr.tw8421822471327973533 : True := trivial
theorem thr.tw18334278804519357603 : True := trivial
theorem thr.tw8095817113072396482 : True := trivial
theorem thr.tw18128653373974428956 : True := trivial
theorem thr.tw17305750335699526167 : True := trivial
theorem thr.tw4513394877380402329 : True := trivial
theorem thr.tw18347882621578526856 : True := trivial
theorem thr.tw13835558263148842869 : True := trivial
theorem thr.tw14904299783916490467 : True := trivial
theorem thr.tw4459026150957925579 : True := trivial
theorem thr.tw8961252211880141446 : True := trivial
theorem thr.tw7146208095940823581 : True := trivial
theorem thr.tw9736958982413504797 : True := trivial
theorem thr.tw485802735209089236 : True := trivial
theorem thr.tw2838715869895370729 : True := trivial
theorem thr.tw6585968804573254684 : True := trivial
theorem thr.tw4382880243149177456 : True := trivial
theorem thr.tw629281335763222787 : True := trivial
theorem thr.tw766136152783463703 : True := trivial
theorem thr.tw13879309998811957669 : True := trivial
theorem thr.tw11258223378049562973 : True := trivial
theorem thr.tw1684186524500053069 : True := trivial
theorem thr.tw5279650343247048384 : True := trivial
theorem thr.tw14599720125473942009 : True := trivial
theorem thr.tw5718734985988832703 : True := trivial
theorem thr : True := by
  refine (?f : rowI.Holds → True) ?h
  case f => exact fun _ => trivial
  w_on
  k_head
  case hw => exact ⟨[.int 0], by decide +kernel, by decide +kernel⟩
  k_go0
  k_fold
  repeat' ((fail_if_success (with_reducible show wpAny _ _ (pyIter _) _ _ _)); first | (k_unfold; (try dsimp only)) | (first | with_reducible ((with_reducible show wpAny _ _ (exec (Stmt.For (Expr.Tuple _ _ _) _ _ _ _) _) _ _ _); (k_here; k_dflt (refine wpAny_For ?_ (by intro _; with_unfolding_all rfl)))) | walk1) | (dsimp only; (first | with_reducible ((with_reducible show wpAny _ _ (exec (Stmt.For (Expr.Tuple _ _ _) _ _ _ _) _) _ _ _); (k_here; k_dflt (refine wpAny_For ?_ (by intro _; with_unfolding_all rfl)))) | walk1)) | (leave1; try dsimp only))
  rename News _ _ _ _ => N5
  rename Fr _ _ _ _ => F5
  refine loop_empty (nn := 0) (by rfl) F5 N5 (.head _) ?_
  intro h' tk F6 N6
  clear F5 N5
  dsimp only
  repeat' (first | (k_unfold; (try dsimp only)) | (first | with_reducible ((with_reducible show wpAny _ _ (exec (Stmt.For (Expr.Tuple _ _ _) _ _ _ _) _) _ _ _); (k_here; k_dflt (refine wpAny_For ?_ (by intro _; with_unfolding_all rfl)))) | walk1) | (dsimp only; (first | with_reducible ((with_reducible show wpAny _ _ (exec (Stmt.For (Expr.Tuple _ _ _) _ _ _ _) _) _ _ _); (k_here; k_dflt (refine wpAny_For ?_ (by intro _; with_unfolding_all rfl)))) | walk1)) | (leave1; try dsimp only))
  refine int_no_item (by rfl) ?_
  intro h' tk e hx
  (try dsimp only)
  repeat (k_unfold; (try dsimp only))
  rename Fr _ _ _ _ => FZ
  refine leaveI (cls := "TypeError") rfl (FZ.push _) hx ?g ?r rfl rfl
  case g => assumption
  case r => exact raisesW_true (.head _) rfl
end Mine

set_option Elab.async false
end

open PySem PySem.W PyProof.Rows PySem.Spec PySem.Calls
local macro_rules | `(tactic| ktr_room) => `(tactic| ((try simp only [depth_under_make, depth_under_kw, depth_in1, depth_deeper, depth_caller]); (try dsimp only [ktrTop]); with_reducible first | exact Mine.roomA (by assumption) (by decide) | exact Mine.roomB (by assumption) (by decide) | exact Mine.roomC (by assumption) | fail))
local macro_rules | `(tactic| ktr_units) => `(tactic| ((try simp only [units_in1, units_deeper, Around.mark_units, units_caller]); (try dsimp only [ktrTop]); with_reducible first | exact Mine.roomA (by assumption) (by decide) | exact Mine.roomB (by assumption) (by decide) | exact Mine.roomC (by assumption) | fail))
local macro_rules | `(tactic| k_ne) => `(tactic| (refine neN ?_; (try dsimp only); with_reducible first | assumption | exact Ne.symm (by assumption) | (apply Nat.ne_of_gt; first | assumption | (apply And.left; iterate 14 (try first | assumption | apply And.right); done))))
section
open PySem PySem.W PyProof.Rows PySem.Spec PySem.Calls
set_option maxRecDepth 100000
set_option maxHeartbeats 8000000
namespace Mine
/-- a contract of a def: what a call of it hands back, and the ledger behind it -/
noncomputable abbrev Con (n : Nat) (w : World) (mean : ExcName → Option Value) (mg mb : Str → Option Value) (f : Addr) (news : List (Addr × Obj)) (vs : List Value) (kw : List (Str × Value)) (pre : Shared → Prop) (Ret : Value → List (Addr × Obj) → Prop) : Prop :=
  ∀ (dp un : Nat) (gd : Option (List Code)) (cn : Str) (cns : List (Str × NameKind)) (cig cic : Bool) (cmo : List (Str × Const)) (a : Addr) (ccd : Value) (cl : List (Str × Addr)) (outer : List Env) (A₀ : Around) (base h₀ : Heap) (L : Addr) (m : Str → Option Value) (s : Shared) (Q E : Value → Shared → Prop),
    Below A₀ base outer h₀ → Fr h₀ L s.heap m → (thr.heap_1_1 w.params).In h₀ → News h₀ L s.heap news →
    Top thr.view_1_2 (looseW thr.view_1_2 [Str.ofString "EXACT_TOKEN_TYPES", Str.ofString "tspecials", Str.ofString "_name_disallowed_re", Str.ofString "_value_disallowed_re", Str.ofString "_formatparam"]) mean mg mb h₀ →
    pre s → dp + n < recursionLimit → un + 10 * n < cLine →
    (∀ r news' h' tk', Fr h₀ L h' m → News h₀ L h' news' → Ret r news' → Q r { s with heap := h', toks := tk' }) →
    wpAny (model PySem.Challenge.rw_sr0079_01.row.prog w) (ktrTop dp un gd cn { kind := .function, names := cns, isGenerator := cig, isCoroutine := cic, more := cmo } L a ccd cl outer) (call (.ref f) vs kw) Q E s

noncomputable abbrev tup3 (x y z : UInt64) (t1 t2 t3 : Tok) : Obj := { cls := .type "tuple", data := .seq #[.float x t1, .float y t2, .float z t3] }
end Mine
end

section
open PySem PySem.W PyProof.Rows PySem.Spec PySem.Calls
set_option maxRecDepth 100000
set_option maxHeartbeats 8000000
namespace Mine
section
variable {n : Nat} {w : World} {mean : ExcName → Option Value} {mg mb : Str → Option Value} {f : Addr} {news : List (Addr × Obj)} {vs : List Value} {kw : List (Str × Value)} {pre : Shared → Prop} {Ret : Value → List (Addr × Obj) → Prop}
  {dp un : Nat} {gd : Option (List Code)} {cn : Str} {cns : List (Str × NameKind)} {cig cic : Bool} {cmo : List (Str × Const)} {a : Addr} {ccd : Value} {cl : List (Str × Addr)} {outer : List Env} {A₀ : Around} {base h₀ : Heap} {L : Addr} {m : Str → Option Value} {s : Shared} {Q E : Value → Shared → Prop}
theorem use (C : Con n w mean mg mb f news vs kw pre Ret) (B : Below A₀ base outer h₀) (F : Fr h₀ L s.heap m) (X : (thr.heap_1_1 w.params).In h₀) (N : News h₀ L s.heap news)
    (T : Top thr.view_1_2 (looseW thr.view_1_2 [Str.ofString "EXACT_TOKEN_TYPES", Str.ofString "tspecials", Str.ofString "_name_disallowed_re", Str.ofString "_value_disallowed_re", Str.ofString "_formatparam"]) mean mg mb h₀)
    (hp : pre s) (hd : dp + n < recursionLimit) (hu : un + 10 * n < cLine)
    (h : ∀ r news' h' tk', Fr h₀ L h' m → News h₀ L h' news' → Ret r news' → Q r { s with heap := h', toks := tk' }) :
    wpAny (model PySem.Challenge.rw_sr0079_01.row.prog w) (ktrTop dp un gd cn { kind := .function, names := cns, isGenerator := cig, isCoroutine := cic, more := cmo } L a ccd cl outer) (call (.ref f) vs kw) Q E s :=
  C _ _ _ _ _ _ _ _ _ _ _ _ _ _ _ _ _ _ _ _ B F X N T hp hd hu h
end
section
variable {M : Model} {A : Around} {E : Value → Shared → Prop} {Q : Flow → Shared → Prop} {st : Stmt} {rest : List Stmt} {env : Env}
/-- the next statement, the count of tokens kept above nought -/
theorem cons_pos {hp : Heap} {g : Array GenState} {d : Drawn} {x : Nat} {os : OsState} (h : ∀ tk, wpAny M A (exec st env) (fun f s' => match f with | .next => wpAny M A (execs rest env) Q E s' | f => Q f s') E ⟨hp, g, d, tk + 1, os⟩) :
    wpAny M A (execs (st :: rest) env) Q E ⟨hp, g, d, x + 1, os⟩ := wpAny_execs_cons (h x)
end
end Mine
end

section
open PySem PySem.W PyProof.Rows PySem.Spec PySem.Calls
set_option maxRecDepth 100000
set_option maxHeartbeats 8000000
namespace Mine
theorem map2 {m₀ m₁ : PySem.Str → Option Value} {xv xk : PySem.Str} {a b : Option Value} (h : ∀ y, y ≠ xv → y ≠ xk → m₁ y = m₀ y) :
    (fun y => if y = xv then a else if y = xk then b else m₁ y) = fun y => if y = xv then a else if y = xk then b else m₀ y := by
  funext y
  by_cases h1 : y = xv
  · simp [h1]
  · by_cases h2 : y = xk
    · simp [h2]
    · simp [h1, h2, h y h1 h2]
theorem map2' {m₀ m₁ : PySem.Str → Option Value} {xv xk : PySem.Str} (h : ∀ y, y ≠ xv → y ≠ xk → m₁ y = m₀ y) :
    m₁ = fun y => if y = xv then m₁ xv else if y = xk then m₁ xk else m₀ y := by
  funext y
  by_cases h1 : y = xv
  · simp [h1]
  · by_cases h2 : y = xk
    · subst h2; simp [h1]
    · simp [h1, h2, h y h1 h2]
section
variable {prog : Program} {w : World} {A : Around} {s : Shared} {env : Env} {h₀ : Heap}
/-- the end of a turn that has put one text behind the list l -/
inductive PartEnd (h₀ : Heap) (L : Addr) (m : PySem.Str → Option Value) (xv xk : PySem.Str) (a : Addr × Obj) (l : Addr) (ps : Array Value) (tl : List (Addr × Obj)) (T : PySem.Str) (s₁ : Shared) (f : Flow) (s₂ : Shared) : Prop
  | intro (e0 : f = .next) (h' : Heap) (tk : Nat) (m' : PySem.Str → Option Value) (t : Tok) (n : Nat) (e : s₂ = { s₁ with heap := h', toks := tk }) (F : Fr h₀ L h' m') (hm : ∀ y, y ≠ xv → y ≠ xk → m' y = m y) (N : News h₀ L h' (a :: (l, listOf (ps.push (.str T t)) n) :: tl)) : PartEnd h₀ L m xv xk a l ps tl T s₁ f s₂
theorem PartEnd.mk {L : Addr} {m : PySem.Str → Option Value} {xv xk : PySem.Str} {a : Addr × Obj} {l : Addr} {ps : Array Value} {tl : List (Addr × Obj)} {T : PySem.Str} {s₁ : Shared} {h' : Heap} {tk : Nat} {m' : PySem.Str → Option Value} {t : Tok} {n : Nat}
    (F : Fr h₀ L h' m') (N : News h₀ L h' (a :: (l, listOf (ps.push (.str T t)) n) :: tl)) (hm : ∀ y, y ≠ xv → y ≠ xk → m' y = m y) : PartEnd h₀ L m xv xk a l ps tl T s₁ .next { s₁ with heap := h', toks := tk } :=
  ⟨rfl, h', tk, m', t, n, rfl, F, hm, N⟩
theorem loop_parts {Q : Flow → Shared → Prop} {Er : Value → Shared → Prop} {E : Value → Shared → Prop} {xk xv : PySem.Str} {pk pv pt : Pos} {x1 : Nat} {body : List Stmt} {d vw l : Addr} {a : Addr × Obj} {o : Obj} {k0 k1 T1 T2 : PySem.Str} {d0 d1 : PyData} {m : PySem.Str → Option Value} {ps : Array Value} {n0 : Nat} {tl : List (Addr × Obj)}
    (hh : A.handled = none) (hxk : env.kindOf xk = some .local) (hxv : env.kindOf xv = some .local)
    (hp : (env.scope.kind == .class || (env.scope.kind == .module && env.locals != env.globals)) = false)
    (hvw : ∃ ov, s.heap.get? vw = some ov ∧ ov.cls = .type "dict_items" ∧ ov.data = .fields #[.ref d]) (T : StrTab prog w s.heap d [(.str k0, d0), (.str k1, d1)])
    (F : Fr h₀ env.locals s.heap m) (N : News h₀ env.locals s.heap (a :: (l, listOf ps n0) :: tl)) (hd : (d, o) ∈ tl) (htl : ∀ p ∈ tl, p.1 ≠ l)
    (first : ∀ v t s₁ own, PyProof.V.Flat v d0 → (∀ p ∈ tl ++ own, p.1 ≠ l) → Fr h₀ env.locals s₁.heap (fun y => if y = xv then some v else if y = xk then some (.str k0 t) else m y) → News h₀ env.locals s₁.heap (a :: (l, listOf ps n0) :: (tl ++ own)) →
      wpAny (model prog w) A (execs body env) (PartEnd h₀ env.locals m xv xk a l ps (tl ++ own) T1 s₁) (fun _ _ => False) s₁)
    (second : ∀ v t t1 n1 s₁ own, PyProof.V.Flat v d1 → (∀ p ∈ tl ++ own, p.1 ≠ l) → Fr h₀ env.locals s₁.heap (fun y => if y = xv then some v else if y = xk then some (.str k1 t) else m y) → News h₀ env.locals s₁.heap (a :: (l, listOf (ps.push (.str T1 t1)) n1) :: (tl ++ own)) →
      wpAny (model prog w) A (execs body env) (PartEnd h₀ env.locals m xv xk a l (ps.push (.str T1 t1)) (tl ++ own) T2 s₁) (fun _ _ => False) s₁)
    (done : ∀ (u : PySem.Str → Option Value) h' tk t1 t2 n, Fr h₀ env.locals h' (fun y => if y = xv then u xv else if y = xk then u xk else m y) → News h₀ env.locals h' (a :: (l, listOf ((ps.push (.str T1 t1)).push (.str T2 t2)) n) :: tl) → Q .next { s with heap := h', toks := tk }) :
    wpAny (model prog w) A (pyIter (.ref vw)) (fun it s₂ => codeAny (model prog w) A (.forLoop (.Tuple [.Name xk pk, .Name xv pv] x1 pt) it body [] env) (fun r s' => match r with | .ok f => Q f s' | .error e => Er e s') s₂) E s := by
  have hal : a.1 ≠ l → True := fun _ => trivial
  have own_off : ∀ {I : Addr} {own : List (Addr × Obj)}, (∀ p ∈ own, p.1 = I) → (∀ p ∈ a :: (l, listOf ps n0) :: tl, @LT.lt Nat _ p.1 I) → ∀ p ∈ tl ++ own, p.1 ≠ l := by
    intro I own ho hl p hp e
    rcases List.mem_append.mp hp with h | h
    · exact htl p h e
    · have h1 := hl (l, listOf ps n0) (List.mem_cons_of_mem _ (List.mem_cons_self ..))
      have h2 : p.1 = I := ho p h
      rw [e] at h2
      exact absurd h1 (h2 ▸ Nat.lt_irrefl _)
  refine loop_items2 hh hxk hxv hp hvw T F N (List.mem_cons_of_mem _ (List.mem_cons_of_mem _ hd))
    (fun m' nw => (∀ y, y ≠ xv → y ≠ xk → m' y = m y) ∧ ∃ t n, nw = a :: (l, listOf (ps.push (.str T1 t)) n) :: tl)
    (fun m' nw => (∀ y, y ≠ xv → y ≠ xk → m' y = m y) ∧ ∃ t1 t2 n, nw = a :: (l, listOf ((ps.push (.str T1 t1)).push (.str T2 t2)) n) :: tl) ?_ ?_ ?_
  · intro v t s₁ I own hfl ho hl F₁ N₁
    have hall := own_off ho hl
    refine wpAny_mono (first v t s₁ own hfl hall F₁ (by simpa only [List.cons_append] using N₁)) (fun f s₂ h₂ => ?_) fun _ _ e => e
    obtain ⟨rfl, h', tk, m', t', n', rfl, F', hm, N'⟩ := h₂
    refine ⟨rfl, h', tk, m', a :: (l, listOf (ps.push (.str T1 t')) n') :: tl, rfl, F', by simpa only [List.cons_append] using N', ?_, ?_, hm, t', n', rfl⟩
    · intro p hp
      rw [List.mem_singleton.mp hp]
      exact List.mem_cons_of_mem _ (List.mem_cons_of_mem _ hd)
    · intro p hp e
      rcases List.mem_cons.mp hp with rfl | hp
      · exact absurd (hl _ (List.mem_cons_self ..)) (e ▸ Nat.lt_irrefl _)
      · rcases List.mem_cons.mp hp with rfl | hp
        · exact absurd (hl (l, listOf ps n0) (List.mem_cons_of_mem _ (List.mem_cons_self ..))) ((show l = I from e) ▸ Nat.lt_irrefl _)
        · exact absurd (hl _ (List.mem_cons_of_mem _ (List.mem_cons_of_mem _ hp))) (e ▸ Nat.lt_irrefl _)
  · rintro v t m₁ news₁ s₁ I own hfl ho ⟨hm, t1, n1, rfl⟩ _ hl _ F₁ N₁
    have hall := own_off ho hl
    rw [map2 hm] at F₁
    refine wpAny_mono (second v t t1 n1 s₁ own hfl hall F₁ (by simpa only [List.cons_append] using N₁)) (fun f s₂ h₂ => ?_) fun _ _ e => e
    obtain ⟨rfl, h', tk, m', t', n', rfl, F', hm', N'⟩ := h₂
    refine ⟨rfl, h', tk, m', a :: (l, listOf ((ps.push (.str T1 t1)).push (.str T2 t')) n') :: tl, rfl, F', by simpa only [List.cons_append] using N', ?_, ?_, hm', t1, t', n', rfl⟩
    · intro p hp
      rw [List.mem_singleton.mp hp]
      exact List.mem_cons_of_mem _ (List.mem_cons_of_mem _ hd)
    · intro p hp e
      rcases List.mem_cons.mp hp with rfl | hp
      · exact absurd (hl _ (List.mem_cons_self ..)) (e ▸ Nat.lt_irrefl _)
      · rcases List.mem_cons.mp hp with rfl | hp
        · exact absurd (hl (l, listOf ps n0) (List.mem_cons_of_mem _ (List.mem_cons_self ..))) ((show l = I from e) ▸ Nat.lt_irrefl _)
        · exact absurd (hl _ (List.mem_cons_of_mem _ (List.mem_cons_of_mem _ hp))) (e ▸ Nat.lt_irrefl _)
  · rintro m' nw h' tk ⟨hm, t1, t2, n, rfl⟩ F' N'
    rw [map2' hm] at F'
    exact done m' h' tk t1 t2 n F' N'
/-- what one item puts: a text of one sign, or none -/
inductive PartV (code nm : PySem.Str → Bool) (one : PySem.Str → Bool) : PySem.Str → PySem.Str → PyData → Prop
  | text (k p c : PySem.Str) (hkr : Txt.replace k (PySem.Str.ofString "_") (PySem.Str.ofString "-") = p) (hkl : k.length ≤ 1048576) (hkn : nm k = true) (hpl : p.length ≤ 10) (he : code c = true) (he1 : c.length = 1) (he2 : one c = true) :
      PartV code nm one k (p ++ PySem.Str.ofString "=\"" ++ c ++ PySem.Str.ofString "\"") (PyData.str c)
  | none (k p : PySem.Str) (hkr : Txt.replace k (PySem.Str.ofString "_") (PySem.Str.ofString "-") = p) (hkl : k.length ≤ 1048576) (hkn : nm k = true) : PartV code nm one k p PyData.none
theorem loop_partsS {cd nm on : PySem.Str → Bool} {Q : Flow → Shared → Prop} {Er : Value → Shared → Prop} {E : Value → Shared → Prop} {xk xv : PySem.Str} {pk pv pt : Pos} {x1 : Nat} {body : List Stmt} {d vw l : Addr} {a : Addr × Obj} {o : Obj} {k0 k1 T1 T2 : PySem.Str} {d0 d1 : PyData} {m : PySem.Str → Option Value} {ps : Array Value} {n0 : Nat} {tl : List (Addr × Obj)}
    (hh : A.handled = none) (hxk : env.kindOf xk = some .local) (hxv : env.kindOf xv = some .local)
    (hp : (env.scope.kind == .class || (env.scope.kind == .module && env.locals != env.globals)) = false)
    (hvw : ∃ ov, s.heap.get? vw = some ov ∧ ov.cls = .type "dict_items" ∧ ov.data = .fields #[.ref d]) (T : StrTab prog w s.heap d [(.str k0, d0), (.str k1, d1)])
    (F : Fr h₀ env.locals s.heap m) (N : News h₀ env.locals s.heap (a :: (l, listOf ps n0) :: tl)) (hd : (d, o) ∈ tl) (htl : ∀ p ∈ tl, p.1 ≠ l)
    (hz : ps.size ≤ 99) (V1 : PartV cd nm on k0 T1 d0) (V2 : PartV cd nm on k1 T2 d1)
    (turn : ∀ k T d v t ps n s₁ own, PartV cd nm on k T d → PyProof.V.Flat v d → ps.size ≤ 100 → (∀ p ∈ tl ++ own, p.1 ≠ l) → Fr h₀ env.locals s₁.heap (fun y => if y = xv then some v else if y = xk then some (.str k t) else m y) → News h₀ env.locals s₁.heap (a :: (l, listOf ps n) :: (tl ++ own)) →
      wpAny (model prog w) A (execs body env) (PartEnd h₀ env.locals m xv xk a l ps (tl ++ own) T s₁) (fun _ _ => False) s₁)
    (done : ∀ (u : PySem.Str → Option Value) h' tk t1 t2 n, Fr h₀ env.locals h' (fun y => if y = xv then u xv else if y = xk then u xk else m y) → News h₀ env.locals h' (a :: (l, listOf ((ps.push (.str T1 t1)).push (.str T2 t2)) n) :: tl) → Q .next { s with heap := h', toks := tk }) :
    wpAny (model prog w) A (pyIter (.ref vw)) (fun it s₂ => codeAny (model prog w) A (.forLoop (.Tuple [.Name xk pk, .Name xv pv] x1 pt) it body [] env) (fun r s' => match r with | .ok f => Q f s' | .error e => Er e s') s₂) E s :=
  loop_parts hh hxk hxv hp hvw T F N hd htl (fun v t s₁ own h1 h2 h3 h4 => turn k0 T1 d0 v t ps n0 s₁ own V1 h1 (Nat.le_trans hz (by decide)) h2 h3 h4) (fun v t t1 n1 s₁ own h1 h2 h3 h4 => turn k1 T2 d1 v t _ n1 s₁ own V2 h1 (by rw [Array.size_push]; exact Nat.succ_le_succ hz) h2 h3 h4) done
end
end Mine
end

section
open PySem PySem.W PyProof.Rows PySem.Spec PySem.Calls
namespace Mine
theorem of_allLt {d : Addr} : ∀ {l : List (Addr × Obj)}, AllLt d l → ∀ p ∈ l, @LT.lt Nat _ p.1 d
  | [], _, _, hp => nomatch hp
  | _ :: _, h, p, hp => by
    rcases List.mem_cons.mp hp with rfl | hp
    · exact h.1
    · exact of_allLt h.2 p hp
theorem allLt_ne {a : Addr} {l : List (Addr × Obj)} (h : AllLt a l) : ∀ p ∈ l, p.1 ≠ a := fun p hp => Nat.ne_of_lt (of_allLt h p hp)
theorem allLt_ne1 {a : Addr} {l : List (Addr × Obj)} (h : AllLt a l) : ∀ p ∈ l, p.1 ≠ a + 1 := fun p hp => Nat.ne_of_lt (Nat.lt_succ_of_lt (of_allLt h p hp))
theorem allLt_ne2 {a : Addr} {l : List (Addr × Obj)} (h : AllLt a l) : ∀ p ∈ l, p.1 ≠ a + 1 + 1 := fun p hp => Nat.ne_of_lt (Nat.lt_succ_of_lt (Nat.lt_succ_of_lt (of_allLt h p hp)))
theorem allLt_ne3 {a : Addr} {l : List (Addr × Obj)} (h : AllLt a l) : ∀ p ∈ l, p.1 ≠ a + 1 + 1 + 1 := fun p hp => Nat.ne_of_lt (Nat.lt_succ_of_lt (Nat.lt_succ_of_lt (Nat.lt_succ_of_lt (of_allLt h p hp))))
end Mine
end

open PySem PySem.W PyProof.Rows PySem.Spec PySem.Calls
local macro_rules | `(tactic| k_room) => `(tactic| ktr_room)
local macro_rules | `(tactic| k_all) => `(tactic| first | assumption | exact Mine.allLt_ne (by assumption) | exact Mine.allLt_ne1 (by assumption) | exact Mine.allLt_ne2 (by assumption) | exact Mine.allLt_ne3 (by assumption))
local macro_rules | `(tactic| k_units) => `(tactic| ktr_units)
local macro_rules | `(tactic| units_room) => `(tactic| ktr_units)
local macro_rules | `(tactic| size_fits) => `(tactic| first | exact Mine.le100 (by with_reducible assumption) | fail)
section
open PySem PySem.W PyProof.Rows PySem.Spec PySem.Calls
set_option maxRecDepth 100000
set_option maxHeartbeats 8000000
namespace Mine
/-- the law's own record, read off the view -/
noncomputable def lawQ : { p : DefRec × List (Str × Expr) // defOf thr.view_1_2 (Str.ofString "law") = some p } := ⟨(_, _), by rfl⟩
noncomputable def lawD : DefRec := lawQ.val.1
/-- what is to be shown of a call of law -/
noncomputable abbrev WalkL (r : RowW) : Prop := WalkO thr.view_1_2 [Str.ofString "EXACT_TOKEN_TYPES", Str.ofString "tspecials", Str.ofString "_name_disallowed_re", Str.ofString "_value_disallowed_re", Str.ofString "_formatparam"]
  (XL thr.view_1_2 []) (kHook thr.heap_1_1 [2,3,32,34,35,37,38,39,42,44,45,47,48,49,51,52,54,55,56,58,59,61,62,63,65,66,68,69,70,72,73,75,76,80,81,85,86,90,91,92,93,95,96,98,99,107,108,110,111,113,114,115,117,118,120,121,122,124,125,127,128,129,131,132,134,135,136,139,140,141,143,144,146,147,148,150,151,153,154,155,158,159,160,161,163,164,166,167,168,171,172,173,176,177,178,180,181,183,184,185,187,188,190,191,192,195,196,197,199,200,202,203,204,206,207,209,210,211,213,214,216,217,218,219,220,221,222,225,227,228,230,231,232,235,236,237,240,241] (fun _ => by kernel_rfl)).says r lawD [] fun f vs => call f vs
noncomputable def forBody : Stmt → List Stmt
  | .For _ _ b _ _ => b
  | _ => []
noncomputable def stAt (l : List Stmt) (i : Nat) : Stmt := l.getD i (.Pass default)
/-- a stretch of the law's statements, walked in its frame -/
noncomputable abbrev Seg (n : Nat) (w : World) (mean : ExcName → Option Value) (mg mb : Str → Option Value) (body : List Stmt) (m : Str → Option Value) (news : List (Addr × Obj)) (pre : Heap → Heap → Shared → Prop)
    (Ret : Flow → (Str → Option Value) → List (Addr × Obj) → Prop) : Prop :=
  ∀ (dp un : Nat) (gd : Option (List Code)) (a : Addr) (ccd : Value) (cl : List (Str × Addr)) (outer : List Env) (A₀ : Around) (base h₀ : Heap) (L : Addr) (s : Shared) (Q : Flow → Shared → Prop) (E : Value → Shared → Prop),
    Below A₀ base outer h₀ → Fr h₀ L s.heap m → (thr.heap_1_1 w.params).In h₀ → News h₀ L s.heap news →
    Top thr.view_1_2 (looseW thr.view_1_2 [Str.ofString "EXACT_TOKEN_TYPES", Str.ofString "tspecials", Str.ofString "_name_disallowed_re", Str.ofString "_value_disallowed_re", Str.ofString "_formatparam"]) mean mg mb h₀ →
    pre h₀ base s → dp + n < recursionLimit → un + 10 * n < cLine →
    (∀ f m' news' h' tk', Fr h₀ L h' m' → News h₀ L h' news' → Ret f m' news' → Q f { s with heap := h', toks := tk' }) →
    wpAny (model PySem.Challenge.rw_sr0079_01.row.prog w) (ktrTop dp un gd (Str.ofString "law") lawD.scope L a ccd cl outer) (execs body (envX (Str.ofString "law") lawD.scope L a ccd cl)) Q E s
end Mine
end

section
open PySem PySem.W PyProof.Rows PySem.Spec PySem.Calls
set_option maxRecDepth 100000
set_option maxHeartbeats 2000000
namespace Mine
section
variable {prog : Program} {w : World} {A : Around} {E : Value → Shared → Prop} {s : Shared}
theorem isSame_ff {M : Model} {a : UInt64} {t u : Tok} {Q : Bool → Shared → Prop} (ht : t ≠ 0) (hu : u ≠ 0) (hb : NoneBooked s.heap) (hq : ∀ b, Q b s) : wpAny M A (isSame (.float a t) (.float a u)) Q E s := by
  show wpAny M A (isSame.created (a == a && !Float64.isNaN a) t u) Q E s
  unfold isSame.created
  have h0 : (t == 0 || u == 0) = false := by rw [Bool.or_eq_false_iff]; exact ⟨beq_eq_false_iff_ne.mpr ht, beq_eq_false_iff_ne.mpr hu⟩
  refine wpAny_ite_split (fun h => ?_) (fun _ => ?_)
  · rw [h0] at h; exact absurd h Bool.false_ne_true
  refine wpAny_ite_split (fun _ => wpAny_pure (hq _)) (fun _ => ?_)
  refine wpAny_ite_split (fun _ => wpAny_pure (hq _)) (fun _ => ?_)
  refine wpAny_bind (wpAny_sharingNotTold_none hb ?_)
  rw [if_neg Bool.false_ne_true]
  refine wpAny_bind (wpAny_sharingNotTold_none hb ?_)
  rw [if_neg Bool.false_ne_true]
  exact wpAny_bind (wpAny_rule (wpAny_bind (wpAny_askSetting (wpAny_pure (hq _)))))
open PySem.SeqAt in
theorem rc_ff (a : UInt64) (t : Tok) (b : UInt64) (u : Tok) : RcAt A s (.float a t) (.float b u) (Float64.cmp a b == some Ordering.eq) := fun prog w E Q h =>
  richCompare_gives (typeIs_float s a t) (typeIs_float s b u) F.slot_float_eq F.entry_float_eq (F.args_float_eq_2 _ _) (AutoFloatG5.float___eq___float_float_0 a t b u) (fun x => nomatch x) h
open PySem.SeqAt in
theorem eq_ff (a : UInt64) (t u : Tok) (h : (Float64.cmp a a == some Ordering.eq) = true) (ht : t ≠ 0) (hu : u ≠ 0) (hb : NoneBooked s.heap) : EqAt A s (.float a t) (.float a u) true := fun prog w E Q hq => by
  unfold eqBool
  refine wpAny_holding ?_
  refine wpAny_ite_split (fun _ => wpAny_bind (wpAny_rule (wpAny_pure hq))) (fun _ => ?_)
  refine wpAny_bind (isSame_ff ht hu hb fun b => ?_)
  refine wpAny_ite_split (fun _ => wpAny_pure hq) (fun _ => ?_)
  exact wpAny_bind (rc_ff a t a u prog w E _ (wpAny_truthy_bool (by rw [h]; exact hq)))
open PySem.SeqAt in
/-- two tuples of the same three floats, none of them a nan: they do not differ -/
theorem ne_tup3 {l b : Addr} {x y z : UInt64} {t1 t2 t3 u1 u2 u3 : Tok} {Q : Value → Shared → Prop} (hl : s.heap.get? l = some (tup3 x y z t1 t2 t3)) (hb : s.heap.get? b = some (tup3 x y z u1 u2 u3))
    (hx : (Float64.cmp x x == some Ordering.eq) = true) (hy : (Float64.cmp y y == some Ordering.eq) = true) (hz : (Float64.cmp z z == some Ordering.eq) = true) (nt : t1 ≠ 0 ∧ t2 ≠ 0 ∧ t3 ≠ 0) (nu : u1 ≠ 0 ∧ u2 ≠ 0 ∧ u3 ≠ 0) (nb : NoneBooked s.heap) (hu : A.units < cLine) (h : Q (.bool false) s) :
    wpAny (model prog w) A (compareOp .NotEq (.ref l) (.ref b)) Q E s := by
  refine RcNeAt.tuples (e := fun _ => true) (items := #[.float x t1, .float y t2, .float z t3]) (items2 := #[.float x u1, .float y u2, .float z u3]) ⟨_, hl, rfl, _, rfl⟩ ⟨_, hb, rfl, _, rfl⟩ hu (fun j j1 j2 => ?_) prog w E Q h
  match j, j1, j2 with
  | 0, _, _ => exact eq_ff x t1 u1 hx nt.1 nu.1 nb
  | 1, _, _ => exact eq_ff y t2 u2 hy nt.2.1 nu.2.1 nb
  | 2, _, _ => exact eq_ff z t3 u3 hz nt.2.2 nu.2.2 nb
theorem booked_none {h₀ h : Heap} {L : Addr} {m : Str → Option Value} (X : (thr.heap_1_1 w.params).In h₀) (F : Fr h₀ L h m) : NoneBooked h := by
  obtain ⟨o, ho⟩ : ∃ o, (thr.heap_1_1 w.params).lookup cStatics = some o := ⟨_, rfl⟩
  have hg := F.keep _ _ (X _ _ ho)
  cases ho
  refine ⟨_, ⟨_, _, _, hg, rfl, ?_, fun _ => rfl⟩, ?_⟩
  · intro e he
    simp only [List.mem_toArray, List.mem_cons, List.not_mem_nil, or_false] at he
    rcases he with rfl | rfl | rfl | rfl | rfl | rfl | rfl | rfl | rfl <;> exact ⟨_, _, rfl⟩
  · kernel_rfl!
end
end Mine
end

section
open PySem PySem.W PyProof.Rows PySem.Spec PySem.Calls
set_option maxRecDepth 100000
set_option maxHeartbeats 2000000
namespace Mine
theorem is48 (w : World) (mean : ExcName → Option Value) (mg mb : Str → Option Value) (news : List (Addr × Obj)) (n : Int) (t : Tok) :
    Con 2 w mean mg mb 48 news [.int n t] [] (fun _ => True) (fun r nw => r = .bool (decide (n < 256)) ∧ nw = news) := by
  w_top off
  unfold Con; k_fill
  intro dp un gd cn cns cig cic cmo a ccd cl outer A₀ base h₀ L m s Q E B F X N T hpre hd hu hret
  refine wpAny_call ?_
  k_dflt k_enter
  k_steps
  exact hret _ _ _ _ (by k_asm) (by k_asm) ⟨rfl, rfl⟩
theorem is55 (w : World) (mean : ExcName → Option Value) (mg mb : Str → Option Value) (news : List (Addr × Obj)) (n : Int) (t : Tok) :
    Con 2 w mean mg mb 55 news [.int n t] [] (fun _ => True) (fun r nw => r = .bool (decide (256 ≤ n)) ∧ nw = news) := by
  unfold Con; k_fill
  intro dp un gd cn cns cig cic cmo a ccd cl outer A₀ base h₀ L m s Q E B F X N T hpre hd hu hret
  refine wpAny_call ?_
  k_dflt k_enter
  k_steps
  exact hret _ _ _ _ (by k_asm) (by k_asm) ⟨rfl, rfl⟩
theorem is62 (w : World) (mean : ExcName → Option Value) (mg mb : Str → Option Value) (news : List (Addr × Obj)) (n : Int) (t : Tok) :
    Con 2 w mean mg mb 62 news [.int n t] [] (fun _ => True) (fun r nw => r = .bool (decide (n = 0)) ∧ nw = news) := by
  unfold Con; k_fill
  intro dp un gd cn cns cig cic cmo a ccd cl outer A₀ base h₀ L m s Q E B F X N T hpre hd hu hret
  refine wpAny_call ?_
  k_dflt k_enter
  k_steps
  exact hret _ _ _ _ (by k_asm) (by k_asm) ⟨rfl, rfl⟩
theorem look39a (w : World) : ∃ es n, (thr.heap_1_1 w.params).lookup 39 = some ⟨.type "dict", none, .dict es n, #[]⟩ ∧ KeysLit w.params es.toList := ⟨_, _, rfl, by k_keys⟩
/-- the item of EXACT_TOKEN_TYPES at a text -/
theorem look39 {prog : Program} {w : World} {A : Around} {E : Value → Shared → Prop} {s : Shared} {h₀ : Heap} {L : Addr} {m : PySem.Str → Option Value} {value slice : Expr} {x : PySem.Str} {t : Tok} {v : Value} {Q : Value → Shared → Prop} (F : Fr h₀ L s.heap m) (X : (thr.heap_1_1 w.params).In h₀) (e : nsIn (thr.heap_1_1 w.params) 39 x = some (some v))
    (h : Q v { s with toks := s.toks + 1 })
    (hs : subscripted slice false (.ref 39) (.str x t) = operate [.ref 39, .str x t] (getItem (.ref 39) (.str x t)) := by with_unfolding_all rfl) :
    wpAny (model prog w) A (subscriptTail value slice (.ref 39) (.str x t)) Q E s := by
  obtain ⟨es, n, hl, hk⟩ := look39a w
  exact topItem_K F X hl hk e h hs
end Mine
end

section
open PySem PySem.W PyProof.Rows PySem.Spec PySem.Calls
set_option maxRecDepth 100000
set_option maxHeartbeats 4000000
namespace Mine
/-- a stretch of the law's statements behind its cells: where sizes, steps and spot lie is told -/
noncomputable abbrev SegC (n : Nat) (w : World) (mean : ExcName → Option Value) (mg mb : Str → Option Value) (cl : List (Str × Addr)) (body : List Stmt) (m : Str → Option Value) (news : List (Addr × Obj))
    (Ret : Flow → (Str → Option Value) → List (Addr × Obj) → Prop) : Prop :=
  ∀ (dp un : Nat) (gd : Option (List Code)) (a : Addr) (ccd : Value) (outer : List Env) (A₀ : Around) (base h₀ : Heap) (L : Addr) (s : Shared) (Q : Flow → Shared → Prop) (E : Value → Shared → Prop),
    Below A₀ base outer h₀ → Fr h₀ L s.heap m → (thr.heap_1_1 w.params).In h₀ → News h₀ L s.heap news →
    Top thr.view_1_2 (looseW thr.view_1_2 [Str.ofString "EXACT_TOKEN_TYPES", Str.ofString "tspecials", Str.ofString "_name_disallowed_re", Str.ofString "_value_disallowed_re", Str.ofString "_formatparam"]) mean mg mb h₀ →
    dp + n < recursionLimit → un + 10 * n < cLine →
    (∀ f m' news' h' tk', Fr h₀ L h' m' → News h₀ L h' news' → Ret f m' news' → Q f { s with heap := h', toks := tk' }) →
    wpAny (model PySem.Challenge.rw_sr0079_01.row.prog w) (ktrTop dp un gd (Str.ofString "law") lawD.scope L a ccd cl outer) (execs body (envX (Str.ofString "law") lawD.scope L a ccd cl)) Q E s
noncomputable abbrev cells3 (c1 c2 c3 : Addr) : List (Str × Addr) := [(Str.ofString "spot", c3), (Str.ofString "steps", c2), (Str.ofString "sizes", c1)]
theorem fin_wins {h₀ h : Heap} {L Wn : Addr} {p q p' q' : Bool} {n : Nat} {r : List (Addr × Obj)} (N : News h₀ L h ((Wn, PySem.W.listOf #[.bool p, .bool q] n) :: r)) (e1 : p = p') (e2 : q = q') : News h₀ L h ((Wn, PySem.W.listOf #[.bool p', .bool q'] n) :: r) := e1 ▸ e2 ▸ N
theorem turnF (w : World) (mean : ExcName → Option Value) (mg mb : Str → Option Value) (B : Str → Option Value) (rest : List (Addr × Obj)) (c1 c2 c3 Wn Th Fi Cu St Rw rk : Addr) (o1 o2 o3 : Obj) (cut k c sp spot x : Int) (t1 t2 t3 t4 t5 t6 : Tok) (p q a b : Bool) (fv cv sv wv rv : Array Value) (n0 n1 n2 n3 n4 n5 n6 : Nat)
    (d2 : o2.data = .cell (some (.ref St))) (d3 : o3.data = .cell (some (.int spot t3)))
    (bk : 0 ≤ k ∧ k < 3) (bc : 0 ≤ cut ∧ cut < c) (bc2 : c < 10) (bs : 0 ≤ sp ∧ sp ≤ 100) (bi : 0 ≤ spot - (c - cut) * sp ∧ spot - (c - cut) * sp < 1000)
    (hC : cv[k.toNat]? = some (.int c t4)) (hS : sv[k.toNat]? = some (.int sp t5)) (hR : wv[k.toNat]? = some (.ref rk)) (hX : rv[cut.toNat]? = some (.int x t6)) (hF : fv[(spot - (c - cut) * sp).toNat]? = some (.ref Th))
    (hTW : @Ne Nat Th Wn) (e1 : @Ne Nat Fi Wn) (e2 : @Ne Nat Cu Wn) (e3 : @Ne Nat St Wn) (e4 : @Ne Nat Rw Wn) (e5 : @Ne Nat rk Wn) (e6 : @Ne Nat c2 Wn) (e7 : @Ne Nat c3 Wn) (r1 : ∀ y ∈ rest, y.1 ≠ Wn) :
    SegC 20 w mean mg mb (cells3 c1 c2 c3) (forBody (stAt (forBody (stAt (forBody (stAt lawD.body 10)) 2)) 0))
      (fun z => if z = Str.ofString "cut" then some (.int cut t1) else if z = Str.ofString "k" then some (.int k t2) else if z = Str.ofString "first" then some (.ref Fi) else if z = Str.ofString "cuts" then some (.ref Cu) else if z = Str.ofString "rows" then some (.ref Rw) else if z = Str.ofString "wins" then some (.ref Wn) else B z)
      ((Wn, PySem.W.listOf #[.bool p, .bool q] n0) :: (Th, PySem.W.listOf #[.bool a, .bool b] n1) :: (Fi, PySem.W.listOf fv n2) :: (Cu, PySem.W.listOf cv n3) :: (St, PySem.W.listOf sv n4) :: (Rw, PySem.W.listOf wv n5) :: (rk, PySem.W.listOf rv n6) :: (c2, o2) :: (c3, o3) :: rest)
      (fun f m' nw => f = .next ∧ (∀ z, z ≠ Str.ofString "there" → m' z = if z = Str.ofString "cut" then some (.int cut t1) else if z = Str.ofString "k" then some (.int k t2) else if z = Str.ofString "first" then some (.ref Fi) else if z = Str.ofString "cuts" then some (.ref Cu) else if z = Str.ofString "rows" then some (.ref Rw) else if z = Str.ofString "wins" then some (.ref Wn) else B z) ∧
        ∃ n0', nw = (Wn, PySem.W.listOf #[.bool (p || (decide (x = 1) && !b)), .bool (q || (decide (x = -1) && !a))] n0') :: (Th, PySem.W.listOf #[.bool a, .bool b] n1) :: (Fi, PySem.W.listOf fv n2) :: (Cu, PySem.W.listOf cv n3) :: (St, PySem.W.listOf sv n4) :: (Rw, PySem.W.listOf wv n5) :: (rk, PySem.W.listOf rv n6) :: (c2, o2) :: (c3, o3) :: rest) := by
  w_top off
  have bi63 : spot - (c - cut) * sp < 2 ^ 63 := Int.lt_trans bi.2 (by decide)
  have bc63 : cut < 2 ^ 63 := Int.lt_trans bc.2 (Int.lt_trans bc2 (by decide))
  have bk63 : k < 2 ^ 63 := Int.lt_trans bk.2 (by decide)
  unfold SegC; k_fill
  intro dp un gd a' ccd outer A₀ base h₀ L s Q E B' F X N T hd hu hret
  unfold stAt lawD lawQ
  dsimp only [List.getD, List.getElem?_cons_succ, List.getElem?_cons_zero, Option.getD, forBody, cells3]
  repeat' (first | (k_unfold; (try dsimp only)) | (first | with_reducible ((with_reducible show wpAny _ _ (subscriptTail (PySem.Expr.Subscript _ _ _) _ _ _) _ _ _); k_here; k_dflt (refine kba_turn (value' := PySem.Expr.Name (PySem.Str.ofString "_") ⟨0, 0, 0, 0⟩) (fun _ => rfl) ?_)) | with_reducible (k_here; (with_reducible show wpAny _ _ (subscriptTail _ _ (Value.ref _) (Value.int _ _)) _ _ _); k_dflt (refine item_list ⟨_, News.get (by assumption) (by k_mem), rfl, _, rfl⟩ (by first | exact bi.1 | exact bc.1 | exact bk.1 | lia) (by first | exact bi63 | exact bc63 | exact bk63 | lia) (by with_reducible assumption) ?_)) | walk1) | (dsimp only; (first | with_reducible ((with_reducible show wpAny _ _ (subscriptTail (PySem.Expr.Subscript _ _ _) _ _ _) _ _ _); k_here; k_dflt (refine kba_turn (value' := PySem.Expr.Name (PySem.Str.ofString "_") ⟨0, 0, 0, 0⟩) (fun _ => rfl) ?_)) | with_reducible (k_here; (with_reducible show wpAny _ _ (subscriptTail _ _ (Value.ref _) (Value.int _ _)) _ _ _); k_dflt (refine item_list ⟨_, News.get (by assumption) (by k_mem), rfl, _, rfl⟩ (by first | exact bi.1 | exact bc.1 | exact bk.1 | lia) (by first | exact bi63 | exact bc63 | exact bk63 | lia) (by with_reducible assumption) ?_)) | walk1)) | (leave1; try dsimp only))
  all_goals rename Fr _ _ _ _ => F9
  all_goals rename News _ _ _ _ => N9
  all_goals (refine hret _ _ ((Wn, PySem.W.listOf #[.bool (p || (decide (x = 1) && !b)), .bool (q || (decide (x = -1) && !a))] n0) :: (Th, PySem.W.listOf #[.bool a, .bool b] n1) :: (Fi, PySem.W.listOf fv n2) :: (Cu, PySem.W.listOf cv n3) :: (St, PySem.W.listOf sv n4) :: (Rw, PySem.W.listOf wv n5) :: (rk, PySem.W.listOf rv n6) :: (c2, o2) :: (c3, o3) :: rest) _ _ F9 ?_ ⟨rfl, fun z h1 => by simp [h1], _, rfl⟩)
  all_goals clear hC hS hR hX hF hu hd r1 e1 e2 e3 e4 e5 e6 e7 hTW
  all_goals first
    | (exfalso; lia)
    | (refine fin_wins N9 ?_ ?_
       all_goals (clear F9 N9)
       all_goals (first | rw [show decide (x = 1) = true from decide_eq_true (by lia)] | rw [show decide (x = 1) = false from decide_eq_false (by lia)] | rw [show decide (x = -1) = true from decide_eq_true (by lia)] | rw [show decide (x = -1) = false from decide_eq_false (by lia)])
       all_goals (first | (simp [*]; done) | (cases a <;> cases b <;> cases p <;> cases q <;> first | rfl | contradiction)))
end Mine
end

section
open PySem PySem.W PyProof.Rows PySem.Spec PySem.Calls
set_option maxRecDepth 100000
set_option maxHeartbeats 4000000
namespace Mine
theorem execs_append (env : Env) : ∀ (l1 l2 : List Stmt), execs (l1 ++ l2) env = (do match ← execs l1 env with | .next => execs l2 env | f => pure f)
  | [], l2 => by
    show execs l2 env = _
    rw [show execs [] env = pure Flow.next from rfl, pure_bind]
  | st :: r, l2 => by
    rw [List.cons_append, execs_cons, execs_cons, bind_assoc]
    refine congrArg _ (funext fun f => ?_)
    cases f with
    | next => exact execs_append env r l2
    | _ => exact (pure_bind _ _).symm
theorem execs_one (env : Env) (st : Stmt) : execs [st] env = exec st env := by
  rw [execs_cons]
  refine Eq.trans (congrArg _ (funext fun f => ?_)) (bind_pure (exec st env))
  cases f <;> rfl
theorem SegC.seq {n : Nat} {w : World} {mean : ExcName → Option Value} {mg mb : Str → Option Value} {cl : List (Str × Addr)} {b1 b2 : List Stmt} {m : Str → Option Value} {news : List (Addr × Obj)} {Ret1 Ret : Flow → (Str → Option Value) → List (Addr × Obj) → Prop}
    (h1 : SegC n w mean mg mb cl b1 m news Ret1) (h2 : ∀ m' nw, Ret1 .next m' nw → SegC n w mean mg mb cl b2 m' nw Ret) (h3 : ∀ f m' nw, Ret1 f m' nw → f = .next ∨ Ret f m' nw) : SegC n w mean mg mb cl (b1 ++ b2) m news Ret := by
  intro dp un gd a ccd outer A₀ base h₀ L s Q E B F X N T hd hu hret
  rw [execs_append]
  refine wpAny_bind (h1 dp un gd a ccd outer A₀ base h₀ L s _ E B F X N T hd hu fun f m' nw h' tk' F' N' hR => ?_)
  rcases h3 _ _ _ hR with rfl | hR'
  · exact h2 m' nw hR dp un gd a ccd outer A₀ base h₀ L { s with heap := h', toks := tk' } Q E B F' X N' T hd hu fun f m'' nw' h'' tk'' F'' N'' hR'' => hret f m'' nw' h'' tk'' F'' N'' hR''
  · cases f with
    | next => exact h2 m' nw hR dp un gd a ccd outer A₀ base h₀ L { s with heap := h', toks := tk' } Q E B F' X N' T hd hu fun f m'' nw' h'' tk'' F'' N'' hR'' => hret f m'' nw' h'' tk'' F'' N'' hR''
    | _ => exact wpAny_pure (hret _ _ _ _ _ F' N' hR')
theorem SegC.conv {n n' : Nat} {w : World} {mean : ExcName → Option Value} {mg mb : Str → Option Value} {cl : List (Str × Addr)} {b : List Stmt} {m m' : Str → Option Value} {news news' : List (Addr × Obj)} {Ret Ret' : Flow → (Str → Option Value) → List (Addr × Obj) → Prop}
    (h : SegC n w mean mg mb cl b m news Ret) (hn : n ≤ n') (em : ∀ z, m' z = m z) (hs : ∀ p ∈ news, p ∈ news') (hr : ∀ f m nw, Ret f m nw → Ret' f m nw) : SegC n' w mean mg mb cl b m' news' Ret' := by
  intro dp un gd a ccd outer A₀ base h₀ L s Q E B F X N T hd hu hret
  obtain rfl : m' = m := funext em
  exact h dp un gd a ccd outer A₀ base h₀ L s Q E B F X (fun p hp => N p (hs p hp)) T (by lia) (by lia) fun f m1 nw h' tk' F' N' hR => hret f m1 nw h' tk' F' N' (hr _ _ _ hR)
theorem SegC.conv2 {n n' : Nat} {w : World} {mean : ExcName → Option Value} {mg mb : Str → Option Value} {cl : List (Str × Addr)} {b : List Stmt} {m m' : Str → Option Value} {news news' : List (Addr × Obj)} {Ret Ret' : Flow → (Str → Option Value) → List (Addr × Obj) → Prop}
    (h : SegC n w mean mg mb cl b m news Ret) (hn : n ≤ n') (em : ∀ z, m' z = m z) (hs : ∀ p ∈ news, p ∈ news') (hr : ∀ f m nw, Ret f m nw → ∃ nw', (∀ p ∈ nw', p ∈ nw) ∧ Ret' f m nw') : SegC n' w mean mg mb cl b m' news' Ret' := by
  intro dp un gd a ccd outer A₀ base h₀ L s Q E B F X N T hd hu hret
  obtain rfl : m' = m := funext em
  exact h dp un gd a ccd outer A₀ base h₀ L s Q E B F X (fun p hp => N p (hs p hp)) T (by lia) (by lia) fun f m1 nw h' tk' F' N' hR => let ⟨nw', hsub, hR'⟩ := hr _ _ _ hR; hret f m1 nw' h' tk' F' (fun p hp => N' p (hsub p hp)) hR'
theorem store_cell {M : Model} {A : Around} {E : Value → Shared → Prop} {s : Shared} {h₀ : Heap} {L c : Addr} {m : Str → Option Value} {o : Obj} {r : List (Addr × Obj)} {x : Str} {v : Value} {v₀ : Option Value} {cn : Str} {cs : Scope} {a : Addr} {ccd : Value} {cl : List (Str × Addr)} {Q : Unit → Shared → Prop}
    (F : Fr h₀ L s.heap m) (N : News h₀ L s.heap ((c, o) :: r)) (hr : ∀ y ∈ r, y.1 ≠ c) (hc : cl.lookup x = some c) (hd : o.data = .cell v₀)
    (hk : cs.kind = .function) (hx : (envX cn cs L a ccd cl).kindOf x = some .cell)
    (h : ∀ h' o', Fr h₀ L h' m → News h₀ L h' ((c, o') :: r) → o'.data = .cell (some v) → Q () { s with heap := h' }) : wpAny M A (storeName (envX cn cs L a ccd cl) x v) Q E s := by
  obtain ⟨e1, e2, e3⟩ := N (c, o) (.head _)
  refine wpAny_storeName_cell hk hx hc ⟨o, e1, hd⟩ fun h' hv hs => ?_
  obtain ⟨o', ho', hd'⟩ := hv
  refine h h' o' (F.change hs e2 e3) (fun p hp => ?_) hd'
  rcases List.mem_cons.mp hp with rfl | hp
  · exact ⟨ho', e2, e3⟩
  · exact ⟨hs.extBut _ _ (hr p hp) (N p (.tail _ hp)).1, (N p (.tail _ hp)).2⟩
end Mine
end

section
open PySem PySem.W PyProof.Rows PySem.Spec PySem.Calls
set_option maxRecDepth 100000
set_option maxHeartbeats 8000000
namespace Mine
/-- a contract whose call leaves the count of tokens above nought -/
noncomputable abbrev ConP (n : Nat) (w : World) (mean : ExcName → Option Value) (mg mb : Str → Option Value) (f : Addr) (news : List (Addr × Obj)) (vs : List Value) (kw : List (Str × Value)) (pre : Shared → Prop) (Ret : Value → List (Addr × Obj) → Prop) : Prop :=
  ∀ (dp un : Nat) (gd : Option (List Code)) (cn : Str) (cns : List (Str × NameKind)) (cig cic : Bool) (cmo : List (Str × Const)) (a : Addr) (ccd : Value) (cl : List (Str × Addr)) (outer : List Env) (A₀ : Around) (base h₀ : Heap) (L : Addr) (m : Str → Option Value) (s : Shared) (Q E : Value → Shared → Prop),
    Below A₀ base outer h₀ → Fr h₀ L s.heap m → (thr.heap_1_1 w.params).In h₀ → News h₀ L s.heap news →
    Top thr.view_1_2 (looseW thr.view_1_2 [Str.ofString "EXACT_TOKEN_TYPES", Str.ofString "tspecials", Str.ofString "_name_disallowed_re", Str.ofString "_value_disallowed_re", Str.ofString "_formatparam"]) mean mg mb h₀ →
    pre s → dp + n < recursionLimit → un + 10 * n < cLine →
    (∀ r news' h' tk', Fr h₀ L h' m → News h₀ L h' news' → Ret r news' → Q r { s with heap := h', toks := tk' + 1 }) →
    wpAny (model PySem.Challenge.rw_sr0079_01.row.prog w) (ktrTop dp un gd cn { kind := .function, names := cns, isGenerator := cig, isCoroutine := cic, more := cmo } L a ccd cl outer) (call (.ref f) vs kw) Q E s
section
variable {n : Nat} {w : World} {mean : ExcName → Option Value} {mg mb : Str → Option Value} {f : Addr} {news : List (Addr × Obj)} {vs : List Value} {kw : List (Str × Value)} {pre : Shared → Prop} {Ret : Value → List (Addr × Obj) → Prop}
  {dp un : Nat} {gd : Option (List Code)} {cn : Str} {cns : List (Str × NameKind)} {cig cic : Bool} {cmo : List (Str × Const)} {a : Addr} {ccd : Value} {cl : List (Str × Addr)} {outer : List Env} {A₀ : Around} {base h₀ : Heap} {L : Addr} {m : Str → Option Value} {s : Shared} {Q E : Value → Shared → Prop}
theorem useP (C : ConP n w mean mg mb f news vs kw pre Ret) (B : Below A₀ base outer h₀) (F : Fr h₀ L s.heap m) (X : (thr.heap_1_1 w.params).In h₀) (N : News h₀ L s.heap news)
    (T : Top thr.view_1_2 (looseW thr.view_1_2 [Str.ofString "EXACT_TOKEN_TYPES", Str.ofString "tspecials", Str.ofString "_name_disallowed_re", Str.ofString "_value_disallowed_re", Str.ofString "_formatparam"]) mean mg mb h₀)
    (hp : pre s) (hd : dp + n < recursionLimit) (hu : un + 10 * n < cLine)
    (h : ∀ r news' h' tk', Fr h₀ L h' m → News h₀ L h' news' → Ret r news' → Q r { s with heap := h', toks := tk' + 1 }) :
    wpAny (model PySem.Challenge.rw_sr0079_01.row.prog w) (ktrTop dp un gd cn { kind := .function, names := cns, isGenerator := cig, isCoroutine := cic, more := cmo } L a ccd cl outer) (call (.ref f) vs kw) Q E s :=
  C _ _ _ _ _ _ _ _ _ _ _ _ _ _ _ _ _ _ _ _ B F X N T hp hd hu h
end
end Mine
end

section
open PySem PySem.W PyProof.Rows PySem.Spec PySem.Calls
set_option maxRecDepth 100000
set_option maxHeartbeats 8000000
namespace Mine
theorem plainAttrs_pat : PlainAttrs "re.Pattern" :=
  ⟨⟨"object.__getattribute__", by rw [typeLookup_type, builtinLookup_eq_fast]; kernel_rfl, by decide +kernel⟩, by rw [typeLookup_type, builtinLookup_eq_fast]; kernel_rfl⟩
theorem slot_search : Slot "re.Pattern" "search" "re.Pattern.search" :=
  .of (owner := "re.Pattern") (n := "search") (by rw [typeLookup_type, builtinLookup_eq_fast]; kernel_rfl) (by decide +kernel) (by decide +kernel) (by decide +kernel)
    (by first | exact .inl (by decide +kernel) | exact .inr (by decide +kernel)) (by rw [isSubtype_type]; kernel_rfl)
theorem type_search : typeOf (.builtin "re.Pattern.search") = pure (.type "method_descriptor") := by show builtinType _ = _; rw [builtinType_eq_fast]; kernel_rfl
theorem entry_search : entryFor table "re.Pattern.search" = some Builtin.«re.Pattern.search» := entryFor_of_tree (by kernel_rfl)
theorem args_search (a b : Value) : argsOk "re.Pattern.search" ⟨[a, b], []⟩ := by unfold argsOk; kernel_rfl
open PySem.Builtin.Re
noncomputable def clean (code : Array Nat) (x : PySem.Str) : Bool :=
  match ((Sre.forSearch code x.cps 0 (min (0 : Int).toNat x.cps.size) (min (2 ^ 63 - 1 : Int).toNat x.cps.size) false).runFor 4).outcome with
  | some .failed => true
  | _ => false
section
variable {prog : Program} {w : World} {A : Around} {E : Value → Shared → Prop} {s : Shared}
theorem drive_one {m : Sre.M} {Q : Sre.M → Shared → Prop} (n : Nat) (ho : (m.runFor 4).outcome = some .failed) (h : Q (m.runFor 4) s) : wpAny (model prog w) A (reDrive (n + 1) m) Q E s := by
  unfold reDrive reTurnSteps
  simp only [ho, Option.isSome_some, if_true]
  exact wpAny_pure h
theorem rules_pass {g : Nat → Bool} {nm : Nat → String} {Q : PUnit → Shared → Prop} (h : Q ⟨⟩ s) : ∀ l : List Nat,
    wpAny (model prog w) A (forIn l PUnit.unit fun i _ => if g i = true then do rule (nm i); pure (ForInStep.yield PUnit.unit) else pure (ForInStep.yield PUnit.unit)) Q E s
  | [] => by rw [List.forIn_nil]; exact wpAny_pure h
  | i :: l => by
    rw [List.forIn_cons]
    refine wpAny_bind ?_
    by_cases q : g i = true
    · rw [if_pos q]
      exact wpAny_bind (wpAny_rule (wpAny_pure (rules_pass h l)))
    · rw [if_neg q]
      exact wpAny_pure (rules_pass h l)
theorem runToEnd_none {m : Sre.M} {Q : Option Sre.M → Shared → Prop} (ho : (m.runFor 4).outcome = some .failed) (h : Q none s) : wpAny (model prog w) A (reRunToEnd m) Q E s := by
  unfold reRunToEnd
  refine wpAny_bind ?_
  rw [show (2 ^ 64 : Nat) = (2 ^ 64 - 1) + 1 from rfl]
  refine drive_one _ ho ?_
  refine wpAny_bind (rules_pass (g := fun i => (Sre.M.runFor 4 m).seen.has i) (nm := fun i => Sre.names.getD i "") ?_ _)
  rw [ho]
  exact wpAny_pure h
theorem clean_out {code : Array Nat} {x : PySem.Str} (h : clean code x = true) :
    ((Sre.forSearch code x.cps 0 (min (0 : Int).toNat x.cps.size) (min (2 ^ 63 - 1 : Int).toNat x.cps.size) false).runFor 4).outcome = some .failed := by
  unfold clean at h
  split at h
  · assumption
  · cases h
theorem search_at {p c : Addr} {op oc : Obj} {fs items : Array Value} {n : Nat} {x : PySem.Str} {t : Tok} {code : Array Nat} {Q : Value → Shared → Prop}
    (hp : s.heap.get? p = some op) (hpc : op.cls = .type "re.Pattern") (hpd : op.data = .fields fs) (h2 : reRawNat (fs.getD 2 .none) = 0) (h5 : fs.getD 5 .none = .ref c) (h6 : reRawNat (fs.getD 6 .none) = 0)
    (hc : s.heap.get? c = some oc) (hcd : oc.data = .seq items n) (hcode : (items.map reRawOf).map (·.toNat) = code) (hcl : clean code x = true) (h : Q .none s) :
    wpAny (model prog w) A (call (.builtin "re.Pattern.search") [.ref p, .str x t]) Q E s := by
  refine wpAny_call_entry slot_search ⟨op, hp, hpc⟩ entry_search ?_ (args_search _ _)
  unfold Builtin.«re.Pattern.search»
  refine wpAny_bind ?_
  unfold reTarget
  show wpAny _ _ (reNamed "re.Pattern.search" "search" ["string", "pos", "endpos"] 1 [.str x t] [] >>= _) _ _ s
  refine wpAny_bind (wpAny_of_eq (show reNamed "re.Pattern.search" "search" ["string", "pos", "endpos"] 1 [.str x t] [] = pure [some (.str x t), none, none] from rfl) ?_)
  show wpAny _ _ (pure (0 : Int) >>= _) _ _ s
  refine wpAny_bind (wpAny_pure ?_)
  show wpAny _ _ (pure (2 ^ 63 - 1 : Int) >>= _) _ _ s
  refine wpAny_bind (wpAny_pure ?_)
  refine wpAny_bind (wpAny_fieldsOf hp hpd ?_)
  refine wpAny_bind (wpAny_of_eq (show reTextOf (.str x t) = pure (x.cps, 0) from rfl) ?_)
  dsimp only
  rw [h6]
  refine wpAny_bind (wpAny_of_eq (show reNoCollectionInside (.str x t) 0 = pure () from rfl) ?_)
  rw [h5]
  unfold reRawItems
  refine wpAny_bind (wpAny_bind (wpAny_seqItems hc hcd (wpAny_pure ?_)))
  refine wpAny_pure ?_
  dsimp only
  rw [h2]
  simp only [Option.getD_some]
  rw [hcode]
  unfold reAnswer
  refine wpAny_bind (runToEnd_none (clean_out hcl) ?_)
  exact wpAny_pure ⟨_, rfl, h⟩
theorem getMethod_pat {p : Addr} {op : Obj} {pl : Sem Bool} {Q : Value × List Value → Shared → Prop} (hp : s.heap.get? p = some op) (hpc : op.cls = .type "re.Pattern") (hd : op.dict = none)
    (h : Q (.builtin "re.Pattern.search", [.ref p]) s) : wpAny (model prog w) A (getMethod (.ref p) (PySem.Str.ofString "search") pl) Q E s :=
  getMethod_builtin ⟨op, hp, hpc⟩ plainAttrs_pat slot_search type_search (fun a e => by cases e; exact ⟨op, hp, hd⟩) h
variable {h₀ : Heap} {L : Addr} {m : Str → Option Value} {K : Frag} {p c : Addr} {fs items : Array Value} {n : Nat} {sl sl' : Array (Option Value)} {oc : Value} {od : Option Addr}
theorem getMethod_patK {pl : Sem Bool} {Q : Value × List Value → Shared → Prop} (F : Fr h₀ L s.heap m) (X : K.In h₀) (hK : K.lookup p = some ⟨.type "re.Pattern", none, .fields fs, sl⟩)
    (h : Q (.builtin "re.Pattern.search", [.ref p]) s) : wpAny (model prog w) A (getMethod (.ref p) (PySem.Str.ofString "search") pl) Q E s :=
  getMethod_pat (F.keep _ _ (X _ _ hK)) rfl rfl h
theorem search_K {x : PySem.Str} {t : Tok} {code : Array Nat} {Q : Value → Shared → Prop} (F : Fr h₀ L s.heap m) (X : K.In h₀) (hK : K.lookup p = some ⟨.type "re.Pattern", none, .fields fs, sl⟩)
    (hcl : clean code x = true) (h5 : fs.getD 5 .none = .ref c) (hc : K.lookup c = some ⟨oc, od, .seq items n, sl'⟩) (h2 : reRawNat (fs.getD 2 .none) = 0) (h6 : reRawNat (fs.getD 6 .none) = 0)
    (hcode : (items.map reRawOf).map (·.toNat) = code) (h : Q .none s) :
    wpAny (model prog w) A (call (.builtin "re.Pattern.search") [.ref p, .str x t]) Q E s :=
  search_at (F.keep _ _ (X _ _ hK)) rfl rfl h2 h5 h6 (F.keep _ _ (X _ _ hc)) rfl hcode hcl h
end
noncomputable def codeN : Array Nat := #[14, 10, 4, 1, 1, 22, 0, 31, 16, 127, 0, 13, 7, 22, 0, 31, 16, 127, 0, 1]
noncomputable def codeV : Array Nat := #[14, 14, 4, 1, 1, 9, 4294966783, 0, 0, 2147483648, 0, 0, 0, 0, 0, 13, 11, 9, 4294966783, 0, 0, 2147483648, 0, 0, 0, 0, 0, 1]
example : clean codeN (PySem.Str.ofString "abc") = true := by decide +kernel
example : clean codeV (PySem.Str.ofString "**=") = true := by decide +kernel
theorem cst_con (w : World) (mean : ExcName → Option Value) (mg mb : Str → Option Value) (news : List (Addr × Obj)) (x d : Addr) (v : PySem.Str) (t1 : Tok) (b : Bool) (hx : (x, instObj 220 d) ∈ news) (hcl : clean (if b then codeN else codeV) v = true) :
    Con 2 w mean mg mb 121 news [.ref x, .str v t1] [(Str.ofString "name", .bool b)] (fun _ => True) (fun r nw => r = .str v t1 ∧ nw = news) := by
  w_top off
  unfold Con; k_fill
  intro dp un gd cn cns cig cic cmo a ccd cl outer A₀ base h₀ L m s Q E B F X N T hpre hd hu hret
  cases b
  all_goals (
    simp only [Bool.false_eq_true, if_true, if_false] at hcl
    refine wpAny_call ?_
    k_dflt k_enter
    repeat' (first | (k_unfold; (try dsimp only)) | (k_end; kc_close) | (first | with_reducible ((with_reducible show wpAny _ _ (call (Value.builtin "re.Pattern.search") _ _) _ _ _); (k_here; k_dflt (refine' search_K ?k1 ?k2 ?k3 ?kc ?k5 ?k6 ?k7 ?k8 ?k9 ?_; (case k1 => k_asm); (case k2 => k_asm); (case k3 => k_is); (case kc => assumption); (case k5 => rfl); (case k6 => k_is); (case k7 => rfl); (case k8 => rfl); (case k9 => decide +kernel); k_whole))) | with_reducible (k_here; (with_reducible show wpAny _ _ (getMethod (Value.ref _) (PySem.Str.ofString "search") _) _ _ _); k_dflt (refine' getMethod_patK ?k1 ?k2 ?k3 ?_; (case k1 => k_asm); (case k2 => k_asm); (case k3 => k_is); k_whole)) | walk1) | (dsimp only; (first | with_reducible ((with_reducible show wpAny _ _ (call (Value.builtin "re.Pattern.search") _ _) _ _ _); (k_here; k_dflt (refine' search_K ?k1 ?k2 ?k3 ?kc ?k5 ?k6 ?k7 ?k8 ?k9 ?_; (case k1 => k_asm); (case k2 => k_asm); (case k3 => k_is); (case kc => assumption); (case k5 => rfl); (case k6 => k_is); (case k7 => rfl); (case k8 => rfl); (case k9 => decide +kernel); k_whole))) | with_reducible (k_here; (with_reducible show wpAny _ _ (getMethod (Value.ref _) (PySem.Str.ofString "search") _) _ _ _); k_dflt (refine' getMethod_patK ?k1 ?k2 ?k3 ?_; (case k1 => k_asm); (case k2 => k_asm); (case k3 => k_is); k_whole)) | walk1)) | (leave1; (try dsimp only)) | fail "no step"))
  all_goals first | exact hret _ _ _ _ (by k_asm) (by k_asm) ⟨rfl, rfl⟩
end Mine
end

section
open PySem PySem.W PyProof.Rows PySem.Spec PySem.Calls
set_option maxRecDepth 100000
set_option maxHeartbeats 8000000
namespace Mine
noncomputable def hasNot (x y : PySem.Str) : Bool := (Builtin.Str.occurrences x y 0 x.length (x.length + 1)).isEmpty
theorem replace_none {prog : Program} {w : World} {A : Around} {E : Value → Shared → Prop} {s : Shared} {x y z : PySem.Str} {t u v : Tok} {Q : Value → Shared → Prop} (h : hasNot x y = true) (hq : Q (.str x t) s) :
    wpAny (model prog w) A (call (.builtin "str.replace") [.str x t, .str y u, .str z v]) Q E s := by
  unfold hasNot at h
  refine call_gives F.slot_str_replace (typeIs_str _ _ _) F.entry_str_replace (F.args_str_replace_3 _ _ _) (gives_str_replace x y z t u v fun c => ?_) ?_
  · rw [h] at c; cases c
  · rw [h]; exact hq
theorem lit2l : (PySem.Str.ofString "=\"").length ≤ 2 := by decide +kernel
theorem lit1l : (PySem.Str.ofString "\"").length ≤ 1 := by decide +kernel
theorem litE : (PySem.Str.ofString "").length ≤ 0 := by decide +kernel
theorem fmtp_con (w : World) (mean : ExcName → Option Value) (mg mb : Str → Option Value) (news : List (Addr × Obj)) (p v : PySem.Str) (t1 t2 : Tok) (hv : v.length = 1) (hp : p.length ≤ 10) (hb : hasNot v (PySem.Str.ofString "\\") = true) (hq : hasNot v (PySem.Str.ofString "\"") = true) :
    Con 2 w mean mg mb 99 news [.str p t1, .str v t2] [] (fun _ => True) (fun r nw => nw = news ∧ ∃ t, r = .str (p ++ PySem.Str.ofString "=\"" ++ v ++ PySem.Str.ofString "\"") t) := by
  w_top off
  unfold Con; k_fill
  intro dp un gd cn cns cig cic cmo a ccd cl outer A₀ base h₀ L m s Q E B F X N T hpre hd hu hret
  have hv1 := Nat.le_of_eq hv
  refine wpAny_call ?_
  k_dflt k_enter
  repeat' (first | (k_unfold; (try dsimp only)) | (k_end; kc_close) | (first | with_reducible ((with_reducible show wpAny _ _ (call (Value.builtin "str.replace") _ _) _ _ _); (refine replace_none (by assumption) ?_)) | with_reducible ((with_reducible show wpAny _ _ (binaryOp Operator.Add (Value.str _ _) (Value.str _ _)) _ _ _); refine add_str ?_ ?z; (case z => (rw [PySem.sizeLine_eq]; refine' Nat.le_trans (Nat.add_le_add ?z1 ?z2) ?z3; (case z1 => (repeat (first | exact hp | exact hv1 | exact lit2l | exact lit1l | exact litE | refine' ap_le ?_ ?_))); (case z2 => (repeat (first | exact hp | exact hv1 | exact lit2l | exact lit1l | exact litE | refine' ap_le ?_ ?_))); (case z3 => decide))); intro t9z9 tk9z9; (try dsimp only)) | walk1) | (dsimp only; (first | with_reducible ((with_reducible show wpAny _ _ (call (Value.builtin "str.replace") _ _) _ _ _); (refine replace_none (by assumption) ?_)) | with_reducible ((with_reducible show wpAny _ _ (binaryOp Operator.Add (Value.str _ _) (Value.str _ _)) _ _ _); refine add_str ?_ ?z; (case z => (rw [PySem.sizeLine_eq]; refine' Nat.le_trans (Nat.add_le_add ?z1 ?z2) ?z3; (case z1 => (repeat (first | exact hp | exact hv1 | exact lit2l | exact lit1l | exact litE | refine' ap_le ?_ ?_))); (case z2 => (repeat (first | exact hp | exact hv1 | exact lit2l | exact lit1l | exact litE | refine' ap_le ?_ ?_))); (case z3 => decide))); intro t9z9 tk9z9; (try dsimp only)) | walk1)) | (leave1; (try dsimp only)) | fail "no step")
  all_goals first | exact hret _ _ _ _ (by k_asm) (by k_asm) ⟨rfl, _, by rw [PySem.Str.empty_append]⟩
end Mine
end

section
open PySem PySem.W PyProof.Rows PySem.Spec PySem.Calls
set_option maxRecDepth 100000
set_option maxHeartbeats 8000000
namespace Mine
theorem lo_eq : Txt.replace (PySem.Str.ofString "level_of") (PySem.Str.ofString "_") (PySem.Str.ofString "-") = PySem.Str.ofString "level-of" := by decide +kernel
theorem so_eq : Txt.replace (PySem.Str.ofString "share_of") (PySem.Str.ofString "_") (PySem.Str.ofString "-") = PySem.Str.ofString "share-of" := by decide +kernel
section
variable {prog : Program} {w : World} {A : Around} {E : Value → Shared → Prop} {s : Shared} {h₀ : Heap} {L : Addr} {news : List (Addr × Obj)}
theorem join3 {l : Addr} {x a b c : PySem.Str} {t t1 t2 t3 : Tok} {n : Nat} {Q : Value → Shared → Prop} (N : News h₀ L s.heap news) (hl : (l, W.listOf (((#[].push (.str a t1)).push (.str b t2)).push (.str c t3)) n) ∈ news)
    (hz : a.length + b.length + c.length + 3 * x.length ≤ 16777216) (hq : Q (.str (Txt.join x [a, b, c]) s.toks) { s with toks := s.toks + 1 }) : wpAny (model prog w) A (call (.builtin "str.join") [.str x t, .ref l]) Q E s := by
  have hok := joinOk_of (sep := x) (ys := [a, b, c]) (by simp only [List.map_cons, List.map_nil, List.sum_cons, List.sum_nil, List.length_cons, List.length_nil]; lia)
  unfold JoinOk at hok
  rw [Bool.not_eq_true'] at hok
  exact call_meets F.slot_str_join (typeIs_str _ _ _) F.entry_str_join (F.args_str_join_2 _ _) (meets_str_join_list x t l [(a, t1), (b, t2), (c, t3)] hok) ⟨⟨_, (N _ hl).1, rfl, n, rfl⟩, ⟨joinFit_length hok, hq⟩⟩
end
/-- a header's text, with a share and without one -/
noncomputable def hdr0 (b c : PySem.Str) : PySem.Str := b ++ PySem.Str.ofString "; level-of=\"" ++ c ++ PySem.Str.ofString "\"; share-of"
noncomputable def hdr (b c e : PySem.Str) : PySem.Str := hdr0 b c ++ PySem.Str.ofString "=\"" ++ e ++ PySem.Str.ofString "\""
theorem join3_eq (x p q r : PySem.Str) : Txt.join x [p, q, r] = p ++ x ++ q ++ x ++ r := PySem.Str.ext' rfl
theorem lit1 : PySem.Str.ofString "; level-of=\"" = PySem.Str.ofString "; " ++ (PySem.Str.ofString "level-of" ++ PySem.Str.ofString "=\"") := by decide +kernel
theorem lit2 : PySem.Str.ofString "\"; share-of" = PySem.Str.ofString "\"" ++ (PySem.Str.ofString "; " ++ PySem.Str.ofString "share-of") := by decide +kernel
theorem join_hdr (b c e : PySem.Str) : Txt.join (PySem.Str.ofString "; ") [b, PySem.Str.ofString "level-of" ++ PySem.Str.ofString "=\"" ++ c ++ PySem.Str.ofString "\"", PySem.Str.ofString "share-of" ++ PySem.Str.ofString "=\"" ++ e ++ PySem.Str.ofString "\""] = hdr b c e := by
  rw [join3_eq]; unfold hdr hdr0; rw [lit1, lit2]; simp only [PySem.Str.append_assoc]
theorem join_hdr0 (b c : PySem.Str) : Txt.join (PySem.Str.ofString "; ") [b, PySem.Str.ofString "level-of" ++ PySem.Str.ofString "=\"" ++ c ++ PySem.Str.ofString "\"", PySem.Str.ofString "share-of"] = hdr0 b c := by
  rw [join3_eq]; unfold hdr0; rw [lit1, lit2]; simp only [PySem.Str.append_assoc]
noncomputable abbrev tupS (a b : PySem.Str) (t u : Tok) : Obj := { cls := .type "tuple", data := .seq #[.str a t, .str b u] }
noncomputable abbrev tbl (w : World) (x d H : Addr) (t0 : Tok) (hs : Array Value) (nv : Nat) (rest : List (Addr × Obj)) : List (Addr × Obj) :=
  (x, instObj 220 d) :: (d, dictOf [{ hash := PyData.keyHash w.params (PySem.Str.ofString "_headers"), key := .str (PySem.Str.ofString "_headers") t0, val := .ref H }] 1) :: (H, W.listOf hs nv) :: rest
noncomputable abbrev RetH (w : World) (x d H : Addr) (t0 : Tok) (hs : Array Value) (nv : Nat) (rest : List (Addr × Obj)) (a T : PySem.Str) : Value → List (Addr × Obj) → Prop := fun r nw =>
  r = .none ∧ ∃ D t u, nw = (D, tupS a T t u) :: tbl w x d H t0 (hs.push (.ref D)) (nv + 1) rest ∧ ∀ p ∈ tbl w x d H t0 hs nv rest, @LT.lt Nat _ p.1 D
theorem endH {w : World} {h₀ h : Heap} {L : Addr} {x d H D : Addr} {t0 t u : Tok} {hs : Array Value} {nv : Nat} {rest : List (Addr × Obj)} {a T : PySem.Str} {p1 p2 p3 : Addr × Obj}
    (N : News h₀ L h ((D, tupS a T t u) :: p1 :: p2 :: p3 :: tbl w x d H t0 (hs.push (.ref D)) (nv + 1) rest)) (l : @LT.lt Nat _ x D ∧ @LT.lt Nat _ d D ∧ @LT.lt Nat _ H D ∧ AllLt D rest) : ∃ nw, News h₀ L h nw ∧ RetH w x d H t0 hs nv rest a T .none nw := by
  refine ⟨_, ?_, rfl, D, t, u, rfl, ?_⟩
  · intro p hp
    refine N p ?_
    rcases List.mem_cons.mp hp with rfl | hp
    · exact List.mem_cons_self ..
    · exact List.mem_cons_of_mem _ (List.mem_cons_of_mem _ (List.mem_cons_of_mem _ (List.mem_cons_of_mem _ hp)))
  · obtain ⟨l3, l4, l5, l6⟩ := l
    intro p hp
    rcases List.mem_cons.mp hp with rfl | hp
    · exact l3
    · rcases List.mem_cons.mp hp with rfl | hp
      · exact l4
      · rcases List.mem_cons.mp hp with rfl | hp
        · exact l5
        · exact of_allLt l6 p hp
noncomputable def plain (c : PySem.Str) : Bool := hasNot c (PySem.Str.ofString "\\") && hasNot c (PySem.Str.ofString "\"")
noncomputable abbrev PartVV := PartV (clean codeV) (clean codeN) plain
theorem part_len {p c : PySem.Str} (h : p.length = 8) (hc1 : c.length = 1) : (p ++ PySem.Str.ofString "=\"" ++ c ++ PySem.Str.ofString "\"").length = 12 := by
  have q3 : (PySem.Str.ofString "=\"").length = 2 := by decide +kernel
  have q4 : (PySem.Str.ofString "\"").length = 1 := by decide +kernel
  simp only [PySem.Str.length_append]; lia
theorem join_small {b c T : PySem.Str} (hb1 : b.length ≤ 3) (hc1 : c.length = 1) (hT : T.length ≤ 12) :
    b.length + (PySem.Str.ofString "level-of" ++ PySem.Str.ofString "=\"" ++ c ++ PySem.Str.ofString "\"").length + T.length + 3 * (PySem.Str.ofString "; ").length ≤ 16777216 := by
  have q5 : (PySem.Str.ofString "; ").length = 2 := by decide +kernel
  rw [part_len (by decide +kernel) hc1]; lia
theorem addg_con (w : World) (mean : ExcName → Option Value) (mg mb : Str → Option Value) (rest : List (Addr × Obj)) (x d H : Addr) (hs : Array Value) (nv : Nat) (a b c T2 T : PySem.Str) (sv : Value) (d1 : PyData) (t0 t1 t2 t3 : Tok)
   (ha : clean codeN a = true) (hb : clean codeV b = true) (hc : clean codeV c = true)
   (hb1 : b.length ≤ 3) (hc1 : c.length = 1) (hc2 : plain c = true) (hS : PartVV (PySem.Str.ofString "share_of") T2 d1) (hfv : PyProof.V.Flat sv d1) (hT2 : T2.length ≤ 12)
   (hT : Txt.join (PySem.Str.ofString "; ") [b, PySem.Str.ofString "level-of" ++ PySem.Str.ofString "=\"" ++ c ++ PySem.Str.ofString "\"", T2] = T)
   (hxH : @LT.lt Nat _ x H) (hdH : @LT.lt Nat _ d H) (hsz : hs.size ≤ 100) (hoff : ∀ p ∈ rest, p.1 ≠ H) :
    ConP 5 w mean mg mb 217 ((x, instObj 220 d) :: (d, dictOf [{ hash := PyData.keyHash w.params (PySem.Str.ofString "_headers"), key := .str (PySem.Str.ofString "_headers") t0, val := .ref H }] 1) :: (H, W.listOf hs nv) :: rest) [.ref x, .str a t1, .str b t2] [(Str.ofString "level_of", .str c t3), (Str.ofString "share_of", sv)] (fun s => 1 ≤ s.toks) (RetH w x d H t0 hs nv rest a T) := by
  w_top off
  unfold ConP; k_fill
  intro dp un gd cn cns cig cic cmo a' ccd cl outer A₀ base h₀ L m s Q E B F X N T hpre hd hu hret
  refine wpAny_call ?_
  k_dflt k_enter
  (try k_fold)
  repeat' (first | (k_unfold; (try dsimp only)) | (k_end; kc_close) | (first | with_reducible ((with_reducible show wpAny _ _ (call (Value.ref 99) _ _) _ _ _); (try simp only [lo_eq, so_eq]); k_dflt (refine' use (fmtp_con _ _ _ _ _ _ _ _ _ ?hv ?hp ?hb ?hq) ?hB ?hF ?hX ?hN ?hT ?hpr ?hd ?hu ?_; (case hB => k_asm); (case hF => k_asm); (case hX => k_asm); (case hN => k_asm); (case hT => k_asm); (case hv => assumption); (case hp => decide +kernel); (case hb => assumption); (case hq => assumption); (case hpr => trivial); (case hd => ktr_room); (case hu => ktr_units); k_whole); intro r2z9 n2z9 h2z9 tk2z9 F2z9 N2z9 hR2z9; obtain ⟨hn2z9, t2z9, hr2z9⟩ := hR2z9; subst hr2z9 hn2z9; (try dsimp only); (try k_sweep)) | with_reducible ((with_reducible show wpAny _ _ (call (Value.ref 121) _ _) _ _ _); k_dflt (refine' use (cst_con _ _ _ _ _ _ _ _ _ _ ?hx ?hcl) ?hB ?hF ?hX ?hN ?hT ?hp ?hd ?hu ?_; (case hB => k_asm); (case hF => k_asm); (case hX => k_asm); (case hN => k_asm); (case hT => k_asm); (case hx => k_mem); (case hcl => first | assumption | decide +kernel); (case hp => trivial); (case hd => ktr_room); (case hu => ktr_units); k_whole); intro r2z9 n2z9 h2z9 tk2z9 F2z9 N2z9 hR2z9; obtain ⟨hr2z9, hn2z9⟩ := hR2z9; subst hr2z9 hn2z9; (try dsimp only); (try k_sweep)) | with_reducible ((with_reducible show wpAny _ _ (call (Value.builtin "str.replace") _ _) _ _ _); (refine SC.replaceW (Nat.succ_ne_zero _) (Nat.succ_ne_zero _) (Nat.ne_of_lt (Nat.lt_succ_self _)) (by decide) (by decide) (by decide) ?_; intro t3z9 tk3z9; simp only [lo_eq, so_eq])) | with_reducible ((with_reducible show wpAny _ _ (execs [] _) _ _ _); ((with_reducible refine wpAny_execs_nil ?_); try dsimp only)) | with_reducible ((with_reducible show wpAny _ _ (execs (_ :: _) _) _ _ _); ((with_reducible refine cons_pos ?_); intro tkz9; try dsimp only)) | with_reducible ((with_reducible show wpAny _ _ (exec (Stmt.For (Expr.Tuple _ _ _) _ _ _ _) _) _ _ _); (k_here; k_dflt (refine wpAny_For ?_ (by intro _; with_unfolding_all rfl)))) | with_reducible ((with_reducible show wpAny _ _ (call (Value.builtin "str.join") _ _) _ _ _); (k_here; k_dflt (refine' join3 ?kN ?km ?kz ?_; (case kN => k_asm); (case km => k_mem); (case kz => exact join_small hb1 hc1 hT2); k_whole))) | walk1) | (dsimp only; (first | with_reducible ((with_reducible show wpAny _ _ (call (Value.ref 99) _ _) _ _ _); (try simp only [lo_eq, so_eq]); k_dflt (refine' use (fmtp_con _ _ _ _ _ _ _ _ _ ?hv ?hp ?hb ?hq) ?hB ?hF ?hX ?hN ?hT ?hpr ?hd ?hu ?_; (case hB => k_asm); (case hF => k_asm); (case hX => k_asm); (case hN => k_asm); (case hT => k_asm); (case hv => assumption); (case hp => decide +kernel); (case hb => assumption); (case hq => assumption); (case hpr => trivial); (case hd => ktr_room); (case hu => ktr_units); k_whole); intro r2z9 n2z9 h2z9 tk2z9 F2z9 N2z9 hR2z9; obtain ⟨hn2z9, t2z9, hr2z9⟩ := hR2z9; subst hr2z9 hn2z9; (try dsimp only); (try k_sweep)) | with_reducible ((with_reducible show wpAny _ _ (call (Value.ref 121) _ _) _ _ _); k_dflt (refine' use (cst_con _ _ _ _ _ _ _ _ _ _ ?hx ?hcl) ?hB ?hF ?hX ?hN ?hT ?hp ?hd ?hu ?_; (case hB => k_asm); (case hF => k_asm); (case hX => k_asm); (case hN => k_asm); (case hT => k_asm); (case hx => k_mem); (case hcl => first | assumption | decide +kernel); (case hp => trivial); (case hd => ktr_room); (case hu => ktr_units); k_whole); intro r2z9 n2z9 h2z9 tk2z9 F2z9 N2z9 hR2z9; obtain ⟨hr2z9, hn2z9⟩ := hR2z9; subst hr2z9 hn2z9; (try dsimp only); (try k_sweep)) | with_reducible ((with_reducible show wpAny _ _ (call (Value.builtin "str.replace") _ _) _ _ _); (refine SC.replaceW (Nat.succ_ne_zero _) (Nat.succ_ne_zero _) (Nat.ne_of_lt (Nat.lt_succ_self _)) (by decide) (by decide) (by decide) ?_; intro t3z9 tk3z9; simp only [lo_eq, so_eq])) | with_reducible ((with_reducible show wpAny _ _ (execs [] _) _ _ _); ((with_reducible refine wpAny_execs_nil ?_); try dsimp only)) | with_reducible ((with_reducible show wpAny _ _ (execs (_ :: _) _) _ _ _); ((with_reducible refine cons_pos ?_); intro tkz9; try dsimp only)) | with_reducible ((with_reducible show wpAny _ _ (exec (Stmt.For (Expr.Tuple _ _ _) _ _ _ _) _) _ _ _); (k_here; k_dflt (refine wpAny_For ?_ (by intro _; with_unfolding_all rfl)))) | with_reducible ((with_reducible show wpAny _ _ (call (Value.builtin "str.join") _ _) _ _ _); (k_here; k_dflt (refine' join3 ?kN ?km ?kz ?_; (case kN => k_asm); (case km => k_mem); (case kz => exact join_small hb1 hc1 hT2); k_whole))) | walk1)) | (leave1; (try dsimp only)) | fail "no step")
  (rename Fr _ _ _ _ => F0)
  (rename News _ _ _ _ => N0)
  refine' loop_partsS (T1 := PySem.Str.ofString "level-of" ++ PySem.Str.ofString "=\"" ++ c ++ PySem.Str.ofString "\"") (T2 := T2) (k0 := PySem.Str.ofString "level_of") (k1 := PySem.Str.ofString "share_of") (d0 := PyData.str c) (d1 := d1) ?hh ?hxk ?hxv ?hp ?hvw ?hT F0 N0 ?hd ?htl ?hz ?v1 hS ?turn ?done
  (case hh => rfl)
  (case hxk => rfl)
  (case hxv => rfl)
  (case hp => rfl)
  (case hvw => exact ⟨_, (N0 _ (List.mem_cons_self ..)).1, rfl, rfl⟩)
  (case hT => k_tabat)
  (case hd => k_mem)
  (case htl => k_all)
  (case hz => exact Nat.le_of_ble_eq_true rfl)
  (case v1 => exact .text _ _ _ lo_eq (by decide +kernel) (by decide +kernel) (by decide +kernel) hc hc1 hc2)
  (case turn =>
    clear hT hT2 hfv hS hc hc1 hc2 hb hb1
    intro k T d v t ps n s₁ own hP hfl hps hall F1 N1
    clear F0 N0
    cases hP with
    | text p e hkr hkl hkn hpl he he1 he2 =>
      obtain ⟨he2, he3⟩ := Bool.and_eq_true_iff.mp he2
      obtain ⟨tf, rfl⟩ := PyProof.V.Flat.str_inv hfl
      simp only [List.cons_append, List.forall_mem_cons] at hall
      simp only [List.cons_append] at N1
      obtain ⟨_, _, _, _, hR⟩ := hall
      (try k_fold)
      repeat' (first | (k_unfold; (try dsimp only)) | (k_end; kc_close) | (first | with_reducible ((with_reducible show wpAny _ _ (call (Value.ref 99) _ _) _ _ _); (try simp only [hkr]); k_dflt (refine' use (fmtp_con _ _ _ _ _ _ _ _ _ ?hv ?hp ?hb ?hq) ?hB ?hF ?hX ?hN ?hT ?hpr ?hd ?hu ?_; (case hB => k_asm); (case hF => k_asm); (case hX => k_asm); (case hN => k_asm); (case hT => k_asm); (case hv => assumption); (case hp => assumption); (case hb => assumption); (case hq => assumption); (case hpr => trivial); (case hd => ktr_room); (case hu => ktr_units); k_whole); intro r2z9 n2z9 h2z9 tk2z9 F2z9 N2z9 hR2z9; obtain ⟨hn2z9, t2z9, hr2z9⟩ := hR2z9; subst hr2z9 hn2z9; (try dsimp only); (try k_sweep)) | with_reducible ((with_reducible show wpAny _ _ (call (Value.ref 121) _ _) _ _ _); k_dflt (refine' use (cst_con _ _ _ _ _ _ _ _ _ _ ?hx ?hcl) ?hB ?hF ?hX ?hN ?hT ?hp ?hd ?hu ?_; (case hB => k_asm); (case hF => k_asm); (case hX => k_asm); (case hN => k_asm); (case hT => k_asm); (case hx => k_mem); (case hcl => first | assumption | (rw [if_pos rfl]; assumption) | decide +kernel); (case hp => trivial); (case hd => ktr_room); (case hu => ktr_units); k_whole); intro r2z9 n2z9 h2z9 tk2z9 F2z9 N2z9 hR2z9; obtain ⟨hr2z9, hn2z9⟩ := hR2z9; subst hr2z9 hn2z9; (try dsimp only); (try k_sweep)) | with_reducible ((with_reducible show wpAny _ _ (call (Value.builtin "str.replace") _ _) _ _ _); (refine SC.replaceW (Nat.succ_ne_zero _) (Nat.succ_ne_zero _) (Nat.ne_of_lt (Nat.lt_succ_self _)) (by decide) (by assumption) (by decide) ?_; intro t3z9 tk3z9; simp only [hkr])) | with_reducible ((with_reducible show wpAny _ _ (execs [] _) _ _ _); ((with_reducible refine wpAny_execs_nil ?_); try dsimp only)) | with_reducible ((with_reducible show wpAny _ _ (execs (_ :: _) _) _ _ _); ((with_reducible refine cons_pos ?_); intro tkz9; try dsimp only)) | with_reducible ((with_reducible show wpAny _ _ (exec (Stmt.For (Expr.Tuple _ _ _) _ _ _ _) _) _ _ _); (k_here; k_dflt (refine wpAny_For ?_ (by intro _; with_unfolding_all rfl)))) | with_reducible ((with_reducible show wpAny _ _ (call (Value.builtin "str.join") _ _) _ _ _); (k_here; k_dflt (refine' join3 ?kN ?km ?kz ?_; (case kN => k_asm); (case km => k_mem); (case kz => exact join_small hb1 hc1 hT2); k_whole))) | walk1) | (dsimp only; (first | with_reducible ((with_reducible show wpAny _ _ (call (Value.ref 99) _ _) _ _ _); (try simp only [hkr]); k_dflt (refine' use (fmtp_con _ _ _ _ _ _ _ _ _ ?hv ?hp ?hb ?hq) ?hB ?hF ?hX ?hN ?hT ?hpr ?hd ?hu ?_; (case hB => k_asm); (case hF => k_asm); (case hX => k_asm); (case hN => k_asm); (case hT => k_asm); (case hv => assumption); (case hp => assumption); (case hb => assumption); (case hq => assumption); (case hpr => trivial); (case hd => ktr_room); (case hu => ktr_units); k_whole); intro r2z9 n2z9 h2z9 tk2z9 F2z9 N2z9 hR2z9; obtain ⟨hn2z9, t2z9, hr2z9⟩ := hR2z9; subst hr2z9 hn2z9; (try dsimp only); (try k_sweep)) | with_reducible ((with_reducible show wpAny _ _ (call (Value.ref 121) _ _) _ _ _); k_dflt (refine' use (cst_con _ _ _ _ _ _ _ _ _ _ ?hx ?hcl) ?hB ?hF ?hX ?hN ?hT ?hp ?hd ?hu ?_; (case hB => k_asm); (case hF => k_asm); (case hX => k_asm); (case hN => k_asm); (case hT => k_asm); (case hx => k_mem); (case hcl => first | assumption | (rw [if_pos rfl]; assumption) | decide +kernel); (case hp => trivial); (case hd => ktr_room); (case hu => ktr_units); k_whole); intro r2z9 n2z9 h2z9 tk2z9 F2z9 N2z9 hR2z9; obtain ⟨hr2z9, hn2z9⟩ := hR2z9; subst hr2z9 hn2z9; (try dsimp only); (try k_sweep)) | with_reducible ((with_reducible show wpAny _ _ (call (Value.builtin "str.replace") _ _) _ _ _); (refine SC.replaceW (Nat.succ_ne_zero _) (Nat.succ_ne_zero _) (Nat.ne_of_lt (Nat.lt_succ_self _)) (by decide) (by assumption) (by decide) ?_; intro t3z9 tk3z9; simp only [hkr])) | with_reducible ((with_reducible show wpAny _ _ (execs [] _) _ _ _); ((with_reducible refine wpAny_execs_nil ?_); try dsimp only)) | with_reducible ((with_reducible show wpAny _ _ (execs (_ :: _) _) _ _ _); ((with_reducible refine cons_pos ?_); intro tkz9; try dsimp only)) | with_reducible ((with_reducible show wpAny _ _ (exec (Stmt.For (Expr.Tuple _ _ _) _ _ _ _) _) _ _ _); (k_here; k_dflt (refine wpAny_For ?_ (by intro _; with_unfolding_all rfl)))) | with_reducible ((with_reducible show wpAny _ _ (call (Value.builtin "str.join") _ _) _ _ _); (k_here; k_dflt (refine' join3 ?kN ?km ?kz ?_; (case kN => k_asm); (case km => k_mem); (case kz => exact join_small hb1 hc1 hT2); k_whole))) | walk1)) | (leave1; (try dsimp only)) | fail "no step")
      all_goals first | exact PartEnd.mk (by k_asm) (by k_asm) (by intro y h1 h2; (repeat (refine (if_neg (by assumption)).trans ?_)); rfl)
    | none _ hkr hkl hkn =>
      have hv0 := PyProof.V.Flat.none_inv hfl
      subst hv0
      simp only [List.cons_append, List.forall_mem_cons] at hall
      simp only [List.cons_append] at N1
      obtain ⟨_, _, _, _, hR⟩ := hall
      (try k_fold)
      repeat' (first | (k_unfold; (try dsimp only)) | (k_end; kc_close) | (first | with_reducible ((with_reducible show wpAny _ _ (call (Value.ref 99) _ _) _ _ _); (try simp only [hkr]); k_dflt (refine' use (fmtp_con _ _ _ _ _ _ _ _ _ ?hv ?hp ?hb ?hq) ?hB ?hF ?hX ?hN ?hT ?hpr ?hd ?hu ?_; (case hB => k_asm); (case hF => k_asm); (case hX => k_asm); (case hN => k_asm); (case hT => k_asm); (case hv => assumption); (case hp => assumption); (case hb => assumption); (case hq => assumption); (case hpr => trivial); (case hd => ktr_room); (case hu => ktr_units); k_whole); intro r2z9 n2z9 h2z9 tk2z9 F2z9 N2z9 hR2z9; obtain ⟨hn2z9, t2z9, hr2z9⟩ := hR2z9; subst hr2z9 hn2z9; (try dsimp only); (try k_sweep)) | with_reducible ((with_reducible show wpAny _ _ (call (Value.ref 121) _ _) _ _ _); k_dflt (refine' use (cst_con _ _ _ _ _ _ _ _ _ _ ?hx ?hcl) ?hB ?hF ?hX ?hN ?hT ?hp ?hd ?hu ?_; (case hB => k_asm); (case hF => k_asm); (case hX => k_asm); (case hN => k_asm); (case hT => k_asm); (case hx => k_mem); (case hcl => first | assumption | (rw [if_pos rfl]; assumption) | decide +kernel); (case hp => trivial); (case hd => ktr_room); (case hu => ktr_units); k_whole); intro r2z9 n2z9 h2z9 tk2z9 F2z9 N2z9 hR2z9; obtain ⟨hr2z9, hn2z9⟩ := hR2z9; subst hr2z9 hn2z9; (try dsimp only); (try k_sweep)) | with_reducible ((with_reducible show wpAny _ _ (call (Value.builtin "str.replace") _ _) _ _ _); (refine SC.replaceW (Nat.succ_ne_zero _) (Nat.succ_ne_zero _) (Nat.ne_of_lt (Nat.lt_succ_self _)) (by decide) (by assumption) (by decide) ?_; intro t3z9 tk3z9; simp only [hkr])) | with_reducible ((with_reducible show wpAny _ _ (execs [] _) _ _ _); ((with_reducible refine wpAny_execs_nil ?_); try dsimp only)) | with_reducible ((with_reducible show wpAny _ _ (execs (_ :: _) _) _ _ _); ((with_reducible refine cons_pos ?_); intro tkz9; try dsimp only)) | with_reducible ((with_reducible show wpAny _ _ (exec (Stmt.For (Expr.Tuple _ _ _) _ _ _ _) _) _ _ _); (k_here; k_dflt (refine wpAny_For ?_ (by intro _; with_unfolding_all rfl)))) | with_reducible ((with_reducible show wpAny _ _ (call (Value.builtin "str.join") _ _) _ _ _); (k_here; k_dflt (refine' join3 ?kN ?km ?kz ?_; (case kN => k_asm); (case km => k_mem); (case kz => exact join_small hb1 hc1 hT2); k_whole))) | walk1) | (dsimp only; (first | with_reducible ((with_reducible show wpAny _ _ (call (Value.ref 99) _ _) _ _ _); (try simp only [hkr]); k_dflt (refine' use (fmtp_con _ _ _ _ _ _ _ _ _ ?hv ?hp ?hb ?hq) ?hB ?hF ?hX ?hN ?hT ?hpr ?hd ?hu ?_; (case hB => k_asm); (case hF => k_asm); (case hX => k_asm); (case hN => k_asm); (case hT => k_asm); (case hv => assumption); (case hp => assumption); (case hb => assumption); (case hq => assumption); (case hpr => trivial); (case hd => ktr_room); (case hu => ktr_units); k_whole); intro r2z9 n2z9 h2z9 tk2z9 F2z9 N2z9 hR2z9; obtain ⟨hn2z9, t2z9, hr2z9⟩ := hR2z9; subst hr2z9 hn2z9; (try dsimp only); (try k_sweep)) | with_reducible ((with_reducible show wpAny _ _ (call (Value.ref 121) _ _) _ _ _); k_dflt (refine' use (cst_con _ _ _ _ _ _ _ _ _ _ ?hx ?hcl) ?hB ?hF ?hX ?hN ?hT ?hp ?hd ?hu ?_; (case hB => k_asm); (case hF => k_asm); (case hX => k_asm); (case hN => k_asm); (case hT => k_asm); (case hx => k_mem); (case hcl => first | assumption | (rw [if_pos rfl]; assumption) | decide +kernel); (case hp => trivial); (case hd => ktr_room); (case hu => ktr_units); k_whole); intro r2z9 n2z9 h2z9 tk2z9 F2z9 N2z9 hR2z9; obtain ⟨hr2z9, hn2z9⟩ := hR2z9; subst hr2z9 hn2z9; (try dsimp only); (try k_sweep)) | with_reducible ((with_reducible show wpAny _ _ (call (Value.builtin "str.replace") _ _) _ _ _); (refine SC.replaceW (Nat.succ_ne_zero _) (Nat.succ_ne_zero _) (Nat.ne_of_lt (Nat.lt_succ_self _)) (by decide) (by assumption) (by decide) ?_; intro t3z9 tk3z9; simp only [hkr])) | with_reducible ((with_reducible show wpAny _ _ (execs [] _) _ _ _); ((with_reducible refine wpAny_execs_nil ?_); try dsimp only)) | with_reducible ((with_reducible show wpAny _ _ (execs (_ :: _) _) _ _ _); ((with_reducible refine cons_pos ?_); intro tkz9; try dsimp only)) | with_reducible ((with_reducible show wpAny _ _ (exec (Stmt.For (Expr.Tuple _ _ _) _ _ _ _) _) _ _ _); (k_here; k_dflt (refine wpAny_For ?_ (by intro _; with_unfolding_all rfl)))) | with_reducible ((with_reducible show wpAny _ _ (call (Value.builtin "str.join") _ _) _ _ _); (k_here; k_dflt (refine' join3 ?kN ?km ?kz ?_; (case kN => k_asm); (case km => k_mem); (case kz => exact join_small hb1 hc1 hT2); k_whole))) | walk1)) | (leave1; (try dsimp only)) | fail "no step")
      all_goals first | exact PartEnd.mk (by k_asm) (by k_asm) (by intro y h1 h2; (repeat (refine (if_neg (by assumption)).trans ?_)); rfl))
  (case done =>
    intro u h' tk t1 t2 n F1 N1
    clear F0 N0
    (try k_fold)
    repeat' (first | (k_unfold; (try dsimp only)) | (k_end; kc_close) | (first | with_reducible ((with_reducible show wpAny _ _ (call (Value.ref 99) _ _) _ _ _); (try simp only [lo_eq, so_eq]); k_dflt (refine' use (fmtp_con _ _ _ _ _ _ _ _ _ ?hv ?hp ?hb ?hq) ?hB ?hF ?hX ?hN ?hT ?hpr ?hd ?hu ?_; (case hB => k_asm); (case hF => k_asm); (case hX => k_asm); (case hN => k_asm); (case hT => k_asm); (case hv => assumption); (case hp => decide +kernel); (case hb => assumption); (case hq => assumption); (case hpr => trivial); (case hd => ktr_room); (case hu => ktr_units); k_whole); intro r2z9 n2z9 h2z9 tk2z9 F2z9 N2z9 hR2z9; obtain ⟨hn2z9, t2z9, hr2z9⟩ := hR2z9; subst hr2z9 hn2z9; (try dsimp only); (try k_sweep)) | with_reducible ((with_reducible show wpAny _ _ (call (Value.ref 121) _ _) _ _ _); k_dflt (refine' use (cst_con _ _ _ _ _ _ _ _ _ _ ?hx ?hcl) ?hB ?hF ?hX ?hN ?hT ?hp ?hd ?hu ?_; (case hB => k_asm); (case hF => k_asm); (case hX => k_asm); (case hN => k_asm); (case hT => k_asm); (case hx => k_mem); (case hcl => first | assumption | decide +kernel); (case hp => trivial); (case hd => ktr_room); (case hu => ktr_units); k_whole); intro r2z9 n2z9 h2z9 tk2z9 F2z9 N2z9 hR2z9; obtain ⟨hr2z9, hn2z9⟩ := hR2z9; subst hr2z9 hn2z9; (try dsimp only); (try k_sweep)) | with_reducible ((with_reducible show wpAny _ _ (call (Value.builtin "str.replace") _ _) _ _ _); (refine SC.replaceW (Nat.succ_ne_zero _) (Nat.succ_ne_zero _) (Nat.ne_of_lt (Nat.lt_succ_self _)) (by decide) (by decide) (by decide) ?_; intro t3z9 tk3z9; simp only [lo_eq, so_eq])) | with_reducible ((with_reducible show wpAny _ _ (execs [] _) _ _ _); ((with_reducible refine wpAny_execs_nil ?_); try dsimp only)) | with_reducible ((with_reducible show wpAny _ _ (execs (_ :: _) _) _ _ _); ((with_reducible refine cons_pos ?_); intro tkz9; try dsimp only)) | with_reducible ((with_reducible show wpAny _ _ (exec (Stmt.For (Expr.Tuple _ _ _) _ _ _ _) _) _ _ _); (k_here; k_dflt (refine wpAny_For ?_ (by intro _; with_unfolding_all rfl)))) | with_reducible ((with_reducible show wpAny _ _ (call (Value.builtin "str.join") _ _) _ _ _); (k_here; k_dflt (refine' join3 ?kN ?km ?kz ?_; (case kN => k_asm); (case km => k_mem); (case kz => exact join_small hb1 hc1 hT2); k_whole))) | walk1) | (dsimp only; (first | with_reducible ((with_reducible show wpAny _ _ (call (Value.ref 99) _ _) _ _ _); (try simp only [lo_eq, so_eq]); k_dflt (refine' use (fmtp_con _ _ _ _ _ _ _ _ _ ?hv ?hp ?hb ?hq) ?hB ?hF ?hX ?hN ?hT ?hpr ?hd ?hu ?_; (case hB => k_asm); (case hF => k_asm); (case hX => k_asm); (case hN => k_asm); (case hT => k_asm); (case hv => assumption); (case hp => decide +kernel); (case hb => assumption); (case hq => assumption); (case hpr => trivial); (case hd => ktr_room); (case hu => ktr_units); k_whole); intro r2z9 n2z9 h2z9 tk2z9 F2z9 N2z9 hR2z9; obtain ⟨hn2z9, t2z9, hr2z9⟩ := hR2z9; subst hr2z9 hn2z9; (try dsimp only); (try k_sweep)) | with_reducible ((with_reducible show wpAny _ _ (call (Value.ref 121) _ _) _ _ _); k_dflt (refine' use (cst_con _ _ _ _ _ _ _ _ _ _ ?hx ?hcl) ?hB ?hF ?hX ?hN ?hT ?hp ?hd ?hu ?_; (case hB => k_asm); (case hF => k_asm); (case hX => k_asm); (case hN => k_asm); (case hT => k_asm); (case hx => k_mem); (case hcl => first | assumption | decide +kernel); (case hp => trivial); (case hd => ktr_room); (case hu => ktr_units); k_whole); intro r2z9 n2z9 h2z9 tk2z9 F2z9 N2z9 hR2z9; obtain ⟨hr2z9, hn2z9⟩ := hR2z9; subst hr2z9 hn2z9; (try dsimp only); (try k_sweep)) | with_reducible ((with_reducible show wpAny _ _ (call (Value.builtin "str.replace") _ _) _ _ _); (refine SC.replaceW (Nat.succ_ne_zero _) (Nat.succ_ne_zero _) (Nat.ne_of_lt (Nat.lt_succ_self _)) (by decide) (by decide) (by decide) ?_; intro t3z9 tk3z9; simp only [lo_eq, so_eq])) | with_reducible ((with_reducible show wpAny _ _ (execs [] _) _ _ _); ((with_reducible refine wpAny_execs_nil ?_); try dsimp only)) | with_reducible ((with_reducible show wpAny _ _ (execs (_ :: _) _) _ _ _); ((with_reducible refine cons_pos ?_); intro tkz9; try dsimp only)) | with_reducible ((with_reducible show wpAny _ _ (exec (Stmt.For (Expr.Tuple _ _ _) _ _ _ _) _) _ _ _); (k_here; k_dflt (refine wpAny_For ?_ (by intro _; with_unfolding_all rfl)))) | with_reducible ((with_reducible show wpAny _ _ (call (Value.builtin "str.join") _ _) _ _ _); (k_here; k_dflt (refine' join3 ?kN ?km ?kz ?_; (case kN => k_asm); (case km => k_mem); (case kz => exact join_small hb1 hc1 hT2); k_whole))) | walk1)) | (leave1; (try dsimp only)) | fail "no step")
    (rename @LT.lt Nat _ _ _ ∧ _ => hl)
    (rename News h₀ L _ _ => NE)
    rw [hT] at NE
    obtain ⟨nw, NW, hR⟩ := endH NE hl.2.2.2
    exact hret _ _ _ _ (by k_asm) NW hR)
theorem addh_con (w : World) (mean : ExcName → Option Value) (mg mb : Str → Option Value) (rest : List (Addr × Obj)) (x d H : Addr) (hs : Array Value) (nv : Nat) (a b c e : PySem.Str) (t0 t1 t2 t3 t4 : Tok) 
   (ha : clean codeN a = true) (hb : clean codeV b = true) (hc : clean codeV c = true) (he : clean codeV e = true)
   (hb1 : b.length ≤ 3) (hc1 : c.length = 1) (hc2 : hasNot c (PySem.Str.ofString "\\") = true) (hc3 : hasNot c (PySem.Str.ofString "\"") = true)
   (he1 : e.length = 1) (he2 : hasNot e (PySem.Str.ofString "\\") = true) (he3 : hasNot e (PySem.Str.ofString "\"") = true)
   (hxH : @LT.lt Nat _ x H) (hdH : @LT.lt Nat _ d H) (hsz : hs.size ≤ 100) (hoff : ∀ p ∈ rest, p.1 ≠ H) :
    ConP 5 w mean mg mb 217 ((x, instObj 220 d) :: (d, dictOf [{ hash := PyData.keyHash w.params (PySem.Str.ofString "_headers"), key := .str (PySem.Str.ofString "_headers") t0, val := .ref H }] 1) :: (H, W.listOf hs nv) :: rest) [.ref x, .str a t1, .str b t2] [(Str.ofString "level_of", .str c t3), (Str.ofString "share_of", .str e t4)] (fun s => 1 ≤ s.toks) (RetH w x d H t0 hs nv rest a (hdr b c e)) :=
  addg_con w mean mg mb rest x d H hs nv a b c _ _ _ _ t0 t1 t2 t3 ha hb hc hb1 hc1 (Bool.and_eq_true_iff.mpr ⟨hc2, hc3⟩) (.text _ _ _ so_eq (by decide +kernel) (by decide +kernel) (by decide +kernel) he he1 (Bool.and_eq_true_iff.mpr ⟨he2, he3⟩)) (.str _ _) (Nat.le_of_eq (part_len (by decide +kernel) he1)) (join_hdr b c e) hxH hdH hsz hoff
theorem addh0_con (w : World) (mean : ExcName → Option Value) (mg mb : Str → Option Value) (rest : List (Addr × Obj)) (x d H : Addr) (hs : Array Value) (nv : Nat) (a b c : PySem.Str) (t0 t1 t2 t3 : Tok) 
   (ha : clean codeN a = true) (hb : clean codeV b = true) (hc : clean codeV c = true)
   (hb1 : b.length ≤ 3) (hc1 : c.length = 1) (hc2 : hasNot c (PySem.Str.ofString "\\") = true) (hc3 : hasNot c (PySem.Str.ofString "\"") = true)
   (hxH : @LT.lt Nat _ x H) (hdH : @LT.lt Nat _ d H) (hsz : hs.size ≤ 100) (hoff : ∀ p ∈ rest, p.1 ≠ H) :
    ConP 5 w mean mg mb 217 ((x, instObj 220 d) :: (d, dictOf [{ hash := PyData.keyHash w.params (PySem.Str.ofString "_headers"), key := .str (PySem.Str.ofString "_headers") t0, val := .ref H }] 1) :: (H, W.listOf hs nv) :: rest) [.ref x, .str a t1, .str b t2] [(Str.ofString "level_of", .str c t3), (Str.ofString "share_of", .none)] (fun s => 1 ≤ s.toks) (RetH w x d H t0 hs nv rest a (hdr0 b c)) :=
  addg_con w mean mg mb rest x d H hs nv a b c _ _ _ _ t0 t1 t2 t3 ha hb hc hb1 hc1 (Bool.and_eq_true_iff.mpr ⟨hc2, hc3⟩) (.none _ _ so_eq (by decide +kernel) (by decide +kernel)) .none (by decide +kernel) (join_hdr0 b c) hxH hdH hsz hoff
end Mine
end

section
open PySem PySem.W PyProof.Rows PySem.Spec PySem.Calls
set_option maxRecDepth 100000
set_option maxHeartbeats 8000000
namespace Mine
open PyProof.Rows.LCg PyProof.Rows.LCt
section
variable {prog : Program} {w : World} {A : Around} {s : Shared} {h₀ : Heap} {L : Addr} {m : PySem.Str → Option Value} {env : Env} {ct elt : Expr} {x : PySem.Str} {scope : Scope} {cl : List (PySem.Str × Addr)} {S : List (Addr × Obj) → Prop} {P : Nat → Value → Prop} {Fin : List Value → List (Addr × Obj) → Prop}
theorem compEnd_mono {s₁ : Shared} {I C D : Addr} {oI oC oD : Obj} {r r' : Value → List (Addr × Obj) → Prop} {y : Value} {s₂ : Shared} (h : ∀ y nw, r y nw → r' y nw) (c : CompEnd h₀ L m s₁ I oI C oC D oD S r y s₂) : CompEnd h₀ L m s₁ I oI C oC D oD S r' y s₂ :=
  let ⟨h', tk, nw, e, F, N, o, hS, hr⟩ := c; ⟨h', tk, nw, e, F, N, o, hS, h _ _ hr⟩
/-- a comprehension with a test, turn by turn under a word -/
theorem compT (Inv : Nat → List Value → List (Addr × Obj) → Prop) {n : Nat}
    (turn : ∀ i ys news v I oI C oC D m₂ h tk (E' : Value → Shared → Prop), i < n → Inv i ys news → P i v → NsObj oC m₂ → m₂ x = some v → Fr h₀ L h m → News h₀ L h ((I, oI) :: (C, oC) :: (D, lst ys) :: news) → Off3 I C D news → ((@Ne Nat I C) ∧ (@Ne Nat I D) ∧ (@Ne Nat C D)) →
      wpAny (model prog w) A (isTrue ct (compEnvC scope cl C env) (eval ct (compEnvC scope cl C env))) (fun ok s' => if ok = true then
        wpAny (model prog w) A (eval elt (compEnvC scope cl C env)) (CompEnd h₀ L m { s with heap := h, toks := tk } I oI C oC D (lst ys) S (fun y news' => Inv (i + 1) (ys ++ [y]) news')) E' s'
        else CompEnd h₀ L m { s with heap := h, toks := tk } I oI C oC D (lst ys) S (fun _ news' => Inv (i + 1) ys news') Value.none s') E' { s with heap := h, toks := tk })
    (fin : ∀ ys news, Inv n ys news → Fin ys news) : ∀ (k i : Nat) (ys : List Value) (news : List (Addr × Obj)), i + k = n → Inv i ys news → CompRestT prog w A h₀ L m env ct elt x scope cl s S P Fin k i ys news
  | 0, i, ys, news, e, h => CompRestT.zero (fin ys news (by rw [← e]; exact h))
  | k + 1, i, ys, news, e, hI => by
    refine CompRestT.succ fun v I oI C oC D m₂ h tk E' hP hN hx F N o d => ?_
    refine wpAny_mono (turn i ys news v I oI C oC D m₂ h tk E' (by lia) hI hP hN hx F N o d) (fun ok s' hs => ?_) fun _ _ e => e
    cases ok with
    | true =>
      simp only [if_true] at hs ⊢
      exact wpAny_mono hs (fun y s₂ c => compEnd_mono (fun y nw hi => compT Inv turn fin k (i + 1) (ys ++ [y]) nw (by lia) hi) c) fun _ _ e => e
    | false =>
      simp only [Bool.false_eq_true, if_false] at hs ⊢
      exact compEnd_mono (fun _ nw hi => compT Inv turn fin k (i + 1) ys nw (by lia) hi) hs
/-- a comprehension without a test, turn by turn under a word -/
theorem compU (Inv : Nat → List Value → List (Addr × Obj) → Prop) {n : Nat}
    (turn : ∀ i ys news v I oI C oC D m₂ h tk (E' : Value → Shared → Prop), i < n → Inv i ys news → P i v → NsObj oC m₂ → m₂ x = some v → Fr h₀ L h m → News h₀ L h ((I, oI) :: (C, oC) :: (D, lst ys) :: news) → Off3 I C D news → ((@Ne Nat I C) ∧ (@Ne Nat I D) ∧ (@Ne Nat C D)) →
      wpAny (model prog w) A (eval elt (compEnvC scope cl C env)) (CompEnd h₀ L m { s with heap := h, toks := tk } I oI C oC D (lst ys) S (fun y news' => Inv (i + 1) (ys ++ [y]) news')) E' { s with heap := h, toks := tk })
    (fin : ∀ ys news, Inv n ys news → Fin ys news) : ∀ (k i : Nat) (ys : List Value) (news : List (Addr × Obj)), i + k = n → Inv i ys news → CompRest prog w A h₀ L m env elt x scope cl s S P Fin k i ys news
  | 0, i, ys, news, e, h => CompRest.zero (fin ys news (by rw [← e]; exact h))
  | k + 1, i, ys, news, e, hI => by
    refine CompRest.succ fun v I oI C oC D m₂ h tk E' hP hN hx F N o d => ?_
    refine wpAny_mono (turn i ys news v I oI C oC D m₂ h tk E' (by lia) hI hP hN hx F N o d) (fun y s' c => ?_) fun _ _ e => e
    exact compEnd_mono (fun y nw hi => compU Inv turn fin k (i + 1) (ys ++ [y]) nw (by lia) hi) c
/-- the same where no turn changes the ledger -/
theorem compT_fix (Inv : Nat → List Value → Prop) {n : Nat} {news : List (Addr × Obj)} (h0 : Inv 0 [])
    (turn : ∀ i ys v I oI C oC D m₂ h tk (E' : Value → Shared → Prop), i < n → Inv i ys → P i v → NsObj oC m₂ → m₂ x = some v → Fr h₀ L h m → News h₀ L h ((I, oI) :: (C, oC) :: (D, lst ys) :: news) → Off3 I C D news → S news → ((@Ne Nat I C) ∧ (@Ne Nat I D) ∧ (@Ne Nat C D)) →
      wpAny (model prog w) A (isTrue ct (compEnvC scope cl C env) (eval ct (compEnvC scope cl C env))) (fun ok s' => if ok = true then
        wpAny (model prog w) A (eval elt (compEnvC scope cl C env)) (CompEnd h₀ L m { s with heap := h, toks := tk } I oI C oC D (lst ys) S (fun y nw => nw = news ∧ Inv (i + 1) (ys ++ [y]))) E' s'
        else CompEnd h₀ L m { s with heap := h, toks := tk } I oI C oC D (lst ys) S (fun _ nw => nw = news ∧ Inv (i + 1) ys) Value.none s') E' { s with heap := h, toks := tk })
    (hS : S news) (fin : ∀ ys, Inv n ys → Fin ys news) : CompRestT prog w A h₀ L m env ct elt x scope cl s S P Fin n 0 [] news :=
  compT (fun i ys nw => nw = news ∧ Inv i ys) (fun i ys nw v I oI C oC D m₂ h tk E' hi hI hP hN hx F N o d => by
    obtain ⟨rfl, hI⟩ := hI
    exact turn i ys v I oI C oC D m₂ h tk E' hi hI hP hN hx F N o hS d) (fun ys nw h => by obtain ⟨rfl, h⟩ := h; exact fin ys h) n 0 [] news (Nat.zero_add n) ⟨rfl, h0⟩
theorem compU_fix (Inv : Nat → List Value → Prop) {n : Nat} {news : List (Addr × Obj)} (h0 : Inv 0 [])
    (turn : ∀ i ys v I oI C oC D m₂ h tk (E' : Value → Shared → Prop), i < n → Inv i ys → P i v → NsObj oC m₂ → m₂ x = some v → Fr h₀ L h m → News h₀ L h ((I, oI) :: (C, oC) :: (D, lst ys) :: news) → Off3 I C D news → S news → ((@Ne Nat I C) ∧ (@Ne Nat I D) ∧ (@Ne Nat C D)) →
      wpAny (model prog w) A (eval elt (compEnvC scope cl C env)) (CompEnd h₀ L m { s with heap := h, toks := tk } I oI C oC D (lst ys) S (fun y nw => nw = news ∧ Inv (i + 1) (ys ++ [y]))) E' { s with heap := h, toks := tk })
    (hS : S news) (fin : ∀ ys, Inv n ys → Fin ys news) : CompRest prog w A h₀ L m env elt x scope cl s S P Fin n 0 [] news :=
  compU (fun i ys nw => nw = news ∧ Inv i ys) (fun i ys nw v I oI C oC D m₂ h tk E' hi hI hP hN hx F N o d => by
    obtain ⟨rfl, hI⟩ := hI
    exact turn i ys v I oI C oC D m₂ h tk E' hi hI hP hN hx F N o hS d) (fun ys nw h => by obtain ⟨rfl, h⟩ := h; exact fin ys h) n 0 [] news (Nat.zero_add n) ⟨rfl, h0⟩
theorem compEnd_fix {news : List (Addr × Obj)} {s₁ : Shared} {I C D : Addr} {oI oC oD : Obj} {r : Value → Prop} {y : Value} {h' : Heap} {tk : Nat} (F : Fr h₀ L h' m) (N : News h₀ L h' ((I, oI) :: (C, oC) :: (D, oD) :: news)) (o : Off3 I C D news) (hS : S news) (hr : r y) :
    CompEnd h₀ L m s₁ I oI C oC D oD S (fun y nw => nw = news ∧ r y) y { s₁ with heap := h', toks := tk } := ⟨h', tk, news, rfl, F, N, o, hS, rfl, hr⟩
end
end Mine
end

section
open PySem PySem.W PyProof.Rows PySem.Spec PySem.Calls
set_option maxRecDepth 100000
set_option maxHeartbeats 8000000
namespace Mine
section
variable {prog : Program} {w : World} {A : Around} {s : Shared} {env : Env} {h₀ : Heap}
noncomputable def IntEnd (h₀ : Heap) (L : Addr) (x y : PySem.Str) (m : PySem.Str → Option Value) (I : Addr) (oI : Obj) (src : Addr × Obj) (Wd : Int → List (Addr × Obj) → Prop) (s₁ : Shared) (f : Flow) (s₂ : Shared) : Prop :=
  f = .next ∧ ∃ h' tk m' nw a ta, s₂ = { s₁ with heap := h', toks := tk } ∧ Fr h₀ L h' m' ∧ m' y = some (.int a ta) ∧ (∀ z, z ≠ x → z ≠ y → m' z = m z) ∧ News h₀ L h' ((I, oI) :: nw) ∧ src ∈ nw ∧ (∀ p ∈ nw, p.1 ≠ I) ∧ Wd a nw
theorem IntEnd.mk {L : Addr} {x y : PySem.Str} {m m' : PySem.Str → Option Value} {I : Addr} {oI : Obj} {src : Addr × Obj} {Wd : Int → List (Addr × Obj) → Prop} {s₁ : Shared} {h' : Heap} {tk : Nat} {nw : List (Addr × Obj)} {a : Int} {ta : Tok}
    (F : Fr h₀ L h' m') (N : News h₀ L h' ((I, oI) :: nw)) (hy : m' y = some (.int a ta)) (hm : ∀ z, z ≠ x → z ≠ y → m' z = m z) (hs : src ∈ nw) (hn : ∀ p ∈ nw, p.1 ≠ I) (hw : Wd a nw) : IntEnd h₀ L x y m I oI src Wd s₁ .next { s₁ with heap := h', toks := tk } :=
  ⟨rfl, h', tk, m', nw, a, ta, rfl, F, hy, hm, N, hs, hn, hw⟩
theorem map_xy {m₁ m : PySem.Str → Option Value} {x y : PySem.Str} {v u : Option Value} (hy : m₁ y = u) (hm : ∀ z, z ≠ x → z ≠ y → m₁ z = m z) :
    (fun z => if z = x then v else m₁ z) = fun z => if z = x then v else if z = y then u else m z := by
  funext z
  by_cases h1 : z = x
  · simp [h1]
  · by_cases h2 : z = y
    · subst h2; simp [h1, hy]
    · simp [h1, h2, hm z h1 h2]
theorem map_xy' {m₁ m : PySem.Str → Option Value} {x y : PySem.Str} {u : Option Value} (hy : m₁ y = u) (hm : ∀ z, z ≠ x → z ≠ y → m₁ z = m z) :
    m₁ = fun z => if z = x then m₁ x else if z = y then u else m z := by
  rw [← map_xy (v := m₁ x) hy hm]
  funext z
  by_cases h1 : z = x <;> simp [h1]
/-- a for over the ints of a list of the ledger that keeps one int name and the ledger -/
theorem loop_int1 {Q : Flow → Shared → Prop} {Er : Value → Shared → Prop} {x y : PySem.Str} {px : Pos} {body : List Stmt} {l : Addr} {vs : List Value} {ns : List Int} {nn : Nat} {m : PySem.Str → Option Value} {news : List (Addr × Obj)} {E : Value → Shared → Prop} {a₀ : Int} {t₀ : Tok}
    (hh : A.handled = none) (hx : env.kindOf x = some .local) (hp : (env.scope.kind == .class || (env.scope.kind == .module && env.locals != env.globals)) = false) (hxy : y ≠ x)
    (F : Fr h₀ env.locals s.heap m) (N : News h₀ env.locals s.heap news) (hl : (l, W.listOf vs.toArray nn) ∈ news) (hi : IntsAre vs ns) (hy : m y = some (.int a₀ t₀))
    (Wd : List Int → Int → List (Addr × Obj) → Prop) (h0 : Wd [] a₀ news)
    (turn : ∀ pre k post a ta nw h tk I oI t, ns = pre ++ k :: post → Wd pre a nw → (l, W.listOf vs.toArray nn) ∈ nw → (∀ p ∈ news, @LT.lt Nat _ p.1 I) → (∀ p ∈ nw, p.1 ≠ I) →
      Fr h₀ env.locals h (fun z => if z = x then some (.int k t) else if z = y then some (.int a ta) else m z) → News h₀ env.locals h ((I, oI) :: nw) →
      wpAny (model prog w) A (execs body env) (IntEnd h₀ env.locals x y m I oI (l, W.listOf vs.toArray nn) (Wd (pre ++ [k])) s) (fun _ _ => False) { s with heap := h, toks := tk })
    (done : ∀ a ta u nw h tk, Wd ns a nw → Fr h₀ env.locals h (fun z => if z = x then u else if z = y then some (.int a ta) else m z) → News h₀ env.locals h nw → (l, W.listOf vs.toArray nn) ∈ nw → Q .next { s with heap := h, toks := tk }) :
    wpAny (model prog w) A (pyIter (.ref l)) (fun it s₂ => codeAny (model prog w) A (.forLoop (.Name x px) it body [] env) (fun r s' => match r with | .ok f => Q f s' | .error e => Er e s') s₂) E s := by
  have hsz : vs.toArray.size = ns.length := by simp [hi.length]
  refine loop_list hh F N hl (fun i m' nw => ∃ a ta, m' y = some (.int a ta) ∧ (∀ z, z ≠ x → z ≠ y → m' z = m z) ∧ Wd (ns.take i) a nw) ⟨a₀, t₀, hy, fun _ _ _ => rfl, by simpa using h0⟩ ?_ ?_
  · rintro i v m₁ nw h tk I oI hv ⟨a, ta, hy₁, hm₁, hw⟩ hl₁ hlt hn F₁ N₁
    have hlt' : i < ns.length := by
      rcases Nat.lt_or_ge i vs.toArray.size with q | q
      · rw [hsz] at q; exact q
      · rw [Array.getElem?_eq_none q] at hv; cases hv
    obtain ⟨t, hx'⟩ := hi.get i ns[i] (by simp [hlt'])
    have hv' : v = .int ns[i] t := by
      have q : vs[i]? = some v := by simpa using hv
      rw [hx'] at q; exact (Option.some.inj q).symm
    subst hv'
    refine wpAny_assign_Name (wpAny_storeName_local hx F₁.ns (fun h₂ hn₂ hs₂ => ?_) hp)
    have F₂ := F₁.set hn₂ hs₂
    have N₂ := N₁.set hs₂
    rw [map_xy hy₁ hm₁] at F₂
    have hsplit : ns = ns.take i ++ ns[i] :: ns.drop (i + 1) := by rw [List.getElem_cons_drop, List.take_append_drop]
    refine wpAny_mono (turn (ns.take i) ns[i] _ a ta nw h₂ _ I oI t hsplit hw hl₁ hlt hn F₂ N₂) (fun f s₂ he => ?_) fun _ _ e => e
    obtain ⟨rfl, h', tk', m', nw', a', ta', rfl, F', hy', hm', N', hs', hn', hw'⟩ := he
    refine ⟨h', tk', m', nw', rfl, F', N', fun p hp => by rw [List.mem_singleton.mp hp]; exact hs', hn', a', ta', hy', hm', ?_⟩
    rw [List.take_add_one, List.getElem?_eq_getElem hlt']
    exact hw'
  · rintro m' nw h' tk ⟨a, ta, hy₁, hm₁, hw⟩ hl' F' N'
    rw [hsz, List.take_length] at hw
    rw [map_xy' hy₁ hm₁] at F'
    exact done a ta _ nw h' tk hw F' N' hl'
end
end Mine
end

section
open PySem PySem.W PyProof.Rows PySem.Spec PySem.Calls
set_option maxRecDepth 100000
set_option maxHeartbeats 2000000
namespace Mine
/-- a tuple (true) or a list (false) and its iterator -/
noncomputable def SqL : Bool → Heap → Addr → Array Value → Prop
  | true, h, l, xs => h.IsTuple l xs
  | false, h, l, xs => h.IsList l xs
noncomputable def SqI : Bool → Heap → Addr → Addr → Nat → Prop
  | true, h, i, l, k => h.IsTupleIter i l k
  | false, h, i, l, k => h.IsListIter i l k
noncomputable def itn : Bool → String
  | true => "tuple_iterator"
  | false => "list_iterator"
noncomputable abbrev itO (b : Bool) (l : Addr) : Obj := { cls := .type (itn b), data := .fields #[.ref l, .int 0 0] }
section
variable {h h' : Heap} {b : Bool} {i l c : Addr} {xs : Array Value} {k : Nat}
theorem SqL.at (x : SqL b h l xs) (e : ∀ o, h.get? l = some o → h'.get? l = some o) : SqL b h' l xs := by cases b; exact Heap.IsList.at x e; exact Heap.IsTuple.at x e
theorem SqI.at (x : SqI b h i l k) (e : ∀ o, h.get? i = some o → h'.get? i = some o) : SqI b h' i l k := by cases b; exact Heap.IsListIter.at x e; exact Heap.IsTupleIter.at x e
theorem SqI.has (x : SqI b h i l k) : ∃ o, h.get? i = some o ∧ o.cls = .type (itn b) := by cases b; exact let ⟨o, e, c, _⟩ := x; ⟨o, e, c⟩; exact let ⟨o, e, c, _⟩ := x; ⟨o, e, c⟩
theorem SqL.has (x : SqL b h l xs) : ∃ o, h.get? l = some o := by cases b; exact let ⟨o, e, _⟩ := x; ⟨o, e⟩; exact let ⟨o, e, _⟩ := x; ⟨o, e⟩
theorem SqI.new (e : h.get? i = some (itO b l)) : SqI b h i l 0 := by cases b; exact ⟨_, e, rfl, rfl⟩; exact ⟨_, e, rfl, rfl⟩
end
section
variable {prog : Program} {w : World} {A : Around} {E : Value → Shared → Prop} {s : Shared}
theorem pyIter_sq {b : Bool} {l : Addr} {xs : Array Value} {Q : Value → Shared → Prop} (hl : SqL b s.heap l xs) (h : Q (.ref s.heap.objs.size) { s with heap := s.heap.push (itO b l) }) :
    wpAny (model prog w) A (pyIter (.ref l)) Q E s := by
  cases b
  · exact wpAny_pyIter_list hl h
  · exact wpAny_pyIter_tuple hl h
theorem nextT_item {it t : Addr} {i : Nat} {items : Array Value} {x : Value} {Q : Value → Shared → Prop} (hit : s.heap.IsTupleIter it t i) (ht : s.heap.IsTuple t items) (hx : items[i]? = some x)
    (hQ : ∀ h', h'.IsTupleIter it t (i + 1) → Heap.SameBut it s.heap h' → Q x { s with heap := h' }) : wpAny (model prog w) A (Builtin.SmallTypes.nextOf (.ref it)) Q E s := by
  obtain ⟨o, ho, hc, hd⟩ := id hit
  obtain ⟨q, hq, _, nq, hdq⟩ := ht
  unfold Builtin.SmallTypes.nextOf
  refine wpAny_bind (wpAny_callSpecial?_slot (name := Str.ofString "__next__") hit.typeIs F.slot_tuple_iterator_next (wpAny_call_entry F.slot_tuple_iterator_next hit.typeIs F.entry_tuple_iterator_next ?_ (F.args_tuple_iterator_next_1 _)))
  show wpAny _ _ (field (.ref it) 0 >>= _) _ _ s
  refine wpAny_bind (wpAny_field ho hd (x := .ref t) rfl ?_)
  show wpAny _ _ (if (Value.ref t == Value.none) = true then _ else _) _ _ s
  rw [if_neg (show ¬ ((Value.ref t == Value.none) = true) from Bool.false_ne_true)]
  show wpAny _ _ (field (.ref it) 1 >>= _) _ _ s
  refine wpAny_bind (wpAny_field ho hd (x := .int i 0) rfl (wpAny_bind (wpAny_seqItems hq hdq ?_)))
  simp only [Int.toNat_natCast, hx]
  refine wpAny_bind (wpAny_setField ho hd (by simp) (wpAny_pure ⟨x, rfl, wpAny_pure (hQ _ ⟨_, Heap.get?_update_self _ ho (Obj.isFreed_of_fields (Obj.data_mapFields hd _)), (Obj.cls_mapFields ..).trans hc, ?_⟩ (Heap.SameBut.update ..))⟩))
  rw [Obj.data_mapFields hd]; simp [rawInt]
theorem nextT_stop {it t : Addr} {i : Nat} {items : Array Value} {Q : Value → Shared → Prop} (hh : A.handled = none) (hit : s.heap.IsTupleIter it t i) (ht : s.heap.IsTuple t items) (hx : items[i]? = none)
    (hE : ∀ h' e, Heap.ExtBut it s.heap h' → (∃ o, h'.get? e = some o ∧ o.cls = .type "StopIteration") → E (.ref e) { s with heap := h' }) : wpAny (model prog w) A (Builtin.SmallTypes.nextOf (.ref it)) Q E s := by
  obtain ⟨o, ho, hc, hd⟩ := id hit
  obtain ⟨q, hq, _, nq, hdq⟩ := ht
  unfold Builtin.SmallTypes.nextOf
  refine wpAny_bind (wpAny_callSpecial?_slot (name := Str.ofString "__next__") hit.typeIs F.slot_tuple_iterator_next (wpAny_call_entry F.slot_tuple_iterator_next hit.typeIs F.entry_tuple_iterator_next ?_ (F.args_tuple_iterator_next_1 _)))
  show wpAny _ _ (field (.ref it) 0 >>= _) _ _ s
  refine wpAny_bind (wpAny_field ho hd (x := .ref t) rfl ?_)
  show wpAny _ _ (if (Value.ref t == Value.none) = true then _ else _) _ _ s
  rw [if_neg (show ¬ ((Value.ref t == Value.none) = true) from Bool.false_ne_true)]
  show wpAny _ _ (field (.ref it) 1 >>= _) _ _ s
  refine wpAny_bind (wpAny_field ho hd (x := .int i 0) rfl (wpAny_bind (wpAny_seqItems hq hdq ?_)))
  simp only [Int.toNat_natCast, hx]
  refine wpAny_bind (wpAny_rule (wpAny_bind (wpAny_setField ho hd (by simp) ?_)))
  show wpAny _ _ (newExc (.type "StopIteration") [] >>= _) _ _ _
  refine wpAny_bind ?_
  simp only [newExc, newTuple]
  refine wpAny_bind (wpAny_newObj_type ?_ (by size_fits))
  refine wpAny_bind (m := firstArgMember _ _) (wpAny_of_eq (a := Value.none) (by first | rfl | (simp only [firstArgMember]; rfl)) (wpAny_newObj_type ?_ (by size_fits)))
  simp only [raiseNew]
  refine wpAny_bind (wpAny_handled ?_)
  first | rw [show A.in1.handled = none from hh] | rw [hh]
  exact wpAny_bind (wpAny_pure (wpAny_throw (hE _ _ (((Heap.SameBut.update ..).extBut.push _).push _) ⟨_, Heap.get?_push_size _ rfl, rfl⟩)))
theorem next_item {b : Bool} {it l : Addr} {k : Nat} {xs : Array Value} {x : Value} {Q : Value → Shared → Prop} (hit : SqI b s.heap it l k) (hl : SqL b s.heap l xs) (hx : xs[k]? = some x)
    (hQ : ∀ h', SqI b h' it l (k + 1) → Heap.SameBut it s.heap h' → Q x { s with heap := h' }) : wpAny (model prog w) A (Builtin.SmallTypes.nextOf (.ref it)) Q E s := by
  cases b
  · exact wpAny_nextOf_list_item hit hl hx hQ
  · exact nextT_item hit hl hx hQ
theorem next_stop {b : Bool} {it l : Addr} {k : Nat} {xs : Array Value} {Q : Value → Shared → Prop} (hh : A.handled = none) (hit : SqI b s.heap it l k) (hl : SqL b s.heap l xs) (hx : xs[k]? = none)
    (hE : ∀ h' e, Heap.ExtBut it s.heap h' → (∃ o, h'.get? e = some o ∧ o.cls = .type "StopIteration") → E (.ref e) { s with heap := h' }) : wpAny (model prog w) A (Builtin.SmallTypes.nextOf (.ref it)) Q E s := by
  cases b
  · exact wpAny_nextOf_list_end hh hit hl hx hE
  · exact nextT_stop hh hit hl hx hE
end
/-- all of a zip's objects but the moving ones' state: z, its pair of iterators TI, its pair of results TO, iterators i and j over a and b -/
structure ZipAt (p q : Bool) (z TI TO i j a b : Addr) (xs ys : Array Value) (f0 : Value) (k : Nat) (h : Heap) : Prop where
  z : IsZip h z TI TO f0
  ti : IsPair h TI (.ref i) (.ref j)
  to : ∃ u v, IsPair h TO u v
  i : SqI p h i a k
  j : SqI q h j b k
  a : SqL p h a xs
  b : SqL q h b ys
theorem ZipAt.keep {p q : Bool} {z TI TO i j a b : Addr} {xs ys : Array Value} {f0 : Value} {k : Nat} {h h' : Heap} (Z : ZipAt p q z TI TO i j a b xs ys f0 k h) (e : ∀ c ∈ [z, TI, TO, i, j, a, b], ∀ o, h.get? c = some o → h'.get? c = some o) : ZipAt p q z TI TO i j a b xs ys f0 k h' where
  z := e z (by simp) _ Z.z
  ti := e TI (by simp) _ Z.ti
  to := let ⟨u, v, x⟩ := Z.to; ⟨u, v, e TO (by simp) _ x⟩
  i := Z.i.at (e i (by simp))
  j := Z.j.at (e j (by simp))
  a := Z.a.at (e a (by simp))
  b := Z.b.at (e b (by simp))
noncomputable abbrev zH1 (p : Bool) (h : Heap) (a : Addr) : Heap := h.push (itO p a)
noncomputable abbrev zH2 (p q : Bool) (h : Heap) (a b : Addr) : Heap := (zH1 p h a).push (itO q b)
noncomputable abbrev zH3 (p q : Bool) (h : Heap) (a b : Addr) : Heap := (zH2 p q h a b).push { cls := .type "tuple", data := .seq #[.ref h.objs.size, .ref (zH1 p h a).objs.size] }
noncomputable abbrev zH4 (p q : Bool) (h : Heap) (a b : Addr) : Heap := (zH3 p q h a b).push { cls := .type "tuple", data := .seq #[.none, .none] }
noncomputable abbrev zH5 (p q : Bool) (h : Heap) (a b : Addr) : Heap := (zH4 p q h a b).push { cls := .type "zip", data := .fields #[.none, .bool false, .bool false, .ref (zH2 p q h a b).objs.size, .ref (zH3 p q h a b).objs.size] }
theorem meets_zip (p q : Bool) (a b : Addr) (xs ys : Array Value) :
    Meets (Builtin.«zip.__new__» ⟨[.type "zip", .ref a, .ref b], []⟩) (fun _ R s => SqL p s.heap a xs ∧ SqL q s.heap b ys ∧ R (.ok (.ret (.ref (zH4 p q s.heap a b).objs.size))) { s with heap := zH5 p q s.heap a b }) :=
  .of_wp fun prog w A R s h => by
    obtain ⟨hp, g, d, tk, os⟩ := s
    obtain ⟨ha, hb, h⟩ := h
    have hsub := sub_zip
    have ha' : SqL p (Shared.heap ⟨hp, g, d, tk, os⟩) a xs := ha
    have hb' : SqL q (Shared.heap ⟨hp.push (itO p a), g, d, tk, os⟩) b ys := hb.at fun o e => Heap.get?_push_of_some _ e
    wp_walk using pyIter_sq ha', pyIter_sq hb'
    exact ⟨_, rfl, h⟩
end Mine
end

section
open PySem PySem.W PyProof.Rows PySem.Spec PySem.Calls
set_option maxRecDepth 100000
set_option maxHeartbeats 2000000
namespace Mine
section
variable {prog : Program} {w : World} {A : Around} {E : Value → Shared → Prop} {s : Shared} {p q : Bool} {z TI TO i j a b : Addr} {xs ys : Array Value} {k : Nat}
theorem zipAt_set {f0 f1 : Value} {h h' : Heap} (D : ZipApart z TI TO i j a b) (Z : ZipAt p q z TI TO i j a b xs ys f0 k h) (hz : IsZip h' z TI TO f1) (hs : Heap.SameBut z h h') : ZipAt p q z TI TO i j a b xs ys f1 k h' where
  z := hz
  ti := hs.extBut _ _ D.TIz Z.ti
  to := let ⟨u, v, x⟩ := Z.to; ⟨u, v, hs.extBut _ _ D.TOz x⟩
  i := Z.i.at fun o e => hs.extBut _ o D.i1z e
  j := Z.j.at fun o e => hs.extBut _ o D.i2z e
  a := Z.a.at fun o e => hs.extBut _ o D.l1z e
  b := Z.b.at fun o e => hs.extBut _ o D.l2z e
theorem zipn_item {x y : Value} {Q : Value → Shared → Prop} (D : ZipApart z TI TO i j a b) (Z : ZipAt p q z TI TO i j a b xs ys .none k s.heap) (hx : xs[k]? = some x) (hy : ys[k]? = some y)
    (hQ : ∀ h', ZipAt p q z TI TO i j a b xs ys (rawInt s.heap.objs.size) (k + 1) h' → IsPair h' s.heap.objs.size x y → (∀ c o, c ≠ z → c ≠ TO → c ≠ i → c ≠ j → s.heap.get? c = some o → h'.get? c = some o) → Q (.ref s.heap.objs.size) { s with heap := h' }) :
    wpAny (model prog w) A (Builtin.«zip.__next__» ⟨[.ref z], []⟩) (fun fin s' => ∃ v, fin = .done (.ret v) ∧ Q v s') E s := by
  obtain ⟨u, v, hTO⟩ := Z.to
  show wpAny _ _ (field (.ref z) 2 >>= _) _ _ _
  refine wpAny_bind (wpAny_field Z.z rfl (x := .bool false) rfl ?_)
  show wpAny _ _ (field (.ref z) 3 >>= _) _ _ _
  refine wpAny_bind (wpAny_field Z.z rfl (x := .ref TI) rfl (wpAny_bind (wpAny_seqItems Z.ti rfl ?_)))
  show wpAny _ _ (Builtin.SmallTypes.ownedTupleIsFree (.ref z) >>= _) _ _ _
  refine wpAny_bind ?_
  unfold Builtin.SmallTypes.ownedTupleIsFree
  refine wpAny_bind (wpAny_field Z.z rfl (x := .none) rfl (wpAny_pure ?_))
  simp only [if_true]
  refine wpAny_bind (wpAny_rule (wpAny_bind (wpAny_field Z.z rfl (x := .ref TO) rfl ?_)))
  refine wpAny_bind (wpAny_setField_rec Z.z (by simp) fun h₁ hz₁ hs₁ => ?_)
  have Z₁ : ZipAt p q z TI TO i j a b xs ys .ellipsis k h₁ := zipAt_set D Z hz₁ hs₁
  refine wpAny_bind ?_
  simp only [List.zipIdx_cons, List.zipIdx_nil, List.forIn_cons, List.forIn_nil]
  refine wpAny_bind (wpAny_bind (wpAny_onRaise ?_))
  show wpAny _ _ (Builtin.SmallTypes.nextOf (.ref i) >>= _) _ _ _
  refine wpAny_bind (next_item Z₁.i Z₁.a hx fun h₂ i₂ hs₂ => wpAny_pure ?_)
  have hTO₂ : IsPair h₂ TO u v := hs₂.extBut _ _ D.TOi1 (hs₁.extBut _ _ D.TOz hTO)
  refine wpAny_bind (wpAny_seqItems hTO₂ rfl (wpAny_bind (wpAny_updateSeq_pair hTO₂ fun h₃ hTO₃ hs₃ => wpAny_bind (wpAny_letGo (wpAny_pure ?_)))))
  replace hTO₃ : IsPair h₃ TO x v := hTO₃
  refine wpAny_bind (wpAny_bind (wpAny_onRaise ?_))
  show wpAny _ _ (Builtin.SmallTypes.nextOf (.ref j) >>= _) _ _ _
  refine wpAny_bind (next_item (Z₁.j.at fun o e => hs₃.extBut _ o D.TOi2.symm (hs₂.extBut _ o D.i12.symm e)) (Z₁.b.at fun o e => hs₃.extBut _ o D.l2TO (hs₂.extBut _ o D.l2i1 e)) hy fun h₄ j₄ hs₄ => wpAny_pure ?_)
  have hTO₄ : IsPair h₄ TO x v := hs₄.extBut _ _ D.TOi2 hTO₃
  refine wpAny_bind (wpAny_seqItems hTO₄ rfl (wpAny_bind (wpAny_updateSeq_pair hTO₄ fun h₅ hTO₅ hs₅ => wpAny_bind (wpAny_letGo (wpAny_pure (wpAny_pure ?_))))))
  replace hTO₅ : IsPair h₅ TO x y := hTO₅
  have k₅ : ∀ c o, c ≠ TO → c ≠ i → c ≠ j → h₁.get? c = some o → h₅.get? c = some o := fun c o c1 c2 c3 e => hs₅.extBut _ _ c1 (hs₄.extBut _ _ c3 (hs₃.extBut _ _ c1 (hs₂.extBut _ _ c2 e)))
  have Z₅ : ZipAt p q z TI TO i j a b xs ys .ellipsis (k + 1) h₅ :=
    { z := k₅ _ _ D.TOz.symm D.i1z.symm D.i2z.symm Z₁.z
      ti := k₅ _ _ D.TITO D.TIi1 D.TIi2 Z₁.ti
      to := ⟨_, _, hTO₅⟩
      i := ((i₂.at fun o e => hs₃.extBut _ o D.TOi1.symm e).at fun o e => hs₄.extBut _ o D.i12 e).at fun o e => hs₅.extBut _ o D.TOi1.symm e
      j := j₄.at fun o e => hs₅.extBut _ o D.TOi2.symm e
      a := Z₁.a.at fun o e => k₅ _ o D.l1TO D.l1i1 D.l1i2 e
      b := Z₁.b.at fun o e => k₅ _ o D.l2TO D.l2i1 D.l2i2 e }
  have hsz : h₅.objs.size = s.heap.objs.size := by rw [hs₅.1, hs₄.1, hs₃.1, hs₂.1, hs₁.1]
  refine wpAny_bind (wpAny_seqItems hTO₅ rfl (wpAny_bind (wpAny_newTuple ?_)))
  show wpAny _ _ (Builtin.SmallTypes.ownedTupleHandOut (.ref z) (.ref h₅.objs.size) >>= _) _ _ _
  refine wpAny_bind ?_
  unfold Builtin.SmallTypes.ownedTupleHandOut
  have hz₆ : IsZip (h₅.push { cls := .type "tuple", data := .seq #[x, y] }) z TI TO .ellipsis := Heap.get?_push_of_some _ Z₅.z
  refine wpAny_bind (wpAny_setField_rec hz₆ (by simp) fun h₇ hz₇ hs₇ => ?_)
  replace hz₇ : IsZip h₇ z TI TO (rawInt h₅.objs.size) := hz₇
  refine wpAny_setField_rec hz₇ (by simp) fun h₈ hz₈ hs₈ => ?_
  replace hz₈ : IsZip h₈ z TI TO (rawInt h₅.objs.size) := hz₈
  have zlt : z < h₅.objs.size := Heap.lt_size Z₅.z
  have up : ∀ c o, c ≠ z → h₅.get? c = some o → h₈.get? c = some o := fun c o c1 e => hs₈.extBut _ _ c1 (hs₇.extBut _ _ c1 (Heap.get?_push_of_some _ e))
  have hT : IsPair h₈ h₅.objs.size x y := hs₈.extBut _ _ (Nat.ne_of_gt zlt) (hs₇.extBut _ _ (Nat.ne_of_gt zlt) (Heap.get?_push_size _ rfl))
  refine wpAny_pure ⟨_, rfl, ?_⟩
  show Q (.ref h₅.objs.size) _
  rw [hsz] at hz₈ hT ⊢
  exact hQ h₈ { z := hz₈, ti := up _ _ D.TIz Z₅.ti, to := ⟨_, _, up _ _ D.TOz hTO₅⟩, i := Z₅.i.at fun o e => up _ o D.i1z e, j := Z₅.j.at fun o e => up _ o D.i2z e, a := Z₅.a.at fun o e => up _ o D.l1z e, b := Z₅.b.at fun o e => up _ o D.l2z e } hT
    fun c o c1 c2 c3 c4 e => up c o c1 (k₅ c o c2 c3 c4 (hs₁.extBut _ _ c1 e))
theorem zipn_end {Q : Fin → Shared → Prop} (hh : A.handled = none) (D : ZipApart z TI TO i j a b) (Z : ZipAt p q z TI TO i j a b xs ys .none k s.heap) (hx : xs[k]? = none)
    (hE : ∀ h' e, (∀ c o, c ≠ z → c ≠ TO → c ≠ i → c ≠ j → s.heap.get? c = some o → h'.get? c = some o) → (∃ o, h'.get? e = some o ∧ o.cls = .type "StopIteration") → E (.ref e) { s with heap := h' }) :
    wpAny (model prog w) A (Builtin.«zip.__next__» ⟨[.ref z], []⟩) Q E s := by
  show wpAny _ _ (field (.ref z) 2 >>= _) _ _ _
  refine wpAny_bind (wpAny_field Z.z rfl (x := .bool false) rfl ?_)
  show wpAny _ _ (field (.ref z) 3 >>= _) _ _ _
  refine wpAny_bind (wpAny_field Z.z rfl (x := .ref TI) rfl (wpAny_bind (wpAny_seqItems Z.ti rfl ?_)))
  show wpAny _ _ (Builtin.SmallTypes.ownedTupleIsFree (.ref z) >>= _) _ _ _
  refine wpAny_bind ?_
  unfold Builtin.SmallTypes.ownedTupleIsFree
  refine wpAny_bind (wpAny_field Z.z rfl (x := .none) rfl (wpAny_pure ?_))
  simp only [if_true]
  refine wpAny_bind (wpAny_rule (wpAny_bind (wpAny_field Z.z rfl (x := .ref TO) rfl ?_)))
  refine wpAny_bind (wpAny_setField_rec Z.z (by simp) fun h₁ hz₁ hs₁ => ?_)
  have Z₁ : ZipAt p q z TI TO i j a b xs ys .ellipsis k h₁ := zipAt_set D Z hz₁ hs₁
  refine wpAny_bind ?_
  simp only [List.zipIdx_cons, List.zipIdx_nil, List.forIn_cons, List.forIn_nil]
  refine wpAny_bind (wpAny_bind (wpAny_onRaise ?_))
  show wpAny _ _ (Builtin.SmallTypes.nextOf (.ref i) >>= _) _ _ _
  refine wpAny_bind (next_stop hh Z₁.i Z₁.a hx fun h₂ e hs₂ he => ?_)
  obtain ⟨oe, hoe, hce⟩ := he
  have hz₂ : IsZip h₂ z TI TO .ellipsis := hs₂ _ _ D.i1z.symm Z₁.z
  have hez : e ≠ z := fun t => by subst t; rw [hz₂] at hoe; cases hoe; simp at hce
  exact wpAny_setField_rec hz₂ (by simp) fun h₃ _ hs₃ => hE h₃ e (fun c o c1 _ c3 _ t => hs₃.extBut _ _ c1 (hs₂ _ _ c3 (hs₁.extBut _ _ c1 t))) ⟨oe, hs₃.extBut _ _ hez hoe, hce⟩
theorem pyNext_zipn_item {x y : Value} {Q : Option Value → Shared → Prop} (D : ZipApart z TI TO i j a b) (Z : ZipAt p q z TI TO i j a b xs ys .none k s.heap) (hx : xs[k]? = some x) (hy : ys[k]? = some y)
    (hQ : ∀ h', ZipAt p q z TI TO i j a b xs ys (rawInt s.heap.objs.size) (k + 1) h' → IsPair h' s.heap.objs.size x y → (∀ c o, c ≠ z → c ≠ TO → c ≠ i → c ≠ j → s.heap.get? c = some o → h'.get? c = some o) → Q (some (.ref s.heap.objs.size)) { s with heap := h' }) :
    wpAny (model prog w) A (pyNext (.ref z)) Q E s := by
  have hT : s.TypeIs (.ref z) "zip" := ⟨_, Z.z, rfl⟩
  unfold pyNext
  exact wpAny_bind (wpAny_attempt (wpAny_callSpecial?_slot (name := Str.ofString "__next__") hT F.slot_zip_next (wpAny_call_entry F.slot_zip_next hT F.entry_zip_next (zipn_item D Z hx hy fun h' a1 a2 a3 => wpAny_pure (hQ h' a1 a2 a3)) (F.args_zip_next_1 _))))
theorem pyNext_zipn_end {Q : Option Value → Shared → Prop} (hh : A.handled = none) (D : ZipApart z TI TO i j a b) (Z : ZipAt p q z TI TO i j a b xs ys .none k s.heap) (hx : xs[k]? = none)
    (hQ : ∀ h', (∀ c o, c ≠ z → c ≠ TO → c ≠ i → c ≠ j → s.heap.get? c = some o → h'.get? c = some o) → Q none { s with heap := h' }) : wpAny (model prog w) A (pyNext (.ref z)) Q E s := by
  have hT : s.TypeIs (.ref z) "zip" := ⟨_, Z.z, rfl⟩
  unfold pyNext
  refine wpAny_bind (wpAny_attempt (wpAny_callSpecial?_slot (name := Str.ofString "__next__") hT F.slot_zip_next (wpAny_call_entry F.slot_zip_next hT F.entry_zip_next (zipn_end hh D Z hx fun h' e hk he => ?_) (F.args_zip_next_1 _))))
  obtain ⟨o, ho, hc⟩ := he
  exact wpAny_bind (wpAny_isInstance (T := "StopIteration") (b := true) ⟨o, ho, hc⟩ isSubtype_stop (wpAny_pure (hQ _ hk)))
end
end Mine
end

section
open PySem PySem.W PyProof.Rows PySem.Spec PySem.Calls
set_option maxRecDepth 100000
set_option maxHeartbeats 2000000
namespace Mine
open PyProof.Rows.LCg
section
variable {prog : Program} {w : World} {A : Around} {E : Value → Shared → Prop} {s : Shared} {env : Env} {h₀ : Heap} {L : Addr} {m : PySem.Str → Option Value}
theorem walkZ (hh : A.handled = none) (p q : Bool) (z TI TO i j a b : Addr) (D : ZipApart z TI TO i j a b) (xs ys : Array Value) (hs : xs.size = ys.size) :
    WalksT prog w A z [z, TI, TO, i, j, a, b] [z, TO, i, j] xs.size (fun k vals => ∃ x y, xs[k]? = some x ∧ ys[k]? = some y ∧ vals = #[x, y]) (fun k h => ZipAt p q z TI TO i j a b xs ys .none k h)
      (fun k T h => ZipAt p q z TI TO i j a b xs ys (rawInt T) (k + 1) h ∧ T ∉ [z, TO, i, j]) where
  sub := fun c hc => by simp at hc ⊢; rcases hc with rfl | rfl | rfl | rfl <;> simp
  frame := fun k h h' Z e => Z.keep e
  item := fun k s Q E hk Z hQ => by
    have hk' : k < ys.size := hs ▸ hk
    refine pyNext_zipn_item D Z (Array.getElem?_eq_getElem hk) (Array.getElem?_eq_getElem hk') fun h' Z' hT hkeep => ?_
    have ne : ∀ {c o}, s.heap.get? c = some o → s.heap.objs.size ≠ c := fun e => Nat.ne_of_gt (Heap.lt_size e)
    obtain ⟨_, _, eTO⟩ := Z.to
    obtain ⟨_, ei, _⟩ := Z.i.has
    obtain ⟨_, ej, _⟩ := Z.j.has
    refine hQ s.heap.objs.size #[xs[k], ys[k]] h' s.toks ⟨_, _, Array.getElem?_eq_getElem hk, Array.getElem?_eq_getElem hk', rfl⟩ (Nat.le_refl _) ⟨_, hT, rfl, _, rfl⟩ ⟨Z', ?_⟩ fun c o hc e => hkeep c o (fun x => hc (by simp [x])) (fun x => hc (by simp [x])) (fun x => hc (by simp [x])) (fun x => hc (by simp [x])) e
    intro hm
    simp only [List.mem_cons, List.not_mem_nil, or_false] at hm
    rcases hm with e | e | e | e
    · exact ne Z.z e
    · exact ne eTO e
    · exact ne ei e
    · exact ne ej e
  go := fun elts x1 pos k T s Q E hm hQ => by
    refine wpAny_letOwnedTupleGo_zip hm.1.z fun h' hz' hs' => hQ h' (zipAt_set D hm.1 hz' hs') fun c o hc e => hs'.extBut _ _ (fun x => hc (by simp [x])) e
  apart := fun k T h hm => hm.2
  done := fun s Q E Z hQ => pyNext_zipn_end hh D Z (Array.getElem?_eq_none (Nat.le_refl _)) fun h' hk => hQ h' s.toks fun c o hc e =>
    hk c o (fun x => hc (by simp [x])) (fun x => hc (by simp [x])) (fun x => hc (by simp [x])) (fun x => hc (by simp [x])) e
  self := fun k s Q E Z hQ => wpAny_pyIter_zip Z.z hQ
/-- zip of two sequences of the ledger, its iterator fresh -/
theorem call_zipS {p q : Bool} {a b : Addr} {xs ys : Array Value} {Q : Value → Shared → Prop} (ha : SqL p s.heap a xs) (hb : SqL q s.heap b ys)
    (h : ∀ h' z TI TO i j, ZipApart z TI TO i j a b → ZipAt p q z TI TO i j a b xs ys .none 0 h' → (∀ c ∈ [z, TO, i, j], @LE.le Nat _ s.heap.objs.size c) → (∀ c ∈ [z, TI, TO, i, j, a, b], @LT.lt Nat _ c h'.objs.size) → (∀ c o, s.heap.get? c = some o → h'.get? c = some o) → Q (.ref z) { s with heap := h' }) :
    wpAny (model prog w) A (call (.type "zip") [.ref a, .ref b]) Q E s := by
  refine callType_new F.called_zip (by decide) (F.typeCall_zip_2 _ _) (F.newCall_zip_2 _ _) (fun obj => F.args_object_init_3 obj _ _) F.entry_zip_new (meets_zip p q a b xs ys) ⟨ha, hb, ?_⟩
  have z1 : (zH1 p s.heap a).objs.size = s.heap.objs.size + 1 := Heap.size_push ..
  have z2 : (zH2 p q s.heap a b).objs.size = s.heap.objs.size + 2 := by rw [Heap.size_push, z1]
  have z3 : (zH3 p q s.heap a b).objs.size = s.heap.objs.size + 3 := by rw [Heap.size_push, z2]
  have z4 : (zH4 p q s.heap a b).objs.size = s.heap.objs.size + 4 := by rw [Heap.size_push, z3]
  have z5 : (zH5 p q s.heap a b).objs.size = s.heap.objs.size + 5 := by rw [Heap.size_push, z4]
  have g5 : (zH5 p q s.heap a b).get? (zH4 p q s.heap a b).objs.size = some _ := Heap.get?_push_size _ rfl
  have g4 : (zH5 p q s.heap a b).get? (zH3 p q s.heap a b).objs.size = some _ := Heap.get?_push_of_some _ (Heap.get?_push_size _ rfl)
  have g3 : (zH5 p q s.heap a b).get? (zH2 p q s.heap a b).objs.size = some _ := Heap.get?_push_of_some _ (Heap.get?_push_of_some _ (Heap.get?_push_size _ rfl))
  have g2 : (zH5 p q s.heap a b).get? (zH1 p s.heap a).objs.size = some (itO q b) := Heap.get?_push_of_some _ (Heap.get?_push_of_some _ (Heap.get?_push_of_some _ (Heap.get?_push_size _ rfl)))
  have g1 : (zH5 p q s.heap a b).get? s.heap.objs.size = some (itO p a) := Heap.get?_push_of_some _ (Heap.get?_push_of_some _ (Heap.get?_push_of_some _ (Heap.get?_push_of_some _ (Heap.get?_push_size _ rfl))))
  have up : ∀ c o, s.heap.get? c = some o → (zH5 p q s.heap a b).get? c = some o := fun c o x => Heap.get?_push_of_some _ (Heap.get?_push_of_some _ (Heap.get?_push_of_some _ (Heap.get?_push_of_some _ (Heap.get?_push_of_some _ x))))
  show _ ∧ _
  rw [z2, z3, z4] at g5
  rw [z1, z2] at g3
  rw [z3] at g4
  rw [z1] at g2
  rw [z4]
  obtain ⟨oa, ea⟩ := ha.has
  obtain ⟨ob, eb⟩ := hb.has
  have la : @LT.lt Nat _ a s.heap.objs.size := Heap.lt_size ea
  have lb : @LT.lt Nat _ b s.heap.objs.size := Heap.lt_size eb
  refine ⟨⟨_, g5, rfl⟩, h _ _ _ _ _ _ (zipApart_new la lb) { z := g5, ti := g3, to := ⟨_, _, g4⟩, i := SqI.new g1, j := SqI.new g2, a := ha.at fun o e => up _ o e, b := hb.at fun o e => up _ o e } ?_ ?_ up⟩
  · intro c hc
    simp only [List.mem_cons, List.not_mem_nil, or_false] at hc
    rcases hc with rfl | rfl | rfl | rfl
    · exact Nat.le_add_right _ 4
    · exact Nat.le_add_right _ 3
    · exact Nat.le_refl _
    · exact Nat.le_add_right _ 1
  · intro c hc
    rw [z5]
    simp only [List.mem_cons, List.not_mem_nil, or_false] at hc
    rcases hc with rfl | rfl | rfl | rfl | rfl | rfl | rfl
    · exact Nat.add_lt_add_left (by decide) _
    · exact Nat.add_lt_add_left (by decide) _
    · exact Nat.add_lt_add_left (by decide) _
    · exact Nat.lt_add_of_pos_right (by decide)
    · exact Nat.add_lt_add_left (by decide) _
    · exact Nat.lt_of_lt_of_le la (Nat.le_add_right _ _)
    · exact Nat.lt_of_lt_of_le lb (Nat.le_add_right _ _)
end
end Mine
end

section
open PySem PySem.W PyProof.Rows PySem.Spec PySem.Calls
set_option maxRecDepth 100000
set_option maxHeartbeats 2000000
namespace Mine
open PyProof.Rows.LCg PyProof.Rows.LCp
section
variable {prog : Program} {w : World} {A : Around} {E : Value → Shared → Prop} {s : Shared} {env : Env} {h₀ : Heap} {L : Addr} {m : PySem.Str → Option Value}
/-- a comprehension of two names over a zip, its element's value found without a change of the heap -/
theorem blockZ {elt iter : Expr} {x x₂ : PySem.Str} {px px₂ tp : Pos} {tk} {scope : Scope} {cl : List (PySem.Str × Addr)} {pos : Pos} {s₂ : Shared} {I : Addr} {fp wr : List Addr} {n : Nat} {Pt : Nat → Array Value → Prop} {St : Nat → Heap → Prop} {Mid : Nat → Addr → Heap → Prop} {news : List (Addr × Obj)}
    {Vals : Nat → List Value → Prop} {RR : Value → Addr → Result → Shared → Prop}
    (W : WalksT prog w A I fp wr n Pt St Mid) (hsz : n ≤ sizeLine)
    (hcell : ∀ y ∈ scope.names, y.2 ≠ .cell) (hkind : scope.kind = .function) (hx : scope.names.lookup x = some .local) (hx₂ : scope.names.lookup x₂ = some .local) (hxx : x ≠ x₂) (hh : A.handled = none) (hst : St 0 s₂.heap) (hfp : ∀ b ∈ fp, b < s₂.heap.objs.size)
    (F : Fr h₀ L s₂.heap m) (N : News h₀ L s₂.heap news) (hLw : L ∉ wr) (hwr : ∀ b ∈ wr, h₀.get? b = none) (hnw : ∀ p ∈ news, p.1 ∉ wr) (v0 : Vals 0 [])
    (turn : ∀ i ys vals v₁ v₂ C oC m₂ h tk (E' : Value → Shared → Prop), i < n → Pt i vals → vals = #[v₁, v₂] → Vals i ys → NsObj oC m₂ → m₂ x = some v₁ → m₂ x₂ = some v₂ → Fr h₀ L h m → News h₀ L h ((C, oC) :: news) →
      wpAny (model prog w) A (eval elt (compEnvC scope cl C env)) (fun y s' => (∃ tk', s' = { s₂ with heap := h, toks := tk' }) ∧ Vals (i + 1) (ys ++ [y])) E' { s₂ with heap := h, toks := tk })
    (h2 : ∀ i vals, Pt i vals → ∃ v₁ v₂, vals = #[v₁, v₂])
    (hRR : ∀ D C h tk m' ys, Fr h₀ L h m → News h₀ L h ((D, lst ys) :: news) → (∀ p ∈ news, @LT.lt Nat _ p.1 D) → h.Ns C m' → h₀.get? C = none → h₀.get? D = none → C ≠ L → D ≠ L → C ≠ D → (∀ p ∈ news, p.1 ≠ C) → Vals n ys → RR (.ref D) C (.ok .next) { s₂ with heap := h, toks := tk }) :
    wpAny (model prog w) A (newList []) (fun acc s₃ => wpAny (model prog w) A (newFunctionEnv scope env.globals cl [] env.qual none .none (some env)) (fun cenv s₄ =>
      codeAny (model prog w) A (.compStart (.ListComp elt [⟨.Tuple [.Name x px, .Name x₂ px₂] tk tp, iter, [], 0⟩] scope pos) 0 (.ref I) acc { cenv with scope := relabel scope env }) (RR acc cenv.locals) s₄) E s₃) E s₂ := by
  refine wpAny_newObj_type (wpAny_newFunctionEnv hcell (by intro y hy; simp at hy) (fun h₁ hns₁ hsb₁ => ?_) hkind)
  dsimp only at hns₁ hsb₁ ⊢
  generalize hG : s₂.heap.push { cls := .type "list", dict := none, data := .seq ([] : List Value).toArray } = G at hns₁ hsb₁ ⊢
  have hC : G.objs.size = s₂.heap.objs.size + 1 := by rw [← hG, Heap.size_push]
  have hDC : s₂.heap.objs.size ≠ G.objs.size := by rw [hC]; exact Nat.ne_of_lt (Nat.lt_succ_self _)
  have below : ∀ b, b < s₂.heap.objs.size → b ≠ G.objs.size ∧ b ≠ s₂.heap.objs.size := fun b hb => ⟨by rw [hC]; exact Nat.ne_of_lt (Nat.lt_succ_of_lt hb), Nat.ne_of_lt hb⟩
  have hDf : s₂.heap.objs.size ∉ fp := fun hm => Nat.lt_irrefl _ (hfp _ hm)
  have hCf : G.objs.size ∉ fp := fun hm => by have := hfp _ hm; rw [hC] at this; exact Nat.lt_irrefl _ (Nat.lt_of_succ_lt this)
  have hDw : s₂.heap.objs.size ∉ wr := fun hm => hDf (W.sub _ hm)
  have hCw : G.objs.size ∉ wr := fun hm => hCf (W.sub _ hm)
  have old : ∀ b o, s₂.heap.get? b = some o → h₁.get? b = some o := fun b o e => hsb₁.extBut b o (below b (Heap.lt_size e)).1 (Heap.get?_push_of_some _ (hG ▸ Heap.get?_push_of_some _ e))
  have hacc : h₁.get? s₂.heap.objs.size = some (lst []) := hsb₁.extBut _ _ hDC (Heap.get?_push_of_some _ (hG ▸ Heap.get?_push_size _ rfl))
  have fresh₀ : ∀ a, s₂.heap.objs.size ≤ a → h₀.get? a = none := fun a ha => by
    cases e : h₀.get? a with
    | none => rfl
    | some o' => exact absurd (Heap.lt_size (F.keep a o' e)) (Nat.not_lt.mpr ha)
  have hD₀ : h₀.get? s₂.heap.objs.size = none := fresh₀ _ (Nat.le_refl _)
  have hC₀ : h₀.get? G.objs.size = none := fresh₀ _ (by rw [hC]; exact Nat.le_succ _)
  have hLlt : L < s₂.heap.objs.size := F.ns.lt
  have hDL : s₂.heap.objs.size ≠ L := Ne.symm (below L hLlt).2
  have hCL : G.objs.size ≠ L := Ne.symm (below L hLlt).1
  have hltD : ∀ p ∈ news, @LT.lt Nat _ p.1 s₂.heap.objs.size := fun p hp => Heap.lt_size (N p hp).1
  have oldw : ∀ b o, h₀.get? b = some o → b ∉ wr := fun b o e hb => by rw [hwr b hb] at e; cases e
  have loop : ∀ s₃ : Shared, s₃ = { s₂ with heap := h₁, toks := s₂.toks + ([] : List (PySem.Str × Value)).length } →
      codeAny (model prog w) A (.compLoop (.ListComp elt [⟨.Tuple [.Name x px, .Name x₂ px₂] tk tp, iter, [], 0⟩] scope pos) 0 (.ref I) (.ref s₂.heap.objs.size) (compEnvC scope cl G.objs.size env)) (RR (.ref s₂.heap.objs.size) G.objs.size) s₃ := by
    rintro s₃ rfl
    refine codeAny_compLoop_pair
      (fun k s' => ∃ h' tk i ys m', s' = { s₂ with heap := h', toks := tk } ∧ i ≤ n ∧ k = n + 1 - i ∧ ys.length = i ∧ St i h' ∧ Fr h₀ L h' m ∧ h'.Ns G.objs.size m' ∧ News h₀ L h' ((s₂.heap.objs.size, lst ys) :: news) ∧ Vals i ys) ?_ (n + 1)
      ⟨h₁, _, 0, [], _, rfl, Nat.zero_le _, rfl, rfl, W.frame _ _ _ hst fun b _ o e => old b o e, F.keeps old, hns₁, fun p hp => ?_, v0⟩
    · rintro k s' ⟨h', tk, i, ys, m', rfl, hi, rfl, hyl, hst', F', hn', N', hV⟩
      have move : ∀ g : Heap, (∀ b o, b ∉ wr → h'.get? b = some o → g.get? b = some o) → Fr h₀ L g m ∧ g.Ns G.objs.size m' ∧ News h₀ L g ((s₂.heap.objs.size, lst ys) :: news) := fun g hk =>
        ⟨⟨F'.ns.at' fun o e => hk _ o hLw e, fun b o e => hk b o (oldw b o e) (F'.keep b o e), F'.above⟩, hn'.at' fun o e => hk _ o hCw e, fun p hp => ⟨hk _ _ (by
          rcases List.mem_cons.mp hp with rfl | hp
          · exact hDw
          · exact hnw p hp) (N' p hp).1, (N' p hp).2⟩⟩
      by_cases hlt : i < n
      · refine W.item i _ _ _ hlt hst' fun T vals h₂ tk₂ hPt _ hT hMid hk₂ => ?_
        obtain ⟨v₁, v₂, rfl⟩ := h2 i vals hPt
        refine W.go _ _ _ i T _ _ _ hMid fun h₃ hst₃ hk₃ => ?_
        have ht : IsTup h₃ T #[v₁, v₂] := hT.at fun o e => hk₃ T o (W.apart i T h₂ hMid) e
        obtain ⟨F₃, n₃, N₃⟩ := move h₃ fun b o hb e => hk₃ b o hb (hk₂ b o hb e)
        refine assign_Tuple_tuple hh ht rfl rfl fun h₅ he => ?_
        have he' : ∀ b o, h₃.get? b = some o → h₅.get? b = some o := fun b o e => he b o (Nat.ne_of_lt (Heap.lt_size e)) e
        refine assignInOrder_cons (wpAny_assign_Name (wpAny_storeName_local (lookup_relabel_local hx) (n₃.at' fun o e => he' _ o e) (fun h₆ hn₆ hs₆ => ?_) (by simp [compEnvC, relabel, hkind])))
        refine assignInOrder_cons (wpAny_assign_Name (wpAny_storeName_local (lookup_relabel_local hx₂) hn₆ (fun h₇ hn₇ hs₇ => ?_) (by simp [compEnvC, relabel, hkind])))
        refine assignInOrder_nil ?_
        have keep7 : ∀ b o, b ≠ G.objs.size → h₃.get? b = some o → h₇.get? b = some o := fun b o hb e => hs₇.extBut b o hb (hs₆.extBut b o hb (he' b o e))
        have hst₇ : St (i + 1) h₇ := W.frame _ _ _ hst₃ fun b hb o e => keep7 b o (fun q => hCf (by rw [← q]; exact hb)) e
        obtain ⟨oC, heC, hoC⟩ := ns_obj hn₇
        have F₇ : Fr h₀ L h₇ m := ((F₃.keeps he').change hs₆ hCL hC₀).change hs₇ hCL hC₀
        have N₇ : News h₀ L h₇ ((s₂.heap.objs.size, lst ys) :: news) := fun p hp => ⟨keep7 _ _ (by
          rcases List.mem_cons.mp hp with rfl | hp
          · exact hDC
          · exact (below _ (hltD p hp)).1) (N₃ p hp).1, (N₃ p hp).2⟩
        refine wpAny_mono (turn i ys _ v₁ v₂ G.objs.size oC _ h₇ _ _ hlt hPt rfl hV hoC (by simp [hxx]) (by simp) F₇ (fun p hp => ?_)) (fun y s₄ h₄ => ?_) fun _ _ e => e
        · rcases List.mem_cons.mp hp with rfl | hp
          · exact ⟨heC, hCL, hC₀⟩
          · exact N₇ p (List.mem_cons_of_mem _ hp)
        obtain ⟨⟨tk₄, rfl⟩, hV'⟩ := h₄
        refine append_at (hsz := by show ys.toArray.size ≤ sizeLine; rw [List.size_toArray, hyl]; exact Nat.le_trans hi hsz) (N₇ _ List.mem_cons_self).1 fun h₈ hs₈ hD₈ => ?_
        refine ⟨n + 1 - (i + 1), Nat.sub_lt_sub_left (Nat.lt_succ_of_lt (by assumption)) (Nat.lt_succ_self i), h₈, tk₄, i + 1, ys ++ [y], _, rfl, hlt, rfl, by rw [List.length_append, List.length_singleton, hyl], W.frame _ _ _ hst₇ fun b hb o e => hs₈.extBut b o (fun q => hDf (q ▸ hb)) e, F₇.change hs₈ hDL hD₀,
          (hoC.ns heC).sameBut hs₈ (Ne.symm hDC), fun p hp => ?_, hV'⟩
        rcases List.mem_cons.mp hp with rfl | hp
        · exact ⟨hD₈.trans (congrArg some (lst_snoc ys y)), hDL, hD₀⟩
        · exact ⟨hs₈.extBut _ _ (below _ (hltD p hp)).2 (N₇ p (List.mem_cons_of_mem _ hp)).1, (N₇ p (List.mem_cons_of_mem _ hp)).2⟩
      · obtain rfl : i = n := Nat.le_antisymm hi (Nat.not_lt.mp hlt)
        refine W.done _ _ _ hst' fun h₂ tk₂ hk₂ => ?_
        obtain ⟨F₂, n₂, N₂⟩ := move h₂ hk₂
        exact hRR _ _ h₂ tk₂ _ ys F₂ N₂ hltD n₂ hC₀ hD₀ hCL hDL (Ne.symm hDC) (fun p hp => (below _ (hltD p hp)).1) hV
    · rcases List.mem_cons.mp hp with rfl | hp
      · exact ⟨hacc, hDL, hD₀⟩
      · exact ⟨old _ _ (N p hp).1, (N p hp).2⟩
  exact codeAny_compStart_list (loop _ rfl) (W.self 0 _ _ _ (W.frame _ _ _ hst fun b _ o e => old b o e) (loop _ rfl))
/-- name = [elt for x, x₂ in zip(a, b)] -/
theorem assign_compZ {elt iter : Expr} {x x₂ y : PySem.Str} {px px₂ tp py : Pos} {tk} {scope : Scope} {cl : List (PySem.Str × Addr)} {pos spos : Pos} {Q : Flow → Shared → Prop} {p q : Bool} {a b : Addr} {xs ys : Array Value} {news : List (Addr × Obj)} {Vals : Nat → List Value → Prop}
    (hh : A.handled = none) (F : Fr h₀ env.locals s.heap m) (N : News h₀ env.locals s.heap news) (ha : SqL p s.heap a xs) (hb : SqL q s.heap b ys) (hs : xs.size = ys.size) (hsz : xs.size ≤ sizeLine)
    (hsw : swapsWith (.ListComp elt [⟨.Tuple [.Name x px, .Name x₂ px₂] tk tp, iter, [], 0⟩] scope pos) (some (.Name y py)) spos.line env = pure true)
    (hclos : closureFor scope env = pure cl) (hcell : ∀ z ∈ scope.names, z.2 ≠ .cell) (hkind : scope.kind = .function)
    (hnames : ∀ z ∈ scope.names, z.2 = .local → scope.names.lookup z.1 = some .local) (hx : scope.names.lookup x = some .local) (hx₂ : scope.names.lookup x₂ = some .local) (hxx : x ≠ x₂)
    (hy : env.kindOf y = some .local) (hp : (env.scope.kind == .class || (env.scope.kind == .module && env.locals != env.globals)) = false)
    (hfold : ∀ x, foldedSetIterable iter env x = pure x)
    (hiter : ∀ (Q' : Value → Shared → Prop), wpAny (model prog w) A (call (.type "zip") [.ref a, .ref b]) Q' E s → wpAny (model prog w) A (eval iter env) Q' E s)
    (v0 : Vals 0 [])
    (turn : ∀ i l v₁ v₂ C oC m₂ h tk (E' : Value → Shared → Prop), xs[i]? = some v₁ → ys[i]? = some v₂ → Vals i l → NsObj oC m₂ → m₂ x = some v₁ → m₂ x₂ = some v₂ → Fr h₀ env.locals h m → News h₀ env.locals h ((C, oC) :: news) →
      wpAny (model prog w) A (eval elt (compEnvC scope cl C env)) (fun y s' => (∃ tk', s' = { s with heap := h, toks := tk' }) ∧ Vals (i + 1) (l ++ [y])) E' { s with heap := h, toks := tk })
    (fin : ∀ D h' tk' l, Fr h₀ env.locals h' (fun z => if z = y then some (.ref D) else m z) → News h₀ env.locals h' ((D, W.listOf l.toArray l.length) :: news) → (∀ p ∈ news, @LT.lt Nat _ p.1 D) → Vals xs.size l → Q .next { s with heap := h', toks := tk' }) :
    wpAny (model prog w) A (exec (.Assign [.Name y py] (.ListComp elt [⟨.Tuple [.Name x px, .Name x₂ px₂] tk tp, iter, [], 0⟩] scope pos) spos) env) Q E s := by
  rw [exec_Assign_Name_used _ _ _ _ hsw]
  refine wpAny_bind (wpAny_standAt (wpAny_bind ?_))
  show wpAny _ A (do let _ ← comprehension (.ListComp elt [⟨.Tuple [.Name x px, .Name x₂ px₂] tk tp, iter, [], 0⟩] scope pos) scope env _ (newList []) false (eval iter env) (some (assign (.Name y py) env))) _ _ s
  refine wpAny_bind (wpAny_mono (wpAny_comprehension_free (use := some (assign (.Name y py) env)) (Q := fun _ s' => Q .next s') rfl hfold hclos hkind hnames
    (hiter _ (call_zipS ha hb fun h' z TI TO i j D Z hge hlt up => ?_))) (fun _ s' hq => wpAny_pure (wpAny_pure hq)) fun _ _ e => e)
  refine wpAny_pyIter_zip Z.z ?_
  have hwr : ∀ c ∈ [z, TO, i, j], h₀.get? c = none := fun c hc => by
    cases e : h₀.get? c with
    | none => rfl
    | some o' => exact absurd (Heap.lt_size (F.keep c o' e)) (Nat.not_lt.mpr (hge c hc))
  refine blockZ (walkZ hh p q z TI TO i j a b D xs ys hs) hsz hcell hkind hx hx₂ hxx hh Z hlt (F.keeps up) (N.grown up) (fun hm => absurd F.ns.lt (Nat.not_lt.mpr (hge _ hm))) hwr (fun p hp hm => absurd (Heap.lt_size (N p hp).1) (Nat.not_lt.mpr (hge _ hm))) v0
    (fun k l vals v₁ v₂ C oC m₂ h tk E' hk hPt hv hV hC hx hy F' N' => ?_) (fun k vals ⟨x, y, _, _, e⟩ => ⟨x, y, e⟩) (fun D C g tk m' l F' N' hD hn hC₀ hD₀ hCL hDL hCD offC hV => ?_)
  · obtain ⟨u₁, u₂, e1, e2, e3⟩ := hPt
    subst hv
    simp only [Array.mk.injEq, List.cons.injEq, and_true] at e3
    obtain ⟨rfl, rfl⟩ := e3
    exact turn k l v₁ v₂ C oC m₂ h tk E' e1 e2 hV hC hx hy F' N'
  · show wpAny _ A (assign (.Name y py) env (.ref D)) _ _ _
    refine wpAny_assign_Name (wpAny_storeName_local hy F'.ns (fun h₂ hn₂ hs₂ => ?_) hp)
    have hL₀ : h₀.get? env.locals = none := Heap.get?_none_of_le F'.above
    have F₂ : Fr h₀ env.locals h₂ (fun z => if z = y then some (.ref D) else m z) := ⟨hn₂, fun b o e => hs₂.extBut b o (fun q => by rw [q, hL₀] at e; cases e) (F'.keep b o e), F'.above⟩
    refine ⟨m', hn.sameBut hs₂ hCL, fun h'' hs'' => fin D h'' _ l (F₂.change hs'' hCL hC₀) (fun p hp => ?_) hD hV⟩
    have e : h₂.get? p.1 = some p.2 := hs₂.extBut _ _ (N' p hp).2.1 (N' p hp).1
    refine ⟨hs''.extBut _ _ ?_ e, (N' p hp).2⟩
    rcases List.mem_cons.mp hp with rfl | hp
    · exact Ne.symm hCD
    · exact offC p hp
end
end Mine
end

section
open PySem PySem.W PyProof.Rows PySem.Spec PySem.Calls
set_option maxRecDepth 100000
set_option maxHeartbeats 8000000
namespace Mine
noncomputable def hsvA (h : UInt64) : Int := Flt.toInt Float64.truncOf (Float64.mul h 4618441417868443648)
noncomputable def hsvG (h : UInt64) : UInt64 := Float64.sub (Float64.mul h 4618441417868443648) (Float64.ofInt (hsvA h))
noncomputable def hsvP (s v : UInt64) : UInt64 := Float64.mul v (Float64.sub 4607182418800017408 s)
noncomputable def hsvQ (h s v : UInt64) : UInt64 := Float64.mul v (Float64.sub 4607182418800017408 (Float64.mul s (hsvG h)))
noncomputable def hsvT (h s v : UInt64) : UInt64 := Float64.mul v (Float64.sub 4607182418800017408 (Float64.mul s (Float64.sub 4607182418800017408 (hsvG h))))
/-- what hsv_to_rgb hands back, over the floats' bits -/
noncomputable def hsvF (h s v : UInt64) : UInt64 × UInt64 × UInt64 :=
  if (Float64.cmp s 0 == some .eq) = true then (v, v, v) else
  if (hsvA h).fmod 6 = 0 then (v, hsvT h s v, hsvP s v) else
  if (hsvA h).fmod 6 = 1 then (hsvQ h s v, v, hsvP s v) else
  if (hsvA h).fmod 6 = 2 then (hsvP s v, v, hsvT h s v) else
  if (hsvA h).fmod 6 = 3 then (hsvP s v, hsvQ h s v, v) else
  if (hsvA h).fmod 6 = 4 then (hsvT h s v, hsvP s v, v) else (v, hsvP s v, hsvQ h s v)
noncomputable def hsvOk (h s : UInt64) : Bool := (Float64.cmp s 0 == some .eq) || (Float64.isFinite (Float64.mul h 4618441417868443648) && decide ((hsvA h).natAbs < 2 ^ 1024 - 2 ^ 970))
section
variable {h s v : UInt64}
theorem hsvF_z (a : (Float64.cmp s 0 == some .eq) = true) : (v, v, v) = hsvF h s v := by unfold hsvF; rw [if_pos a]
theorem hsvF_0 (a : (Float64.cmp s 0 == some .eq) = false) (i : (hsvA h).fmod 6 = 0) : (v, hsvT h s v, hsvP s v) = hsvF h s v := by unfold hsvF; simp [a, i]
theorem hsvF_1 (a : (Float64.cmp s 0 == some .eq) = false) (i : (hsvA h).fmod 6 = 1) : (hsvQ h s v, v, hsvP s v) = hsvF h s v := by unfold hsvF; simp [a, i]
theorem hsvF_2 (a : (Float64.cmp s 0 == some .eq) = false) (i : (hsvA h).fmod 6 = 2) : (hsvP s v, v, hsvT h s v) = hsvF h s v := by unfold hsvF; simp [a, i]
theorem hsvF_3 (a : (Float64.cmp s 0 == some .eq) = false) (i : (hsvA h).fmod 6 = 3) : (hsvP s v, hsvQ h s v, v) = hsvF h s v := by unfold hsvF; simp [a, i]
theorem hsvF_4 (a : (Float64.cmp s 0 == some .eq) = false) (i : (hsvA h).fmod 6 = 4) : (hsvT h s v, hsvP s v, v) = hsvF h s v := by unfold hsvF; simp [a, i]
theorem hsvF_5 (a : (Float64.cmp s 0 == some .eq) = false) (i : (hsvA h).fmod 6 = 5) : (v, hsvP s v, hsvQ h s v) = hsvF h s v := by unfold hsvF; simp [a, i]
theorem fmod6 {x : Int} (h0 : x.fmod 6 ≠ 0) (h1 : x.fmod 6 ≠ 1) (h2 : x.fmod 6 ≠ 2) (h3 : x.fmod 6 ≠ 3) (h4 : x.fmod 6 ≠ 4) (h5 : x.fmod 6 ≠ 5) : False := by
  have a := Int.fmod_nonneg_of_pos x (show (0 : Int) < 6 by decide)
  have b := Int.fmod_lt_of_pos x (show (0 : Int) < 6 by decide)
  lia
theorem hsvOk_fin (ok : hsvOk h s = true) (a : (Float64.cmp s 0 == some .eq) = false) : Float64.isFinite (Float64.mul h 4618441417868443648) = true ∧ (hsvA h).natAbs < 2 ^ 1024 - 2 ^ 970 := by
  unfold hsvOk at ok
  rw [a, Bool.false_or, Bool.and_eq_true, decide_eq_true_eq] at ok
  exact ok
theorem fin_not_nan {x : UInt64} (h : Float64.isFinite x = true) (q : Float64.isNaN x = true) : False := by
  rw [Flt.not_nan_of_finite h] at q; cases q
theorem fin_not_inf {x : UInt64} (h : Float64.isFinite x = true) (q : Float64.isInf x = true) : False := by
  rw [Flt.not_inf_of_finite h] at q; cases q
end
/-- a tuple of three floats handed back; hyp: what makes its floats' tokens other than nought -/
noncomputable abbrev Ret3 (hyp : Prop) (news : List (Addr × Obj)) (x : UInt64 × UInt64 × UInt64) : Value → List (Addr × Obj) → Prop := fun r nw =>
  ∃ D t1 t2 t3, r = .ref D ∧ nw = (D, tup3 x.1 x.2.1 x.2.2 t1 t2 t3) :: news ∧ (∀ p ∈ news, p.1 < D) ∧ (hyp → t1 ≠ 0 ∧ t2 ≠ 0 ∧ t3 ≠ 0)
theorem ret3 {hyp : Prop} {news : List (Addr × Obj)} {D : Addr} {x y z : UInt64} {t1 t2 t3 : Tok} {p : UInt64 × UInt64 × UInt64} (e : (x, y, z) = p) (l : ∀ p ∈ news, p.1 < D) (n : hyp → t1 ≠ 0 ∧ t2 ≠ 0 ∧ t3 ≠ 0) : Ret3 hyp news p (.ref D) ((D, tup3 x y z t1 t2 t3) :: news) := by
  subst e; exact ⟨D, t1, t2, t3, rfl, rfl, l, n⟩

theorem hsv_con (w : World) (mean : ExcName → Option Value) (mg mb : Str → Option Value) (news : List (Addr × Obj)) (h s v : UInt64) (t1 t2 t3 : Tok) (ok : hsvOk h s = true) :
    Con 2 w mean mg mb 76 news [.float h t1, .float s t2, .float v t3] [] (fun _ => True) (Ret3 (t3 ≠ 0) news (hsvF h s v)) := by
  w_top off
  unfold Con; k_fill
  intro dp un gd cn cns cig cic cmo a ccd cl outer A₀ base h₀ L m s Q E B F X N T hpre hd hu hret
  refine wpAny_call ?_
  k_dflt k_enter
  k_steps
  all_goals first
    | (refine hret _ _ _ _ (by k_asm) (by k_asm) (ret3 ?_ (by assumption) (fun q => ⟨by first | exact q | exact Nat.succ_ne_zero _, by first | exact q | exact Nat.succ_ne_zero _, by first | exact q | exact Nat.succ_ne_zero _⟩)); first | exact hsvF_z (by assumption) | exact hsvF_0 (by assumption) (by assumption) | exact hsvF_1 (by assumption) (by assumption) | exact hsvF_2 (by assumption) (by assumption) | exact hsvF_3 (by assumption) (by assumption) | exact hsvF_4 (by assumption) (by assumption) | exact hsvF_5 (by assumption) (by assumption))
    | exact (fmod6 (by assumption) (by assumption) (by assumption) (by assumption) (by assumption) (by assumption)).elim
    | exact (fin_not_nan (hsvOk_fin ok (by assumption)).1 (by assumption)).elim
    | exact (fin_not_inf (hsvOk_fin ok (by assumption)).1 (by assumption)).elim
    | exact (Nat.not_le_of_lt (hsvOk_fin ok (by assumption)).2 (by assumption)).elim
end Mine
end

section
open PySem PySem.W PyProof.Rows PySem.Spec PySem.Calls
set_option maxRecDepth 100000
set_option maxHeartbeats 8000000
namespace Mine
noncomputable def fgt (a b : UInt64) : Bool := Float64.cmp a b == some Ordering.gt
noncomputable def flt (a b : UInt64) : Bool := Float64.cmp a b == some Ordering.lt
noncomputable def feq (a b : UInt64) : Bool := Float64.cmp a b == some Ordering.eq
noncomputable def fmax3 (a b c : UInt64) : UInt64 := if fgt b a then (if fgt c b then c else b) else (if fgt c a then c else a)
noncomputable def fmin3 (a b c : UInt64) : UInt64 := if flt b a then (if flt c b then c else b) else (if flt c a then c else a)
noncomputable def fAt (a b c : UInt64) : Nat → UInt64
  | 0 => a
  | 1 => b
  | _ => c
theorem nsucc (a b : Nat) (h : b = a + 1) : a ≠ b := by lia
theorem nIn (d a b : Nat) (h : b = a + 1) (hd : d = b ∨ d = a) : d < b + 1 := by lia
theorem nOut (d a b : Nat) (h : b = a + 1) (hd : d < a) (e : d = b) : False := by lia
section
variable {prog : Program} {w : World} {A : Around} {E : Value → Shared → Prop} {s : Shared} {h₀ : Heap} {L : Addr} {m : Str → Option Value} {news : List (Addr × Obj)}
theorem at3n {a b c : UInt64} {t u x : Tok} {i : Nat} {v : Value} (h : (#[.float a t, .float b u, .float c x] : Array Value)[i]? = some v) : ∃ q, v = .float (fAt a b c i) q ∧ (t ≠ 0 ∧ u ≠ 0 ∧ x ≠ 0 → q ≠ 0) := by
  match i, h with
  | 0, h => exact ⟨t, by simpa [fAt] using h.symm, fun n => n.1⟩
  | 1, h => exact ⟨u, by simpa [fAt] using h.symm, fun n => n.2.1⟩
  | 2, h => exact ⟨x, by simpa [fAt] using h.symm, fun n => n.2.2⟩
  | n + 3, h => simp at h
theorem at3 {a b c : UInt64} {t u x : Tok} {i : Nat} {v : Value} (h : (#[.float a t, .float b u, .float c x] : Array Value)[i]? = some v) : ∃ q, v = .float (fAt a b c i) q := by
  match i, h with
  | 0, h => exact ⟨t, by simpa [fAt] using h.symm⟩
  | 1, h => exact ⟨u, by simpa [fAt] using h.symm⟩
  | 2, h => exact ⟨x, by simpa [fAt] using h.symm⟩
  | n + 3, h => simp at h
theorem cmp_floats (op : CmpOp) (hop : op = .Gt ∨ op = .Lt) (a b c : UInt64) (t u x : Tok) :
    CmpOf prog w A op (fun i v => (#[.float a t, .float b u, .float c x] : Array Value)[i]? = some v) (fun i j => if op = .Gt then fgt (fAt a b c i) (fAt a b c j) else flt (fAt a b c i) (fAt a b c j)) := by
  intro i j vi vj s Q E hi hj h
  obtain ⟨p, rfl⟩ := at3 hi
  obtain ⟨q, rfl⟩ := at3 hj
  rcases hop with rfl | rfl
  · exact AutoFloatOps.gt_0 (by simpa [fgt] using h)
  · exact AutoFloatOps.lt_0 (by simpa [flt] using h)
theorem best3 (bt : Nat → Nat → Bool) : argBest bt 2 = if bt 1 0 then (if bt 2 1 then 2 else 1) else (if bt 2 0 then 2 else 0) := by
  unfold argBest; unfold argBest; unfold argBest
  cases bt 1 0 <;> simp
theorem fmax_N {a b c : UInt64} {t u x : Tok} {Q : Value → Shared → Prop} (hh : A.handled = none) (F : Fr h₀ L s.heap m) (N : News h₀ L s.heap news)
    (h : ∀ h' tk q, (t ≠ 0 ∧ u ≠ 0 ∧ x ≠ 0 → q ≠ 0) → Fr h₀ L h' m → News h₀ L h' news → Q (.float (fmax3 a b c) q) { s with heap := h', toks := tk }) :
    wpAny (model prog w) A (call (.builtin "max") [.float a t, .float b u, .float c x]) Q E s := by
  have hT : (s.heap.push { cls := .type "tuple", data := .seq #[.float a t, .float b u, .float c x] }).IsTuple s.heap.objs.size #[.float a t, .float b u, .float c x] := ⟨_, Heap.get?_push_size _ rfl, rfl, 0, rfl⟩
  refine call_max_three (wpAny_pyIter_tuple hT ?_)
  have hsz : (s.heap.push { cls := .type "tuple", data := .seq #[.float a t, .float b u, .float c x] }).objs.size = s.heap.objs.size + 1 := Heap.size_push ..
  refine ⟨_, [_, s.heap.objs.size], [_], _, _, _, _, rfl, Walks.tuple (A := A.in1) hh _ s.heap.objs.size (nsucc _ _ hsz) #[.float a t, .float b u, .float c x],
    ⟨⟨_, Heap.get?_push_size _ rfl, rfl, rfl⟩, hT.push _⟩, fun d hd => ?_, (by show 0 < 3; decide), cmp_floats .Gt (.inl rfl) a b c t u x, fun v h' tk hP hk => ?_⟩
  · show d < ((s.heap.push _).push _).objs.size
    rw [Heap.size_push]
    simp only [List.mem_cons, List.not_mem_nil, or_false] at hd
    exact nIn _ _ _ hsz hd
  · have hold : ∀ d o, s.heap.get? d = some o → h'.get? d = some o := fun d o e => by
      refine hk d o (fun hm => ?_) (Heap.get?_push_of_some _ (Heap.get?_push_of_some _ e))
      exact nOut _ _ _ hsz (Heap.lt_size e) (List.mem_singleton.mp hm)
    obtain ⟨q, hq, hqn⟩ := at3n hP
    subst hq
    have e : fAt a b c (argBest (fun i j => if CmpOp.Gt = .Gt then fgt (fAt a b c i) (fAt a b c j) else flt (fAt a b c i) (fAt a b c j)) 2) = fmax3 a b c := by
      rw [best3]
      simp only [if_true, fAt, fmax3]
      cases fgt b a <;> cases fgt c b <;> cases fgt c a <;> simp
    have h2 := h h' tk q hqn (F.grownK hold) (N.grown hold)
    rw [← e] at h2
    exact h2
theorem fmin_N {a b c : UInt64} {t u x : Tok} {Q : Value → Shared → Prop} (hh : A.handled = none) (F : Fr h₀ L s.heap m) (N : News h₀ L s.heap news)
    (h : ∀ h' tk q, (t ≠ 0 ∧ u ≠ 0 ∧ x ≠ 0 → q ≠ 0) → Fr h₀ L h' m → News h₀ L h' news → Q (.float (fmin3 a b c) q) { s with heap := h', toks := tk }) :
    wpAny (model prog w) A (call (.builtin "min") [.float a t, .float b u, .float c x]) Q E s := by
  have hT : (s.heap.push { cls := .type "tuple", data := .seq #[.float a t, .float b u, .float c x] }).IsTuple s.heap.objs.size #[.float a t, .float b u, .float c x] := ⟨_, Heap.get?_push_size _ rfl, rfl, 0, rfl⟩
  refine call_min_three (wpAny_pyIter_tuple hT ?_)
  have hsz : (s.heap.push { cls := .type "tuple", data := .seq #[.float a t, .float b u, .float c x] }).objs.size = s.heap.objs.size + 1 := Heap.size_push ..
  refine ⟨_, [_, s.heap.objs.size], [_], _, _, _, _, rfl, Walks.tuple (A := A.in1) hh _ s.heap.objs.size (nsucc _ _ hsz) #[.float a t, .float b u, .float c x],
    ⟨⟨_, Heap.get?_push_size _ rfl, rfl, rfl⟩, hT.push _⟩, fun d hd => ?_, (by show 0 < 3; decide), cmp_floats .Lt (.inr rfl) a b c t u x, fun v h' tk hP hk => ?_⟩
  · show d < ((s.heap.push _).push _).objs.size
    rw [Heap.size_push]
    simp only [List.mem_cons, List.not_mem_nil, or_false] at hd
    exact nIn _ _ _ hsz hd
  · have hold : ∀ d o, s.heap.get? d = some o → h'.get? d = some o := fun d o e => by
      refine hk d o (fun hm => ?_) (Heap.get?_push_of_some _ (Heap.get?_push_of_some _ e))
      exact nOut _ _ _ hsz (Heap.lt_size e) (List.mem_singleton.mp hm)
    obtain ⟨q, hq, hqn⟩ := at3n hP
    subst hq
    have e : fAt a b c (argBest (fun i j => if CmpOp.Lt = .Gt then fgt (fAt a b c i) (fAt a b c j) else flt (fAt a b c i) (fAt a b c j)) 2) = fmin3 a b c := by
      rw [best3]
      simp only [reduceCtorEq, if_false, fAt, fmin3]
      cases flt b a <;> cases flt c b <;> cases flt c a <;> simp
    have h2 := h h' tk q hqn (F.grownK hold) (N.grown hold)
    rw [← e] at h2
    exact h2
end

noncomputable def rgbD (r g b : UInt64) : UInt64 := Float64.sub (fmax3 r g b) (fmin3 r g b)
noncomputable def rgbC (r g b x : UInt64) : UInt64 := Float64.div (Float64.sub (fmax3 r g b) x) (rgbD r g b)
noncomputable def rgbH (y : UInt64) : UInt64 := (Float64.divmod (Float64.div y 4618441417868443648) 4607182418800017408).snd
/-- what rgb_to_hsv hands back, over the floats' bits -/
noncomputable def rgbF (r g b : UInt64) : UInt64 × UInt64 × UInt64 :=
  if feq (fmin3 r g b) (fmax3 r g b) = true then (0, 0, fmax3 r g b) else
  (rgbH (if feq r (fmax3 r g b) = true then Float64.sub (rgbC r g b b) (rgbC r g b g) else
    if feq g (fmax3 r g b) = true then Float64.sub (Float64.add 4611686018427387904 (rgbC r g b r)) (rgbC r g b b) else
    Float64.sub (Float64.add 4616189618054758400 (rgbC r g b g)) (rgbC r g b r)),
   Float64.div (rgbD r g b) (fmax3 r g b), fmax3 r g b)
noncomputable def rgbOk (r g b : UInt64) : Bool := feq (fmin3 r g b) (fmax3 r g b) || (!Float64.isZero (fmax3 r g b) && !Float64.isZero (rgbD r g b))
section
variable {r g b : UInt64}
theorem rgbF_z (a : (Float64.cmp (fmin3 r g b) (fmax3 r g b) == some Ordering.eq) = true) : (0, 0, fmax3 r g b) = rgbF r g b := by unfold rgbF feq; rw [if_pos a]
theorem rgbF_r (a : (Float64.cmp (fmin3 r g b) (fmax3 r g b) == some Ordering.eq) = false) (i : (Float64.cmp r (fmax3 r g b) == some Ordering.eq) = true) :
    (rgbH (Float64.sub (rgbC r g b b) (rgbC r g b g)), Float64.div (rgbD r g b) (fmax3 r g b), fmax3 r g b) = rgbF r g b := by unfold rgbF feq; simp [a, i]
theorem rgbF_g (a : (Float64.cmp (fmin3 r g b) (fmax3 r g b) == some Ordering.eq) = false) (i : (Float64.cmp r (fmax3 r g b) == some Ordering.eq) = false) (j : (Float64.cmp g (fmax3 r g b) == some Ordering.eq) = true) :
    (rgbH (Float64.sub (Float64.add 4611686018427387904 (rgbC r g b r)) (rgbC r g b b)), Float64.div (rgbD r g b) (fmax3 r g b), fmax3 r g b) = rgbF r g b := by unfold rgbF feq; simp [a, i, j]
theorem rgbF_b (a : (Float64.cmp (fmin3 r g b) (fmax3 r g b) == some Ordering.eq) = false) (i : (Float64.cmp r (fmax3 r g b) == some Ordering.eq) = false) (j : (Float64.cmp g (fmax3 r g b) == some Ordering.eq) = false) :
    (rgbH (Float64.sub (Float64.add 4616189618054758400 (rgbC r g b g)) (rgbC r g b r)), Float64.div (rgbD r g b) (fmax3 r g b), fmax3 r g b) = rgbF r g b := by unfold rgbF feq; simp [a, i, j]
theorem rgbOk_1 (ok : rgbOk r g b = true) (a : (Float64.cmp (fmin3 r g b) (fmax3 r g b) == some Ordering.eq) = false) (q : Float64.isZero (fmax3 r g b) = true) : False := by
  unfold rgbOk feq at ok; simp [a, q] at ok
theorem rgbOk_2 (ok : rgbOk r g b = true) (a : (Float64.cmp (fmin3 r g b) (fmax3 r g b) == some Ordering.eq) = false) (q : Float64.isZero (Float64.sub (fmax3 r g b) (fmin3 r g b)) = true) : False := by
  unfold rgbOk feq rgbD at ok; simp [a, q] at ok
end
theorem rgb_con (w : World) (mean : ExcName → Option Value) (mg mb : Str → Option Value) (news : List (Addr × Obj)) (r g b : UInt64) (t1 t2 t3 : Tok) (ok : rgbOk r g b = true) :
    Con 2 w mean mg mb 69 news [.float r t1, .float g t2, .float b t3] [] (fun _ => True) (Ret3 (t1 ≠ 0 ∧ t2 ≠ 0 ∧ t3 ≠ 0) news (rgbF r g b)) := by
  w_top off
  unfold Con; k_fill
  intro dp un gd cn cns cig cic cmo a ccd cl outer A₀ base h₀ L m s Q E B F X N T hpre hd hu hret
  refine wpAny_call ?_
  k_dflt k_enter
  repeat' (first | (k_unfold; (try dsimp only)) | (k_end; kc_close) | (first | with_reducible ((with_reducible show wpAny _ _ (execs [] _) _ _ _); ((with_reducible refine wpAny_execs_nil ?_); try dsimp only)) | with_reducible ((with_reducible show wpAny _ _ (execs (_ :: _) _) _ _ _); ((with_reducible refine cons_pos ?_); intro tkz9; try dsimp only)) | ((with_reducible show wpAny _ _ (call _ [Value.float _ _, Value.float _ _, Value.float _ _]) _ _ _); refine' fmin_N ?kh ?kF ?kN ?_; (case kh => exact rfl); (case kF => k_asm); (case kN => k_asm); intro h'z9 tk'z9 q'z9 hq'z9 F'z9 N'z9) | ((with_reducible show wpAny _ _ (call _ [Value.float _ _, Value.float _ _, Value.float _ _]) _ _ _); refine' fmax_N ?kh ?kF ?kN ?_; (case kh => exact rfl); (case kF => k_asm); (case kN => k_asm); intro h'z9 tk'z9 q'z9 hq'z9 F'z9 N'z9) | walk1) | (dsimp only; (first | with_reducible ((with_reducible show wpAny _ _ (execs [] _) _ _ _); ((with_reducible refine wpAny_execs_nil ?_); try dsimp only)) | with_reducible ((with_reducible show wpAny _ _ (execs (_ :: _) _) _ _ _); ((with_reducible refine cons_pos ?_); intro tkz9; try dsimp only)) | ((with_reducible show wpAny _ _ (call _ [Value.float _ _, Value.float _ _, Value.float _ _]) _ _ _); refine' fmin_N ?kh ?kF ?kN ?_; (case kh => exact rfl); (case kF => k_asm); (case kN => k_asm); intro h'z9 tk'z9 q'z9 hq'z9 F'z9 N'z9) | ((with_reducible show wpAny _ _ (call _ [Value.float _ _, Value.float _ _, Value.float _ _]) _ _ _); refine' fmax_N ?kh ?kF ?kN ?_; (case kh => exact rfl); (case kF => k_asm); (case kN => k_asm); intro h'z9 tk'z9 q'z9 hq'z9 F'z9 N'z9) | walk1)) | (leave1; (try dsimp only)) | fail "no step")
  all_goals first
    | (refine hret _ _ _ _ (by k_asm) (by k_asm) (ret3 ?_ (by assumption) (fun q => ⟨Nat.succ_ne_zero _, Nat.succ_ne_zero _, by revert q; assumption⟩)); first | exact rgbF_z (by assumption) | exact rgbF_r (by assumption) (by assumption) | exact rgbF_g (by assumption) (by assumption) (by assumption) | exact rgbF_b (by assumption) (by assumption) (by assumption))
    | exact (rgbOk_1 ok (by assumption) (by assumption)).elim
    | exact (rgbOk_2 ok (by assumption) (by assumption)).elim
end Mine
end

section
open PySem PySem.W PyProof.Rows PySem.Spec PySem.Calls
set_option maxRecDepth 100000
set_option maxHeartbeats 2000000
namespace Mine
noncomputable abbrev P3 := UInt64 × UInt64 × UInt64
noncomputable def seqO : Bool → P3 → Tok → Tok → Tok → Obj
  | true, p, t, u, v => tup3 p.1 p.2.1 p.2.2 t u v
  | false, p, t, u, v => PySem.W.listOf #[.float p.1 t, .float p.2.1 u, .float p.2.2 v] 3
noncomputable def Holds (nw : List (Addr × Obj)) (v : Value) : Option P3 → Prop
  | none => v = .none
  | some p => ∃ a b t u x, v = .ref a ∧ (a, seqO b p t u x) ∈ nw
theorem map5 {m₁ m : PySem.Str → Option Value} {x a b c d : PySem.Str} {u va vb vc vd : Option Value} (hx : m₁ x = u) (ha : m₁ a = va) (hb : m₁ b = vb) (hc : m₁ c = vc) (hd : m₁ d = vd) (hm : ∀ z, z ≠ x → z ≠ a → z ≠ b → z ≠ c → z ≠ d → m₁ z = m z) :
    m₁ = fun z => if z = x then u else if z = a then va else if z = b then vb else if z = c then vc else if z = d then vd else m z := by
  funext z
  by_cases h1 : z = x
  · simp [h1, hx]
  by_cases h2 : z = a
  · subst h2; simp [h1, ha]
  by_cases h3 : z = b
  · subst h3; simp [h1, h2, hb]
  by_cases h4 : z = c
  · subst h4; simp [h1, h2, h3, hc]
  by_cases h5 : z = d
  · subst h5; simp [h1, h2, h3, h4, hd]
  simp [h1, h2, h3, h4, h5, hm z h1 h2 h3 h4 h5]
theorem seqO_sq {h₀ h : Heap} {L a : Addr} {news : List (Addr × Obj)} {b : Bool} {p : P3} {t u x : Tok} (N : News h₀ L h news) (hm : (a, seqO b p t u x) ∈ news) : SqL b h a #[.float p.1 t, .float p.2.1 u, .float p.2.2 x] := by
  cases b
  · exact ⟨_, (N _ hm).1, rfl, _, rfl⟩
  · exact ⟨_, (N _ hm).1, rfl, _, rfl⟩
noncomputable def Vals3 (a b c : UInt64) : Nat → List Value → Prop
  | 0, l => l = []
  | 1, l => ∃ t, l = [.float a t]
  | 2, l => ∃ t u, l = [.float a t, .float b u]
  | 3, l => ∃ t u x, l = [.float a t, .float b u, .float c x]
  | _, _ => False
theorem Vals3.snoc {a b c : UInt64} {i : Nat} {l : List Value} {t : Tok} (h : Vals3 a b c i l) (hi : i < 3) : Vals3 a b c (i + 1) (l ++ [.float (fAt a b c i) t]) := by
  match i, hi, h with
  | 0, _, h => cases h; exact ⟨t, rfl⟩
  | 1, _, h => obtain ⟨t1, rfl⟩ := h; exact ⟨t1, t, rfl⟩
  | 2, _, h => obtain ⟨t1, t2, rfl⟩ := h; exact ⟨t1, t2, t, rfl⟩
structure PSt where
  lo : Option P3
  hi : Option P3
  wh : Int
  pa : Option P3
  out : List Int
noncomputable def pNum (n : Int) : UInt64 := Float64.ofFrac (decide (n < 0) != decide ((24 : Int) < 0)) n.natAbs (Int.natAbs 24)
noncomputable def pM (x y : UInt64) : UInt64 := Float64.div (Float64.add x y) (Float64.ofInt 2)
noncomputable def pMid (x y : P3) : P3 := (pM x.1 y.1, pM x.2.1 y.2.1, pM x.2.2 y.2.2)
theorem pM_at (x y : P3) : ∀ i, pM (fAt x.1 x.2.1 x.2.2 i) (fAt y.1 y.2.1 y.2.2 i) = fAt (pMid x y).1 (pMid x y).2.1 (pMid x y).2.2 i
  | 0 => rfl
  | 1 => rfl
  | _ + 2 => rfl
noncomputable def pRnd (p : P3) : Int := Flt.toInt Float64.nearestOf (Float64.mul (rgbF p.1 p.2.1 p.2.2).1 (Float64.ofInt 1536))
noncomputable def pStep (σ : PSt) (k : Int) : PSt :=
  let lo := if k = 1 then σ.pa else σ.lo
  let hi := if k = -1 then σ.pa else σ.hi
  match lo, hi with
  | some x, some y => if k = 0 then { σ with lo := lo, hi := hi, out := σ.out ++ [pRnd (σ.pa.getD (0, 0, 0))] } else { lo := lo, hi := hi, wh := σ.wh, pa := some (pMid x y), out := σ.out ++ [pRnd (pMid x y)] }
  | _, _ => { lo := lo, hi := hi, wh := σ.wh + k, pa := some (hsvF (pNum (σ.wh + k + 24)) 4607182418800017408 4607182418800017408), out := σ.out ++ [pRnd (hsvF (pNum (σ.wh + k + 24)) 4607182418800017408 4607182418800017408)] }
noncomputable def pSt (ms : List Int) : PSt := ms.foldl pStep ⟨none, none, 0, none, []⟩
noncomputable def pOne : UInt64 := 4607182418800017408
noncomputable def pOkStep (σ : PSt) : Bool :=
  (match σ.lo, σ.hi with
    | some _, some _ => true
    | _, _ => hsvOk (pNum (σ.wh + 24)) 4607182418800017408) &&
  match σ.pa with
    | some p => rgbOk p.1 p.2.1 p.2.2 && Float64.isFinite (Float64.mul (rgbF p.1 p.2.1 p.2.2).1 (Float64.ofInt 1536))
    | none => false
theorem pOk_pa {lo hi : Option P3} {wh : Int} {p : P3} {out : List Int} (h : pOkStep ⟨lo, hi, wh, some p, out⟩ = true) : rgbOk p.1 p.2.1 p.2.2 = true ∧ Float64.isFinite (Float64.mul (rgbF p.1 p.2.1 p.2.2).1 (Float64.ofInt 1536)) = true := by
  unfold pOkStep at h; simp only [Bool.and_eq_true] at h; exact h.2
theorem pOk_hsv {lo hi : Option P3} {wh : Int} {pa : Option P3} {out : List Int} (h : pOkStep ⟨lo, hi, wh, pa, out⟩ = true) (hn : lo = none ∨ hi = none) : hsvOk (pNum (wh + 24)) 4607182418800017408 = true := by
  unfold pOkStep at h
  rcases hn with rfl | rfl
  · simp only [Bool.and_eq_true] at h; exact h.1
  · cases lo <;> (simp only [Bool.and_eq_true] at h; exact h.1)
theorem pSt_snoc (pre : List Int) (k : Int) : pSt (pre ++ [k]) = pStep (pSt pre) k := by unfold pSt; rw [List.foldl_append]; rfl
theorem pStep_pa (σ : PSt) (k : Int) (h : σ.pa.isSome = true) : (pStep σ k).pa.isSome = true := by
  unfold pStep; dsimp only; split
  · split
    · exact h
    · rfl
  · rfl
theorem whst {n : Nat} {a k : Int} (h : -(n : Int) ≤ a ∧ a ≤ n) (hk : k = -1 ∨ k = 0 ∨ k = 1) : -((n + 1 : Nat) : Int) ≤ a + k ∧ a + k ≤ ((n + 1 : Nat) : Int) := by lia
theorem wh8 {n i : Nat} {a : Int} (hn : n ≤ 7) (h : -((min i (n + 1) : Nat) : Int) ≤ a ∧ a ≤ ((min i (n + 1) : Nat) : Int)) : -8 ≤ a ∧ a ≤ 8 := by lia
theorem pStep_wh (σ : PSt) (k : Int) (n : Nat) (h : -(n : Int) ≤ σ.wh ∧ σ.wh ≤ n) (hk : k = -1 ∨ k = 0 ∨ k = 1) : -((n + 1 : Nat) : Int) ≤ (pStep σ k).wh ∧ (pStep σ k).wh ≤ ((n + 1 : Nat) : Int) := by
  have q := whst h hk
  have q0 := whst h (.inr (.inl rfl))
  rw [Int.add_zero] at q0
  unfold pStep; dsimp only; split
  · split <;> first | exact q | exact q0
  · first | exact q | exact q0
theorem pSt_wh (l : List Int) (hl : ∀ k ∈ l, k = -1 ∨ k = 0 ∨ k = 1) : -(l.length : Int) ≤ (pSt l).wh ∧ (pSt l).wh ≤ l.length := by
  rw [← List.reverse_reverse l] at hl ⊢
  generalize l.reverse = q at hl ⊢
  induction q with
  | nil => exact ⟨Int.le_refl _, Int.le_refl _⟩
  | cons k q ih =>
    rw [List.reverse_cons] at hl ⊢
    rw [pSt_snoc, List.length_append]
    exact pStep_wh _ k _ (ih fun x hx => hl x (by simp at hx ⊢; exact .inl hx)) (hl k (by simp))
theorem pSt_pa (k : Int) (l : List Int) (hk : k = 0) : (pSt (k :: l)).pa.isSome = true := by
  subst hk
  rw [← List.reverse_reverse l]
  generalize l.reverse = q
  induction q with
  | nil => rfl
  | cons x q ih => rw [List.reverse_cons, ← List.cons_append, pSt_snoc]; exact pStep_pa _ _ ih
end Mine
end

section
open PySem PySem.W PyProof.Rows PySem.Spec PySem.Calls
namespace Mine
open PySem.Builtin PySem.Builtin.Str PySem.StrLaws
/-- a list cut at each 34 -/
noncomputable def cutG : List Nat → List Nat → List (List Nat)
  | acc, [] => [acc]
  | acc, h :: t => if h = 34 then acc :: cutG [] t else cutG (acc ++ [h]) t
theorem cutG_clean : ∀ (l acc : List Nat), 34 ∉ l → cutG acc l = [acc ++ l]
  | [], acc, _ => by simp [cutG]
  | h :: t, acc, hn => by
    have h1 : h ≠ 34 := fun e => hn (by simp [e])
    have h2 : 34 ∉ t := fun e => hn (by simp [e])
    unfold cutG
    rw [if_neg h1, cutG_clean t _ h2]
    simp
theorem cutG_app : ∀ (l acc r : List Nat), 34 ∉ l → cutG acc (l ++ 34 :: r) = (acc ++ l) :: cutG [] r
  | [], acc, r, _ => by simp [cutG]
  | h :: t, acc, r, hn => by
    have h1 : h ≠ 34 := fun e => hn (by simp [e])
    have h2 : 34 ∉ t := fun e => hn (by simp [e])
    rw [List.cons_append]
    show (if h = 34 then acc :: cutG [] (t ++ 34 :: r) else cutG (acc ++ [h]) (t ++ 34 :: r)) = _
    rw [if_neg h1, cutG_app t _ r h2, List.append_assoc]
    rfl
noncomputable abbrev qm : PySem.Str := ⟨#[34]⟩
theorem occF (x : PySem.Str) : ∀ (k a : Nat) (st : Array Nat × Nat), st.fst.size ≤ a → st.snd ≤ a → a + k ≤ x.length + 1 →
    (forIn (List.range' a k) st (occBody x qm x.length (x.length + 1))).run.fst.toList = st.fst.toList ++ (List.range' a k).filter (fun i => decide (i + 1 ≤ x.length) && subAt x qm i)
  | 0, a, st, _, _, _ => by simp
  | k + 1, a, st, h1, h2, h3 => by
    rw [List.range'_succ, List.forIn_cons]
    unfold occBody
    by_cases hc : a + 1 ≤ x.length ∧ subAt x qm a = true
    · have c1 : ((st.fst.size < x.length + 1 ∧ st.snd ≤ a) ∧ a + qm.length ≤ x.length) ∧ subAt x qm a = true := ⟨⟨⟨by lia, h2⟩, hc.1⟩, hc.2⟩
      rw [if_pos c1]
      refine (occF x k (a + 1) (st.fst.push a, a + qm.length) (by simp; lia) (Nat.le_refl _) (by lia)).trans ?_
      rw [List.filter_cons_of_pos (by simp [hc.1, hc.2])]
      simp
    · have c2 : ¬ (((st.fst.size < x.length + 1 ∧ st.snd ≤ a) ∧ a + qm.length ≤ x.length) ∧ subAt x qm a = true) := fun h => hc ⟨h.1.2, h.2⟩
      rw [if_neg c2]
      refine (occF x k (a + 1) (st.fst, st.snd) (by simp; lia) (by simp; lia) (by lia)).trans ?_
      rw [List.filter_cons_of_neg (by simpa using hc)]
theorem parts_cut (x : PySem.Str) : ∀ (k a b : Nat), b ≤ a → a + k = x.length →
    partsFrom x 1 b ((List.range' a (k + 1)).filter (fun i => decide (i + 1 ≤ x.length) && subAt x qm i)) = (cutG ((x.cps.toList.drop b).take (a - b)) (x.cps.toList.drop a)).map fun l => ⟨l.toArray⟩
  | 0, a, b, hb, ha => by
    have hl : x.cps.toList.length = x.length := by simp [PySem.Str.length]
    have e : x.cps.toList.drop a = [] := List.drop_of_length_le (by lia)
    have ha' : a = x.length := by lia
    rw [List.range'_succ, List.filter_cons_of_neg (by simp; lia), e]
    unfold cutG
    show [strSub x b x.length] = _
    simp only [List.map_cons, List.map_nil]
    congr 1
    apply PySem.Str.ext'
    apply Array.toList_inj.mp
    rw [strSub_toList, ha']
  | k + 1, a, b, hb, ha => by
    have hl : x.cps.toList.length = x.length := by simp [PySem.Str.length]
    have hlt : a < x.cps.toList.length := by lia
    have e : x.cps.toList.drop a = x.cps.toList[a] :: x.cps.toList.drop (a + 1) := List.drop_eq_getElem_cons hlt
    have hs : (subAt x qm a = true) ↔ x.cps.toList[a] = 34 := by
      rw [subAt_eq, e]
      show ((x.cps.toList[a] :: x.cps.toList.drop (a + 1)).take 1 == [34]) = true ↔ _
      simp
    rw [List.range'_succ, e]
    unfold cutG
    by_cases h : x.cps.toList[a] = 34
    · rw [if_pos h, List.filter_cons_of_pos (by simp [hs.mpr h]; lia)]
      show strSub x b a :: partsFrom x 1 (a + 1) _ = _
      rw [parts_cut x k (a + 1) (a + 1) (Nat.le_refl _) (by lia), Nat.sub_self, List.take_zero, List.map_cons]
      congr 1
      apply PySem.Str.ext'
      apply Array.toList_inj.mp
      rw [strSub_toList]
    · rw [if_neg h, List.filter_cons_of_neg (by simp only [Bool.and_eq_true]; exact fun q => h (hs.mp q.2))]
      rw [parts_cut x k (a + 1) b (by lia) (by lia)]
      congr 2
      rw [show a + 1 - b = (a - b) + 1 from Nat.sub_add_comm hb, List.take_add_one, List.getElem?_drop, show b + (a - b) = a from Nat.add_sub_cancel' hb, List.getElem?_eq_getElem hlt]
      rfl
theorem split_cut (x : PySem.Str) (hx : 1 ≤ x.length) : Txt.split x qm = (cutG [] x.cps.toList).map fun l => ⟨l.toArray⟩ := by
  have hk : ¬ (decide (x.length < qm.length) || decide (PySem.Builtin.Str.strKind x < PySem.Builtin.Str.strKind qm)) = true := by
    have h1 : PySem.Builtin.Str.strKind qm = 1 := by decide +kernel
    have h2 : 1 ≤ PySem.Builtin.Str.strKind x := by unfold PySem.Builtin.Str.strKind; split <;> (try split) <;> lia
    have h3 : qm.length = 1 := rfl
    simp [h1, h3]; lia
  have hq : occurrences x qm 0 x.length (x.length + 1) = (List.range' 0 (x.length + 1)).filter (fun i => decide (i + 1 ≤ x.length) && subAt x qm i) := by
    rw [occ_eq]
    exact (occF x (x.length + 1 - 0) 0 (#[], 0) (Nat.le_refl _) (Nat.le_refl _) (by lia)).trans (by simp)
  have hp := parts_cut x x.length 0 0 (Nat.le_refl _) (by lia)
  rw [← hq] at hp
  unfold Txt.split
  rw [if_neg hk]
  simp only [List.drop_zero, Nat.sub_self, List.take_zero] at hp
  rw [← hp]
  split
  · rename_i he
    rw [List.isEmpty_iff.mp he]
    show [x] = [strSub x 0 x.length]
    rw [sub_whole]
  · rw [partsBetween_eq]; rfl
end Mine
end

section
open PySem PySem.W PyProof.Rows PySem.Spec PySem.Calls
set_option maxRecDepth 100000
set_option maxHeartbeats 4000000
namespace Mine
noncomputable def names6 : List Str := [Str.ofString "a", Str.ofString "ab", Str.ofString "abc", Str.ofString "A", Str.ofString "AB", Str.ofString "ABC"]
noncomputable def signs48 : List Str := [Str.ofString "(", Str.ofString ")", Str.ofString "[", Str.ofString "]", Str.ofString ":", Str.ofString ",", Str.ofString ";", Str.ofString "+", Str.ofString "-", Str.ofString "*", Str.ofString "/", Str.ofString "|", Str.ofString "&", Str.ofString "<", Str.ofString ">", Str.ofString "=", Str.ofString ".", Str.ofString "%", Str.ofString "{", Str.ofString "}", Str.ofString "==", Str.ofString "!=", Str.ofString "<=", Str.ofString ">=", Str.ofString "~", Str.ofString "^", Str.ofString "<<", Str.ofString ">>", Str.ofString "**", Str.ofString "+=", Str.ofString "-=", Str.ofString "*=", Str.ofString "/=", Str.ofString "%=", Str.ofString "&=", Str.ofString "|=", Str.ofString "^=", Str.ofString "<<=", Str.ofString ">>=", Str.ofString "**=", Str.ofString "//", Str.ofString "//=", Str.ofString "@", Str.ofString "@=", Str.ofString "->", Str.ofString "...", Str.ofString ":=", Str.ofString "!"]
theorem signs_words : Txt.words (Str.ofString "( ) [ ] : , ; + - * / | & < > = . % { } == != <= >= ~ ^ << >> ** += -= *= /= %= &= |= ^= <<= >>= **= // //= @ @= -> ... := !") = signs48 := by decide +kernel
theorem signs_len : signs48.length = 48 := rfl
/-- an int's figures, where it is 1 to 4 -/
theorem fig_ok {n : Int} (h : 1 ≤ n ∧ n < 5) : clean codeV (Str.ofString (toString n)) = true ∧ (Str.ofString (toString n)).length = 1 ∧ hasNot (Str.ofString (toString n)) (PySem.Str.ofString "\\") = true ∧ hasNot (Str.ofString (toString n)) (PySem.Str.ofString "\"") = true := by
  have : n = 1 ∨ n = 2 ∨ n = 3 ∨ n = 4 := by lia
  rcases this with rfl | rfl | rfl | rfl <;> decide +kernel
theorem signs_ok : signs48.all (fun s => clean codeV s && decide (s.length ≤ 3) && !s.cps.toList.contains 34) = true := by decide +kernel
theorem names_ok : names6.all (fun s => clean codeN s && decide (s.length ≤ 3)) = true := by decide +kernel
theorem getD_all {α : Type} {l : List α} {p : α → Bool} {d : α} (h : l.all p = true) {i : Nat} (hi : i < l.length) : p (l.getD i d) = true := by
  rw [List.getD_eq_getElem?_getD, List.getElem?_eq_getElem hi]; exact List.all_eq_true.mp h _ (List.getElem_mem hi)
theorem sign_ok {i : Nat} (hi : i < 48) : clean codeV (signs48.getD i PySem.Str.empty) = true ∧ (signs48.getD i PySem.Str.empty).length ≤ 3 := by
  have q := getD_all (d := PySem.Str.empty) signs_ok (i := i) hi
  simp only [Bool.and_eq_true, decide_eq_true_eq] at q
  exact q.1
theorem sign_no34 {i : Nat} (hi : i < 48) : 34 ∉ (signs48.getD i PySem.Str.empty).cps.toList := by
  have q := getD_all (d := PySem.Str.empty) signs_ok (i := i) hi
  simp only [Bool.and_eq_true, Bool.not_eq_true'] at q
  intro h
  have q2 := q.2
  rw [List.contains_iff_mem.mpr h] at q2
  cases q2
theorem fig_no34 {n : Int} (h : 1 ≤ n ∧ n < 5) : 34 ∉ (Str.ofString (toString n)).cps.toList := by
  have : n = 1 ∨ n = 2 ∨ n = 3 ∨ n = 4 := by lia
  rcases this with rfl | rfl | rfl | rfl <;> decide +kernel
theorem litA : (Str.ofString "; level-of=\"").cps.toList = (Str.ofString "; level-of=").cps.toList ++ [34] := by decide +kernel
theorem litB : (Str.ofString "\"; share-of").cps.toList = 34 :: (Str.ofString "; share-of").cps.toList := by decide +kernel
theorem litC : (Str.ofString "=\"").cps.toList = (Str.ofString "=").cps.toList ++ [34] := by decide +kernel
theorem litQ : (Str.ofString "\"") = qm := by decide +kernel
theorem litD : (Str.ofString "; share-of").cps.toList ++ (Str.ofString "=").cps.toList = (Str.ofString "; share-of=").cps.toList := by decide +kernel
theorem litN1 : 34 ∉ (Str.ofString "; level-of=").cps.toList := by decide +kernel
theorem litN2 : 34 ∉ (Str.ofString "; share-of").cps.toList := by decide +kernel
theorem litN3 : 34 ∉ (Str.ofString "; share-of=").cps.toList := by decide +kernel
theorem str_back (b : Str) (l : List Nat) (x : Str) (h : x.cps.toList = l) : (⟨(b.cps.toList ++ l).toArray⟩ : Str) = b ++ x := by
  apply PySem.Str.ext'; apply Array.toList_inj.mp
  rw [PySem.Str.cps_append, Array.toList_append, h]
theorem str_back1 (x : Str) : (⟨x.cps.toList.toArray⟩ : Str) = x := by apply PySem.Str.ext'; rfl
theorem split0 {b c : Str} (hb : 34 ∉ b.cps.toList) (hc : 34 ∉ c.cps.toList) : Txt.split (hdr0 b c) (Str.ofString "\"") = [b ++ Str.ofString "; level-of=", c, Str.ofString "; share-of"] := by
  have hl : (hdr0 b c).cps.toList = (b.cps.toList ++ (Str.ofString "; level-of=").cps.toList) ++ 34 :: (c.cps.toList ++ 34 :: (Str.ofString "; share-of").cps.toList) := by
    unfold hdr0
    simp only [PySem.Str.cps_append, Array.toList_append, litA, litB, List.append_assoc, List.cons_append, List.nil_append]
  have h1 : 34 ∉ b.cps.toList ++ (Str.ofString "; level-of=").cps.toList := by simp only [List.mem_append]; exact fun q => q.elim hb litN1
  rw [litQ, split_cut _ (by show 1 ≤ (hdr0 b c).cps.size; rw [← Array.length_toList, hl]; simp; lia), hl, cutG_app _ _ _ h1, cutG_app _ _ _ hc, cutG_clean _ _ litN2]
  simp only [List.map_cons, List.map_nil, List.nil_append, str_back _ _ _ rfl, str_back1]
theorem split1 {b c e : Str} (hb : 34 ∉ b.cps.toList) (hc : 34 ∉ c.cps.toList) (he : 34 ∉ e.cps.toList) : Txt.split (hdr b c e) (Str.ofString "\"") = [b ++ Str.ofString "; level-of=", c, Str.ofString "; share-of=", e, Str.ofString ""] := by
  have hl : (hdr b c e).cps.toList = (b.cps.toList ++ (Str.ofString "; level-of=").cps.toList) ++ 34 :: (c.cps.toList ++ 34 :: ((Str.ofString "; share-of=").cps.toList ++ 34 :: (e.cps.toList ++ 34 :: []))) := by
    unfold hdr hdr0
    rw [← litD]
    simp only [PySem.Str.cps_append, Array.toList_append, litA, litB, litC, litQ, List.append_assoc, List.cons_append, List.nil_append]
  have h1 : 34 ∉ b.cps.toList ++ (Str.ofString "; level-of=").cps.toList := by simp only [List.mem_append]; exact fun q => q.elim hb litN1
  rw [litQ, split_cut _ (by show 1 ≤ (hdr b c e).cps.size; rw [← Array.length_toList, hl]; simp; lia), hl, cutG_app _ _ _ h1, cutG_app _ _ _ hc, cutG_app _ _ _ litN3, cutG_app _ _ _ he, cutG_clean _ _ (by simp)]
  simp only [List.map_cons, List.map_nil, List.nil_append, str_back _ _ _ rfl, str_back1]
  rfl
theorem idx6 {a b : Int} (ha : 0 ≤ a ∧ a < 3) (hb : 0 ≤ b ∧ b < 2) : 0 ≤ a + b * 3 ∧ a + b * 3 < 6 ∧ (a + b * 3).toNat < 6 := by lia
theorem name_ok {i : Nat} (hi : i < 6) : clean codeN (names6.getD i PySem.Str.empty) = true ∧ (names6.getD i PySem.Str.empty).length ≤ 3 := by
  have q := getD_all (d := PySem.Str.empty) names_ok (i := i) hi
  simpa using q
noncomputable abbrev frac (a b : Int) : UInt64 := Float64.ofFrac (decide (a < 0) != decide (b < 0)) a.natAbs b.natAbs
/-- what one number of the script makes: the told triple, the mark, the header's text -/
noncomputable def tldT (sh lv tu : Int) : P3 := if sh = 0 then (0, 0, frac lv 4) else (frac tu 64, frac sh 4, frac lv 4)
noncomputable def mkT (sh tu : Int) : Int := if sh = 0 then 0 else if 22 ≤ tu ∧ tu ≤ 53 then 1 else -1
noncomputable def txT (sn : Str) (sh lv : Int) : Str := if sh = 0 then hdr0 sn (Str.ofString (toString lv)) else hdr sn (Str.ofString (toString lv)) (Str.ofString (toString sh))
noncomputable abbrev ledA (w : World) (rest : List (Addr × Obj)) (Tb Td H Du Tl Mk Sg t0 t1 t2 ts m0 m1 m2 ms : Addr) (k0 : Tok) (hs du tv mv : Array Value) (nh nd nt nm : Nat) (sg : List (Str × Tok)) : List (Addr × Obj) :=
  (Tb, instObj 220 Td) :: (Td, dictOf [{ hash := PyData.keyHash w.params (Str.ofString "_headers"), key := .str (Str.ofString "_headers") k0, val := .ref H }] 1) :: (H, PySem.W.listOf hs nh) :: (Du, PySem.W.listOf du nd) :: (ts, PySem.W.listOf tv nt) :: (ms, PySem.W.listOf mv nm) :: (Tl, PySem.W.listOf #[.ref t0, .ref t1, .ref t2] 0) :: (Mk, PySem.W.listOf #[.ref m0, .ref m1, .ref m2] 0) :: (Sg, PySem.W.listOf (strValues sg).toArray 0) :: rest
theorem offA {Sg Td Tb H Du ts Tl ms Mk : Addr} {a b c d e f : Obj} {rest : List (Addr × Obj)} (o1 : @LT.lt Nat _ Sg Td) (o2 : @LT.lt Nat _ Td Tb) (o3 : @LT.lt Nat _ Tb H) (o4 : @LT.lt Nat _ H Du) (o5 : @LT.lt Nat _ Du ts) (o6 : @LT.lt Nat _ ts Tl) (o7 : @LT.lt Nat _ Tl ms) (o8 : @LT.lt Nat _ ms Mk) (r1 : ∀ p ∈ rest, p.1 ≠ H) :
    ∀ p ∈ (Du, a) :: (ts, b) :: (ms, c) :: (Tl, d) :: (Mk, e) :: (Sg, f) :: rest, p.1 ≠ H := by
  have n : ∀ x y : Nat, x < y → y ≠ x := fun _ _ h => Nat.ne_of_gt h
  have n' : ∀ x y : Nat, x < y → x ≠ y := fun _ _ h => Nat.ne_of_lt h
  simp only [List.forall_mem_cons]
  exact ⟨n _ _ o4, n _ _ (Nat.lt_trans o4 o5), n _ _ (Nat.lt_trans (Nat.lt_trans (Nat.lt_trans o4 o5) o6) o7), n _ _ (Nat.lt_trans (Nat.lt_trans o4 o5) o6), n _ _ (Nat.lt_trans (Nat.lt_trans (Nat.lt_trans (Nat.lt_trans o4 o5) o6) o7) o8), n' _ _ (Nat.lt_trans (Nat.lt_trans o1 o2) o3), r1⟩
end Mine
end

section
open PySem PySem.W PyProof.Rows PySem.Spec PySem.Calls
set_option maxRecDepth 100000
set_option maxHeartbeats 4000000
namespace Mine
/-- what one turn lays anew -/
inductive RA (Mk : Addr) (rest : List (Addr × Obj)) (F : Addr → Addr → Addr → Tok → Tok → Tok → Tok → Tok → Tok → Tok → Tok → List (Addr × Obj)) (nw : List (Addr × Obj)) : Prop
  | mk (D1 D2 D3 : Addr) (a1 a2 a3 a4 a5 a6 a7 a8 : Tok) (d1 : @LT.lt Nat _ Mk D1) (d2 : @LT.lt Nat _ Mk D2) (d3 : @LT.lt Nat _ Mk D3) (nz : a3 ≠ 0 ∧ a4 ≠ 0 ∧ a5 ≠ 0) (nr : ∀ p ∈ rest, p.1 ≠ D1 ∧ p.1 ≠ D2 ∧ p.1 ≠ D3) (e : nw = F D1 D2 D3 a1 a2 a3 a4 a5 a6 a7 a8) : RA Mk rest F nw
theorem lit12 : (PySem.Str.ofString "; level-of=\"").length ≤ 12 := by decide +kernel
theorem lit11 : (PySem.Str.ofString "\"; share-of").length ≤ 11 := by decide +kernel
theorem turnA (w : World) (mean : ExcName → Option Value) (mg mb : Str → Option Value) (B : Str → Option Value) (rest : List (Addr × Obj)) (Tb Td H Du Tl Mk Sg t0 t1' t2' ts m0 m1 m2 ms : Addr) (x : Int) (tx k0 : Tok) (hs du tv mv : Array Value) (nh nd nt nm' : Nat) (sg : List (Str × Tok))
    (st sh lv gr si tu : Int) (hst : (x.fdiv 48).fmod 3 = st) (hsh : (x.fdiv 288 + 3).fmod 5 = sh) (hlv : (x.fdiv 1440).fmod 4 + 1 = lv) (hgr : (x.fdiv 144).fmod 2 = gr) (hsi : x.fmod 48 = si) (htu : ((si + 7) * 11).fmod 64 = tu)
    (b1 : 0 ≤ st ∧ st < 3) (b2 : 0 ≤ sh ∧ sh < 5) (b3 : 1 ≤ lv ∧ lv < 5) (b4 : 0 ≤ gr ∧ gr < 2) (b5 : 0 ≤ si ∧ si < 48) (b6 : 0 ≤ tu ∧ tu < 64) (hsgS : StrsAre (strValues sg) signs48)
    (hT : #[Value.ref t0, .ref t1', .ref t2'][st.toNat]? = some (.ref ts)) (hM : #[Value.ref m0, .ref m1, .ref m2][st.toNat]? = some (.ref ms)) (z1 : hs.size ≤ 100) (z2 : du.size ≤ 100) (z3 : tv.size ≤ 100) (z4 : mv.size ≤ 100)
    (o1 : @LT.lt Nat _ Sg Td) (o2 : @LT.lt Nat _ Td Tb) (o3 : @LT.lt Nat _ Tb H) (o4 : @LT.lt Nat _ H Du) (o5 : @LT.lt Nat _ Du ts) (o6 : @LT.lt Nat _ ts Tl) (o7 : @LT.lt Nat _ Tl ms) (o8 : @LT.lt Nat _ ms Mk)
    (r1 : ∀ p ∈ rest, p.1 ≠ H) (r2 : ∀ p ∈ rest, p.1 ≠ Du) (r3 : ∀ p ∈ rest, p.1 ≠ ts) (r4 : ∀ p ∈ rest, p.1 ≠ ms) :
    Seg 20 w mean mg mb (forBody (stAt lawD.body 3)) (fun z => if z = Str.ofString "x" then some (.int x tx) else if z = Str.ofString "marks" then some (.ref Mk) else if z = Str.ofString "told" then some (.ref Tl) else if z = Str.ofString "due" then some (.ref Du) else if z = Str.ofString "table" then some (.ref Tb) else if z = Str.ofString "signs" then some (.ref Sg) else B z)
      (ledA w rest Tb Td H Du Tl Mk Sg t0 t1' t2' ts m0 m1 m2 ms k0 hs du tv mv nh nd nt nm' sg)
      (fun _ _ _ => True) (fun f m' nw => f = .next ∧ (∀ z, z ≠ Str.ofString "stalk" → z ≠ Str.ofString "share" → z ≠ Str.ofString "level" → z ≠ Str.ofString "name" → z ≠ Str.ofString "sign" → z ≠ Str.ofString "turn" → z ≠ Str.ofString "text" → z ≠ Str.ofString "x" →
          m' z = if z = Str.ofString "marks" then some (.ref Mk) else if z = Str.ofString "told" then some (.ref Tl) else if z = Str.ofString "due" then some (.ref Du) else if z = Str.ofString "table" then some (.ref Tb) else if z = Str.ofString "signs" then some (.ref Sg) else B z) ∧
        RA Mk rest (fun D1 D2 D3 a1 a2 a3 a4 a5 a6 a7 a8 => (D3, tupS (names6.getD (st + gr * 3).toNat PySem.Str.empty) (txT (signs48.getD si.toNat PySem.Str.empty) sh lv) a1 a2) :: (D2, tup3 (tldT sh lv tu).1 (tldT sh lv tu).2.1 (tldT sh lv tu).2.2 a3 a4 a5) :: (D1, tupS (names6.getD (st + gr * 3).toNat PySem.Str.empty) (txT (signs48.getD si.toNat PySem.Str.empty) sh lv) a6 a7) ::
            ledA w rest Tb Td H Du Tl Mk Sg t0 t1' t2' ts m0 m1 m2 ms k0 (hs.push (.ref D1)) (du.push (.ref D3)) (tv.push (.ref D2)) (mv.push (.int (mkT sh tu) a8)) (nh + 1) (nd + 1) (nt + 1) (nm' + 1) sg) nw) := by
  w_top off
  have hSo : List.Pairwise (· < ·) ([Sg, Td, Tb, H, Du, ts, Tl, ms, Mk] : List Nat) := srtCons o1 (srtCons o2 (srtCons o3 (srtCons o4 (srtCons o5 (srtCons o6 (srtCons o7 (srtCons o8 (List.pairwise_singleton _ _))))))))
  have ne0 : @Ne Nat Sg H := srtNe hSo 0 3 rfl rfl (by decide)
  have ne1 : @Ne Nat Td H := srtNe hSo 1 3 rfl rfl (by decide)
  have ne2 : @Ne Nat Tb H := srtNe hSo 2 3 rfl rfl (by decide)
  have ne3 : @Ne Nat Du H := srtNe hSo 4 3 rfl rfl (by decide)
  have ne4 : @Ne Nat ts H := srtNe hSo 5 3 rfl rfl (by decide)
  have ne5 : @Ne Nat Tl H := srtNe hSo 6 3 rfl rfl (by decide)
  have ne6 : @Ne Nat ms H := srtNe hSo 7 3 rfl rfl (by decide)
  have ne7 : @Ne Nat Mk H := srtNe hSo 8 3 rfl rfl (by decide)
  have ne8 : @Ne Nat Sg Du := srtNe hSo 0 4 rfl rfl (by decide)
  have ne9 : @Ne Nat Td Du := srtNe hSo 1 4 rfl rfl (by decide)
  have ne10 : @Ne Nat Tb Du := srtNe hSo 2 4 rfl rfl (by decide)
  have ne11 : @Ne Nat ts Du := srtNe hSo 5 4 rfl rfl (by decide)
  have ne12 : @Ne Nat Tl Du := srtNe hSo 6 4 rfl rfl (by decide)
  have ne13 : @Ne Nat ms Du := srtNe hSo 7 4 rfl rfl (by decide)
  have ne14 : @Ne Nat Mk Du := srtNe hSo 8 4 rfl rfl (by decide)
  have ne15 : @Ne Nat Sg ts := srtNe hSo 0 5 rfl rfl (by decide)
  have ne16 : @Ne Nat Td ts := srtNe hSo 1 5 rfl rfl (by decide)
  have ne17 : @Ne Nat Tb ts := srtNe hSo 2 5 rfl rfl (by decide)
  have ne18 : @Ne Nat Tl ts := srtNe hSo 6 5 rfl rfl (by decide)
  have ne19 : @Ne Nat ms ts := srtNe hSo 7 5 rfl rfl (by decide)
  have ne20 : @Ne Nat Mk ts := srtNe hSo 8 5 rfl rfl (by decide)
  have ne21 : @Ne Nat Sg ms := srtNe hSo 0 7 rfl rfl (by decide)
  have ne22 : @Ne Nat Td ms := srtNe hSo 1 7 rfl rfl (by decide)
  have ne23 : @Ne Nat Tb ms := srtNe hSo 2 7 rfl rfl (by decide)
  have ne24 : @Ne Nat Tl ms := srtNe hSo 6 7 rfl rfl (by decide)
  have ne25 : @Ne Nat Mk ms := srtNe hSo 8 7 rfl rfl (by decide)
  unfold Seg; k_fill
  intro dp un gd a' ccd cl outer A₀ base h₀ L s Q E B' F X N T hpre hd hu hret
  unfold stAt lawD lawQ
  dsimp only [List.getD, List.getElem?_cons_succ, List.getElem?_cons_zero, Option.getD, forBody]
  repeat' ((fail_if_success (with_reducible show wpAny _ _ (exec (Stmt.Assign [Expr.Name (Str.ofString "name") _] _ _) _) _ _ _)); first | (k_unfold; (try dsimp only)) | (first | with_reducible ((with_reducible show wpAny _ _ (execs [] _) _ _ _); ((with_reducible refine wpAny_execs_nil ?_); try dsimp only)) | with_reducible ((with_reducible show wpAny _ _ (execs (_ :: _) _) _ _ _); ((try k_fold); (with_reducible refine cons_pos ?_); intro tkz9; (try dsimp only); (try k_fold))) | with_reducible (k_here; (with_reducible show wpAny _ _ (binaryOp Operator.Add (Value.str _ _) (Value.str _ _)) _ _ _); refine add_str ?_ ?z; (case z => (rw [PySem.sizeLine_eq]; refine' Nat.le_trans (Nat.add_le_add ?z1 ?z2) ?z3; (case z1 => (repeat (first | exact sn2 | exact lv2l | exact sh2l | exact lit12 | exact lit11 | exact lit2l | exact lit1l | refine' ap_le ?_ ?_))); (case z2 => (repeat (first | exact sn2 | exact lv2l | exact sh2l | exact lit12 | exact lit11 | exact lit2l | exact lit1l | refine' ap_le ?_ ?_))); (case z3 => decide))); intro t9z9 tk9z9; (try dsimp only)) | with_reducible ((with_reducible show wpAny _ _ (subscriptTail (Expr.Name _ _) (Expr.Name _ _) (Value.ref _) (Value.int _ _)) _ _ _); (k_here; k_dflt (refine item_list ⟨_, News.get (by assumption) (by k_mem), rfl, _, rfl⟩ (by first | exact b1.1 | lia) (by first | exact b1.2 | lia) (by assumption) ?_))) | walk1) | (dsimp only; (first | with_reducible ((with_reducible show wpAny _ _ (execs [] _) _ _ _); ((with_reducible refine wpAny_execs_nil ?_); try dsimp only)) | with_reducible ((with_reducible show wpAny _ _ (execs (_ :: _) _) _ _ _); ((try k_fold); (with_reducible refine cons_pos ?_); intro tkz9; (try dsimp only); (try k_fold))) | with_reducible (k_here; (with_reducible show wpAny _ _ (binaryOp Operator.Add (Value.str _ _) (Value.str _ _)) _ _ _); refine add_str ?_ ?z; (case z => (rw [PySem.sizeLine_eq]; refine' Nat.le_trans (Nat.add_le_add ?z1 ?z2) ?z3; (case z1 => (repeat (first | exact sn2 | exact lv2l | exact sh2l | exact lit12 | exact lit11 | exact lit2l | exact lit1l | refine' ap_le ?_ ?_))); (case z2 => (repeat (first | exact sn2 | exact lv2l | exact sh2l | exact lit12 | exact lit11 | exact lit2l | exact lit1l | refine' ap_le ?_ ?_))); (case z3 => decide))); intro t9z9 tk9z9; (try dsimp only)) | with_reducible ((with_reducible show wpAny _ _ (subscriptTail (Expr.Name _ _) (Expr.Name _ _) (Value.ref _) (Value.int _ _)) _ _ _); (k_here; k_dflt (refine item_list ⟨_, News.get (by assumption) (by k_mem), rfl, _, rfl⟩ (by first | exact b1.1 | lia) (by first | exact b1.2 | lia) (by assumption) ?_))) | walk1)) | (leave1; try dsimp only))
  rename Fr _ _ _ _ => F1
  simp only [hst, hsh, hlv] at F1
  repeat' ((fail_if_success (with_reducible show wpAny _ _ (subscriptTail _ _ (Value.ref _) (Value.int _ _)) _ _ _)); first | (k_unfold; (try dsimp only)) | (first | with_reducible ((with_reducible show wpAny _ _ (execs [] _) _ _ _); ((with_reducible refine wpAny_execs_nil ?_); try dsimp only)) | with_reducible ((with_reducible show wpAny _ _ (execs (_ :: _) _) _ _ _); ((try k_fold); (with_reducible refine cons_pos ?_); intro tkz9; (try dsimp only); (try k_fold))) | with_reducible (k_here; (with_reducible show wpAny _ _ (binaryOp Operator.Add (Value.str _ _) (Value.str _ _)) _ _ _); refine add_str ?_ ?z; (case z => (rw [PySem.sizeLine_eq]; refine' Nat.le_trans (Nat.add_le_add ?z1 ?z2) ?z3; (case z1 => (repeat (first | exact sn2 | exact lv2l | exact sh2l | exact lit12 | exact lit11 | exact lit2l | exact lit1l | refine' ap_le ?_ ?_))); (case z2 => (repeat (first | exact sn2 | exact lv2l | exact sh2l | exact lit12 | exact lit11 | exact lit2l | exact lit1l | refine' ap_le ?_ ?_))); (case z3 => decide))); intro t9z9 tk9z9; (try dsimp only)) | with_reducible ((with_reducible show wpAny _ _ (subscriptTail (Expr.Name _ _) (Expr.Name _ _) (Value.ref _) (Value.int _ _)) _ _ _); (k_here; k_dflt (refine item_list ⟨_, News.get (by assumption) (by k_mem), rfl, _, rfl⟩ (by first | exact b1.1 | lia) (by first | exact b1.2 | lia) (by assumption) ?_))) | walk1) | (dsimp only; (first | with_reducible ((with_reducible show wpAny _ _ (execs [] _) _ _ _); ((with_reducible refine wpAny_execs_nil ?_); try dsimp only)) | with_reducible ((with_reducible show wpAny _ _ (execs (_ :: _) _) _ _ _); ((try k_fold); (with_reducible refine cons_pos ?_); intro tkz9; (try dsimp only); (try k_fold))) | with_reducible (k_here; (with_reducible show wpAny _ _ (binaryOp Operator.Add (Value.str _ _) (Value.str _ _)) _ _ _); refine add_str ?_ ?z; (case z => (rw [PySem.sizeLine_eq]; refine' Nat.le_trans (Nat.add_le_add ?z1 ?z2) ?z3; (case z1 => (repeat (first | exact sn2 | exact lv2l | exact sh2l | exact lit12 | exact lit11 | exact lit2l | exact lit1l | refine' ap_le ?_ ?_))); (case z2 => (repeat (first | exact sn2 | exact lv2l | exact sh2l | exact lit12 | exact lit11 | exact lit2l | exact lit1l | refine' ap_le ?_ ?_))); (case z3 => decide))); intro t9z9 tk9z9; (try dsimp only)) | with_reducible ((with_reducible show wpAny _ _ (subscriptTail (Expr.Name _ _) (Expr.Name _ _) (Value.ref _) (Value.int _ _)) _ _ _); (k_here; k_dflt (refine item_list ⟨_, News.get (by assumption) (by k_mem), rfl, _, rfl⟩ (by first | exact b1.1 | lia) (by first | exact b1.2 | lia) (by assumption) ?_))) | walk1)) | (leave1; try dsimp only))
  rw [hgr]
  refine KTb.item_list ⟨_, News.get (by assumption) (by k_mem), rfl, _, rfl⟩ (ws := names6) (.cons _ _ (.cons _ _ (.cons _ _ (.cons _ _ (.cons _ _ (.cons _ _ .nil)))))) (idx6 b1 b4).1 (show _ < ((6 : Nat) : Int) from (idx6 b1 b4).2.1) (Int.lt_trans (idx6 b1 b4).2.1 (by decide)) (fun t1 _ => ?_) (by with_unfolding_all rfl)
  generalize hnmE : names6.getD (st + gr * 3).toNat PySem.Str.empty = nm
  dsimp only
  repeat' ((fail_if_success (with_reducible show wpAny _ _ (subscriptTail _ _ (Value.ref _) (Value.int _ _)) _ _ _)); first | (k_unfold; (try dsimp only)) | (first | with_reducible ((with_reducible show wpAny _ _ (execs [] _) _ _ _); ((with_reducible refine wpAny_execs_nil ?_); try dsimp only)) | with_reducible ((with_reducible show wpAny _ _ (execs (_ :: _) _) _ _ _); ((try k_fold); (with_reducible refine cons_pos ?_); intro tkz9; (try dsimp only); (try k_fold))) | with_reducible (k_here; (with_reducible show wpAny _ _ (binaryOp Operator.Add (Value.str _ _) (Value.str _ _)) _ _ _); refine add_str ?_ ?z; (case z => (rw [PySem.sizeLine_eq]; refine' Nat.le_trans (Nat.add_le_add ?z1 ?z2) ?z3; (case z1 => (repeat (first | exact sn2 | exact lv2l | exact sh2l | exact lit12 | exact lit11 | exact lit2l | exact lit1l | refine' ap_le ?_ ?_))); (case z2 => (repeat (first | exact sn2 | exact lv2l | exact sh2l | exact lit12 | exact lit11 | exact lit2l | exact lit1l | refine' ap_le ?_ ?_))); (case z3 => decide))); intro t9z9 tk9z9; (try dsimp only)) | with_reducible ((with_reducible show wpAny _ _ (subscriptTail (Expr.Name _ _) (Expr.Name _ _) (Value.ref _) (Value.int _ _)) _ _ _); (k_here; k_dflt (refine item_list ⟨_, News.get (by assumption) (by k_mem), rfl, _, rfl⟩ (by first | exact b1.1 | lia) (by first | exact b1.2 | lia) (by assumption) ?_))) | walk1) | (dsimp only; (first | with_reducible ((with_reducible show wpAny _ _ (execs [] _) _ _ _); ((with_reducible refine wpAny_execs_nil ?_); try dsimp only)) | with_reducible ((with_reducible show wpAny _ _ (execs (_ :: _) _) _ _ _); ((try k_fold); (with_reducible refine cons_pos ?_); intro tkz9; (try dsimp only); (try k_fold))) | with_reducible (k_here; (with_reducible show wpAny _ _ (binaryOp Operator.Add (Value.str _ _) (Value.str _ _)) _ _ _); refine add_str ?_ ?z; (case z => (rw [PySem.sizeLine_eq]; refine' Nat.le_trans (Nat.add_le_add ?z1 ?z2) ?z3; (case z1 => (repeat (first | exact sn2 | exact lv2l | exact sh2l | exact lit12 | exact lit11 | exact lit2l | exact lit1l | refine' ap_le ?_ ?_))); (case z2 => (repeat (first | exact sn2 | exact lv2l | exact sh2l | exact lit12 | exact lit11 | exact lit2l | exact lit1l | refine' ap_le ?_ ?_))); (case z3 => decide))); intro t9z9 tk9z9; (try dsimp only)) | with_reducible ((with_reducible show wpAny _ _ (subscriptTail (Expr.Name _ _) (Expr.Name _ _) (Value.ref _) (Value.int _ _)) _ _ _); (k_here; k_dflt (refine item_list ⟨_, News.get (by assumption) (by k_mem), rfl, _, rfl⟩ (by first | exact b1.1 | lia) (by first | exact b1.2 | lia) (by assumption) ?_))) | walk1)) | (leave1; try dsimp only))
  rw [hsi]
  refine KTb.item_list ⟨_, News.get (by assumption) (by k_mem), rfl, _, rfl⟩ hsgS b5.1 (show _ < ((48 : Nat) : Int) from b5.2) (Int.lt_trans b5.2 (by decide)) (fun t2 _ => ?_) (by with_unfolding_all rfl)
  generalize hsnE : signs48.getD si.toNat PySem.Str.empty = sn
  dsimp only
  have hnmK := name_ok (i := (st + gr * 3).toNat) (idx6 b1 b4).2.2
  have hsnK := sign_ok (i := si.toNat) ((Int.toNat_lt b5.1).mpr b5.2)
  rw [hnmE] at hnmK
  rw [hsnE] at hsnK
  obtain ⟨nm1, nm2⟩ := hnmK
  obtain ⟨sn1, sn2⟩ := hsnK
  obtain ⟨lv1, lv2, lv3, lv4⟩ := fig_ok b3
  have lv2l := Nat.le_of_eq lv2
  have fN1 := nabLt (show 0 ≤ lv ∧ lv < 700 from ⟨Int.le_trans (by decide) b3.1, Int.lt_trans b3.2 (by decide)⟩)
  repeat' ((fail_if_success (with_reducible show wpAny _ _ (exec (Stmt.Assign [Expr.Name (Str.ofString "text") _] _ _) _) _ _ _)); first | (k_unfold; (try dsimp only)) | (first | with_reducible ((with_reducible show wpAny _ _ (execs [] _) _ _ _); ((with_reducible refine wpAny_execs_nil ?_); try dsimp only)) | with_reducible ((with_reducible show wpAny _ _ (execs (_ :: _) _) _ _ _); ((try k_fold); (with_reducible refine cons_pos ?_); intro tkz9; (try dsimp only); (try k_fold))) | with_reducible (k_here; (with_reducible show wpAny _ _ (binaryOp Operator.Add (Value.str _ _) (Value.str _ _)) _ _ _); refine add_str ?_ ?z; (case z => (rw [PySem.sizeLine_eq]; refine' Nat.le_trans (Nat.add_le_add ?z1 ?z2) ?z3; (case z1 => (repeat (first | exact sn2 | exact lv2l | exact sh2l | exact lit12 | exact lit11 | exact lit2l | exact lit1l | refine' ap_le ?_ ?_))); (case z2 => (repeat (first | exact sn2 | exact lv2l | exact sh2l | exact lit12 | exact lit11 | exact lit2l | exact lit1l | refine' ap_le ?_ ?_))); (case z3 => decide))); intro t9z9 tk9z9; (try dsimp only)) | with_reducible ((with_reducible show wpAny _ _ (subscriptTail (Expr.Name _ _) (Expr.Name _ _) (Value.ref _) (Value.int _ _)) _ _ _); (k_here; k_dflt (refine item_list ⟨_, News.get (by assumption) (by k_mem), rfl, _, rfl⟩ (by first | exact b1.1 | lia) (by first | exact b1.2 | lia) (by assumption) ?_))) | walk1) | (dsimp only; (first | with_reducible ((with_reducible show wpAny _ _ (execs [] _) _ _ _); ((with_reducible refine wpAny_execs_nil ?_); try dsimp only)) | with_reducible ((with_reducible show wpAny _ _ (execs (_ :: _) _) _ _ _); ((try k_fold); (with_reducible refine cons_pos ?_); intro tkz9; (try dsimp only); (try k_fold))) | with_reducible (k_here; (with_reducible show wpAny _ _ (binaryOp Operator.Add (Value.str _ _) (Value.str _ _)) _ _ _); refine add_str ?_ ?z; (case z => (rw [PySem.sizeLine_eq]; refine' Nat.le_trans (Nat.add_le_add ?z1 ?z2) ?z3; (case z1 => (repeat (first | exact sn2 | exact lv2l | exact sh2l | exact lit12 | exact lit11 | exact lit2l | exact lit1l | refine' ap_le ?_ ?_))); (case z2 => (repeat (first | exact sn2 | exact lv2l | exact sh2l | exact lit12 | exact lit11 | exact lit2l | exact lit1l | refine' ap_le ?_ ?_))); (case z3 => decide))); intro t9z9 tk9z9; (try dsimp only)) | with_reducible ((with_reducible show wpAny _ _ (subscriptTail (Expr.Name _ _) (Expr.Name _ _) (Value.ref _) (Value.int _ _)) _ _ _); (k_here; k_dflt (refine item_list ⟨_, News.get (by assumption) (by k_mem), rfl, _, rfl⟩ (by first | exact b1.1 | lia) (by first | exact b1.2 | lia) (by assumption) ?_))) | walk1)) | (leave1; try dsimp only))
  rename Fr _ _ _ _ => F2
  simp only [hsi, htu] at F2
  have fsh : 1 ≤ sh → (Str.ofString (toString sh)).length = 1 := fun q => (fig_ok ⟨q, b2.2⟩).2.1
  repeat' ((fail_if_success (with_reducible show wpAny _ _ (call (Value.ref 217) _ _) _ _ _)); first | (k_unfold; (try dsimp only)) | (first | with_reducible ((with_reducible show wpAny _ _ (execs [] _) _ _ _); ((with_reducible refine wpAny_execs_nil ?_); try dsimp only)) | with_reducible ((with_reducible show wpAny _ _ (execs (_ :: _) _) _ _ _); ((try k_fold); (with_reducible refine cons_pos ?_); intro tkz9; (try dsimp only); (try k_fold))) | with_reducible (k_here; (with_reducible show wpAny _ _ (binaryOp Operator.Add (Value.str _ _) (Value.str _ _)) _ _ _); refine add_str ?_ ?z; (case z => (rw [PySem.sizeLine_eq]; refine' Nat.le_trans (Nat.add_le_add ?z1 ?z2) ?z3; (case z1 => (repeat (first | exact sn2 | exact lv2l | exact sh2l | exact lit12 | exact lit11 | exact lit2l | exact lit1l | refine' ap_le ?_ ?_))); (case z2 => (repeat (first | exact sn2 | exact lv2l | exact sh2l | exact lit12 | exact lit11 | exact lit2l | exact lit1l | refine' ap_le ?_ ?_))); (case z3 => decide))); intro t9z9 tk9z9; (try dsimp only)) | with_reducible ((with_reducible show wpAny _ _ (subscriptTail (Expr.Name _ _) (Expr.Name _ _) (Value.ref _) (Value.int _ _)) _ _ _); (k_here; k_dflt (refine item_list ⟨_, News.get (by assumption) (by k_mem), rfl, _, rfl⟩ (by first | exact b1.1 | lia) (by first | exact b1.2 | lia) (by assumption) ?_))) | walk1) | (dsimp only; (first | with_reducible ((with_reducible show wpAny _ _ (execs [] _) _ _ _); ((with_reducible refine wpAny_execs_nil ?_); try dsimp only)) | with_reducible ((with_reducible show wpAny _ _ (execs (_ :: _) _) _ _ _); ((try k_fold); (with_reducible refine cons_pos ?_); intro tkz9; (try dsimp only); (try k_fold))) | with_reducible (k_here; (with_reducible show wpAny _ _ (binaryOp Operator.Add (Value.str _ _) (Value.str _ _)) _ _ _); refine add_str ?_ ?z; (case z => (rw [PySem.sizeLine_eq]; refine' Nat.le_trans (Nat.add_le_add ?z1 ?z2) ?z3; (case z1 => (repeat (first | exact sn2 | exact lv2l | exact sh2l | exact lit12 | exact lit11 | exact lit2l | exact lit1l | refine' ap_le ?_ ?_))); (case z2 => (repeat (first | exact sn2 | exact lv2l | exact sh2l | exact lit12 | exact lit11 | exact lit2l | exact lit1l | refine' ap_le ?_ ?_))); (case z3 => decide))); intro t9z9 tk9z9; (try dsimp only)) | with_reducible ((with_reducible show wpAny _ _ (subscriptTail (Expr.Name _ _) (Expr.Name _ _) (Value.ref _) (Value.int _ _)) _ _ _); (k_here; k_dflt (refine item_list ⟨_, News.get (by assumption) (by k_mem), rfl, _, rfl⟩ (by first | exact b1.1 | lia) (by first | exact b1.2 | lia) (by assumption) ?_))) | walk1)) | (leave1; try dsimp only))
  all_goals rename Fr _ _ _ _ => F3
  all_goals rename News _ _ _ _ => N3
  · skip
    refine' useP (addh0_con w mean mg mb ((Du, PySem.W.listOf du nd) :: (ts, PySem.W.listOf tv nt) :: (ms, PySem.W.listOf mv nm') :: (Tl, PySem.W.listOf #[.ref t0, .ref t1', .ref t2'] 0) :: (Mk, PySem.W.listOf #[.ref m0, .ref m1, .ref m2] 0) :: (Sg, PySem.W.listOf (strValues sg).toArray 0) :: rest) Tb Td H hs nh nm sn (Str.ofString (toString lv)) k0 t1 t2 _ nm1 sn1 lv1 sn2 lv2 lv3 lv4 o3 (Nat.lt_trans o2 o3) z1 (offA o1 o2 o3 o4 o5 o6 o7 o8 r1)) ?hB F3 ?hX (fun p hp => N3 p (by simp only [List.mem_cons] at hp ⊢; simp [hp])) ?hT ?hp ?hd ?hu ?_
    case hB => k_asm
    case hX => k_asm
    case hT => k_asm
    case hp => exact Nat.succ_le_succ (Nat.zero_le _)
    case hd => ktr_room
    case hu => ktr_units
    intro r2 n2 h2 tk2 F4 N4 hR2
    obtain ⟨rfl, D1, ta, tb, rfl, l2⟩ := hR2
    clear F3 N3
    (try k_lt l2)
    (try dsimp only)
    repeat' (first | (k_unfold; (try dsimp only)) | (first | with_reducible ((with_reducible show wpAny _ _ (execs [] _) _ _ _); ((with_reducible refine wpAny_execs_nil ?_); try dsimp only)) | with_reducible ((with_reducible show wpAny _ _ (execs (_ :: _) _) _ _ _); ((try k_fold); (with_reducible refine cons_pos ?_); intro tkz9; (try dsimp only); (try k_fold))) | with_reducible (k_here; (with_reducible show wpAny _ _ (binaryOp Operator.Add (Value.str _ _) (Value.str _ _)) _ _ _); refine add_str ?_ ?z; (case z => (rw [PySem.sizeLine_eq]; refine' Nat.le_trans (Nat.add_le_add ?z1 ?z2) ?z3; (case z1 => (repeat (first | exact sn2 | exact lv2l | exact sh2l | exact lit12 | exact lit11 | exact lit2l | exact lit1l | refine' ap_le ?_ ?_))); (case z2 => (repeat (first | exact sn2 | exact lv2l | exact sh2l | exact lit12 | exact lit11 | exact lit2l | exact lit1l | refine' ap_le ?_ ?_))); (case z3 => decide))); intro t9z9 tk9z9; (try dsimp only)) | with_reducible ((with_reducible show wpAny _ _ (subscriptTail (Expr.Name _ _) (Expr.Name _ _) (Value.ref _) (Value.int _ _)) _ _ _); (k_here; k_dflt (refine item_list ⟨_, News.get (by assumption) (by k_mem), rfl, _, rfl⟩ (by first | exact b1.1 | lia) (by first | exact b1.2 | lia) (by assumption) ?_))) | walk1) | (dsimp only; (first | with_reducible ((with_reducible show wpAny _ _ (execs [] _) _ _ _); ((with_reducible refine wpAny_execs_nil ?_); try dsimp only)) | with_reducible ((with_reducible show wpAny _ _ (execs (_ :: _) _) _ _ _); ((try k_fold); (with_reducible refine cons_pos ?_); intro tkz9; (try dsimp only); (try k_fold))) | with_reducible (k_here; (with_reducible show wpAny _ _ (binaryOp Operator.Add (Value.str _ _) (Value.str _ _)) _ _ _); refine add_str ?_ ?z; (case z => (rw [PySem.sizeLine_eq]; refine' Nat.le_trans (Nat.add_le_add ?z1 ?z2) ?z3; (case z1 => (repeat (first | exact sn2 | exact lv2l | exact sh2l | exact lit12 | exact lit11 | exact lit2l | exact lit1l | refine' ap_le ?_ ?_))); (case z2 => (repeat (first | exact sn2 | exact lv2l | exact sh2l | exact lit12 | exact lit11 | exact lit2l | exact lit1l | refine' ap_le ?_ ?_))); (case z3 => decide))); intro t9z9 tk9z9; (try dsimp only)) | with_reducible ((with_reducible show wpAny _ _ (subscriptTail (Expr.Name _ _) (Expr.Name _ _) (Value.ref _) (Value.int _ _)) _ _ _); (k_here; k_dflt (refine item_list ⟨_, News.get (by assumption) (by k_mem), rfl, _, rfl⟩ (by first | exact b1.1 | lia) (by first | exact b1.2 | lia) (by assumption) ?_))) | walk1)) | (leave1; try dsimp only))
    rename Fr _ _ _ _ => F9
    rename News _ _ _ _ => N9
    rename (D1 < _ ∧ _ ∧ _) => l3
    rename (_ < _ ∧ D1 < _ ∧ _) => l4
    rename (sh = 0) => hc
    refine hret _ _ _ _ _ F9 N9 ⟨rfl, fun z h1 h2 h3 h4 h5 h6 h7 h8 => by (repeat (refine (if_neg (by assumption)).trans ?_)); rfl, ?_⟩
    rw [hnmE, hsnE, show txT sn sh lv = hdr0 sn (Str.ofString (toString lv)) from if_pos hc, show tldT sh lv tu = (0, 0, frac lv 4) from if_pos hc, show mkT sh tu = 0 from if_pos hc]
    exact ⟨D1, _, _, _, _, _, _, _, _, _, _, l2.2.2.2.2.2.2.2.1, l3.2.2.2.2.2.2.2.2.1, l4.2.2.2.2.2.2.2.2.2.1, ⟨Nat.succ_ne_zero _, Nat.succ_ne_zero _, Nat.succ_ne_zero _⟩, fun p hp => ⟨allLt_ne l2.2.2.2.2.2.2.2.2.2 p hp, allLt_ne l3.2.2.2.2.2.2.2.2.2.2 p hp, allLt_ne l4.2.2.2.2.2.2.2.2.2.2.2 p hp⟩, rfl⟩
  · have hsh1 : 1 ≤ sh ∧ sh < 5 := sh1 b2 (by assumption)
    obtain ⟨ss1, ss2, ss3, ss4⟩ := fig_ok hsh1
    have sh2l := Nat.le_of_eq ss2
    have fN2 := nabLt (show 0 ≤ sh ∧ sh < 700 from ⟨b2.1, Int.lt_trans b2.2 (by decide)⟩)
    have fN3 := nabLt (show 0 ≤ tu ∧ tu < 700 from ⟨b6.1, Int.lt_trans b6.2 (by decide)⟩)
    refine' useP (addh_con w mean mg mb ((Du, PySem.W.listOf du nd) :: (ts, PySem.W.listOf tv nt) :: (ms, PySem.W.listOf mv nm') :: (Tl, PySem.W.listOf #[.ref t0, .ref t1', .ref t2'] 0) :: (Mk, PySem.W.listOf #[.ref m0, .ref m1, .ref m2] 0) :: (Sg, PySem.W.listOf (strValues sg).toArray 0) :: rest) Tb Td H hs nh nm sn (Str.ofString (toString lv)) (Str.ofString (toString sh)) k0 t1 t2 _ _ nm1 sn1 lv1 ss1 sn2 lv2 lv3 lv4 ss2 ss3 ss4 o3 (Nat.lt_trans o2 o3) z1 (offA o1 o2 o3 o4 o5 o6 o7 o8 r1)) ?hB F3 ?hX (fun p hp => N3 p (by simp only [List.mem_cons] at hp ⊢; simp [hp])) ?hT ?hp ?hd ?hu ?_
    case hB => k_asm
    case hX => k_asm
    case hT => k_asm
    case hp => exact Nat.succ_le_succ (Nat.zero_le _)
    case hd => ktr_room
    case hu => ktr_units
    intro r2 n2 h2 tk2 F4 N4 hR2
    obtain ⟨rfl, D1, ta, tb, rfl, l2⟩ := hR2
    clear F3 N3
    (try k_lt l2)
    (try dsimp only)
    repeat' (first | (k_unfold; (try dsimp only)) | (first | with_reducible ((with_reducible show wpAny _ _ (execs [] _) _ _ _); ((with_reducible refine wpAny_execs_nil ?_); try dsimp only)) | with_reducible ((with_reducible show wpAny _ _ (execs (_ :: _) _) _ _ _); ((try k_fold); (with_reducible refine cons_pos ?_); intro tkz9; (try dsimp only); (try k_fold))) | with_reducible (k_here; (with_reducible show wpAny _ _ (binaryOp Operator.Add (Value.str _ _) (Value.str _ _)) _ _ _); refine add_str ?_ ?z; (case z => (rw [PySem.sizeLine_eq]; refine' Nat.le_trans (Nat.add_le_add ?z1 ?z2) ?z3; (case z1 => (repeat (first | exact sn2 | exact lv2l | exact sh2l | exact lit12 | exact lit11 | exact lit2l | exact lit1l | refine' ap_le ?_ ?_))); (case z2 => (repeat (first | exact sn2 | exact lv2l | exact sh2l | exact lit12 | exact lit11 | exact lit2l | exact lit1l | refine' ap_le ?_ ?_))); (case z3 => decide))); intro t9z9 tk9z9; (try dsimp only)) | with_reducible ((with_reducible show wpAny _ _ (subscriptTail (Expr.Name _ _) (Expr.Name _ _) (Value.ref _) (Value.int _ _)) _ _ _); (k_here; k_dflt (refine item_list ⟨_, News.get (by assumption) (by k_mem), rfl, _, rfl⟩ (by first | exact b1.1 | lia) (by first | exact b1.2 | lia) (by assumption) ?_))) | walk1) | (dsimp only; (first | with_reducible ((with_reducible show wpAny _ _ (execs [] _) _ _ _); ((with_reducible refine wpAny_execs_nil ?_); try dsimp only)) | with_reducible ((with_reducible show wpAny _ _ (execs (_ :: _) _) _ _ _); ((try k_fold); (with_reducible refine cons_pos ?_); intro tkz9; (try dsimp only); (try k_fold))) | with_reducible (k_here; (with_reducible show wpAny _ _ (binaryOp Operator.Add (Value.str _ _) (Value.str _ _)) _ _ _); refine add_str ?_ ?z; (case z => (rw [PySem.sizeLine_eq]; refine' Nat.le_trans (Nat.add_le_add ?z1 ?z2) ?z3; (case z1 => (repeat (first | exact sn2 | exact lv2l | exact sh2l | exact lit12 | exact lit11 | exact lit2l | exact lit1l | refine' ap_le ?_ ?_))); (case z2 => (repeat (first | exact sn2 | exact lv2l | exact sh2l | exact lit12 | exact lit11 | exact lit2l | exact lit1l | refine' ap_le ?_ ?_))); (case z3 => decide))); intro t9z9 tk9z9; (try dsimp only)) | with_reducible ((with_reducible show wpAny _ _ (subscriptTail (Expr.Name _ _) (Expr.Name _ _) (Value.ref _) (Value.int _ _)) _ _ _); (k_here; k_dflt (refine item_list ⟨_, News.get (by assumption) (by k_mem), rfl, _, rfl⟩ (by first | exact b1.1 | lia) (by first | exact b1.2 | lia) (by assumption) ?_))) | walk1)) | (leave1; try dsimp only))
    all_goals rename Fr _ _ _ _ => F9
    all_goals rename News _ _ _ _ => N9
    all_goals rename (D1 < _ ∧ _ ∧ _) => l3
    all_goals rename (_ < _ ∧ D1 < _ ∧ _) => l4
    all_goals rename (¬ sh = 0) => hc
    all_goals refine hret _ _ _ _ _ F9 N9 ⟨rfl, fun z h1 h2 h3 h4 h5 h6 h7 h8 => by (repeat (refine (if_neg (by assumption)).trans ?_)); rfl, ?_⟩
    all_goals rw [hnmE, hsnE, show txT sn sh lv = hdr sn (Str.ofString (toString lv)) (Str.ofString (toString sh)) from if_neg hc, show tldT sh lv tu = (frac tu 64, frac sh 4, frac lv 4) from if_neg hc]
    all_goals (first | rw [show mkT sh tu = 1 from (if_neg hc).trans (if_pos ⟨by first | assumption | lia, by first | assumption | lia⟩)] | rw [show mkT sh tu = -1 from (if_neg hc).trans (if_neg (by first | exact fun h => absurd h.2 (by assumption) | exact fun h => absurd h.1 (by assumption) | lia))])
    all_goals exact ⟨D1, _, _, _, _, _, _, _, _, _, _, l2.2.2.2.2.2.2.2.1, l3.2.2.2.2.2.2.2.2.1, l4.2.2.2.2.2.2.2.2.2.1, ⟨Nat.succ_ne_zero _, Nat.succ_ne_zero _, Nat.succ_ne_zero _⟩, fun p hp => ⟨allLt_ne l2.2.2.2.2.2.2.2.2.2 p hp, allLt_ne l3.2.2.2.2.2.2.2.2.2.2 p hp, allLt_ne l4.2.2.2.2.2.2.2.2.2.2.2 p hp⟩, rfl⟩
end Mine
end

section
open PySem PySem.W PyProof.Rows PySem.Spec PySem.Calls
open PyProof.Rows.LCg PyProof.Rows.LCt
set_option maxRecDepth 100000
set_option maxHeartbeats 8000000
namespace Mine
theorem off1_ne {D : Addr} : ∀ {l : List (Addr × Obj)}, Off1 D l → ∀ p ∈ l, p.1 ≠ D
  | [], _, _, h => nomatch h
  | _ :: _, x, p, h => by
    rcases List.mem_cons.mp h with rfl | h
    · exact x.1
    · exact off1_ne x.2 p h
theorem strs_snoc (l : List (PySem.Str × Tok)) (T : PySem.Str) (u : Tok) : strValues l ++ [Value.str T u] = strValues (l ++ [(T, u)]) := by simp [strValues]
theorem pick_yes {data : List (PySem.Str × PySem.Str)} {p : PySem.Str → Bool} {i : Nat} {n T : PySem.Str} (h : data[i]? = some (n, T)) (hp : p n = true) {l : List PySem.Str} (e : l = ((data.take i).filter fun x => p x.1).map (·.2)) :
    l ++ [T] = ((data.take (i + 1)).filter fun x => p x.1).map (·.2) := by
  rw [List.take_add_one, h, e]; simp [hp]
theorem pick_no {data : List (PySem.Str × PySem.Str)} {p : PySem.Str → Bool} {i : Nat} {n T : PySem.Str} (h : data[i]? = some (n, T)) (hp : p n = false) {l : List PySem.Str} (e : l = ((data.take i).filter fun x => p x.1).map (·.2)) :
    l = ((data.take (i + 1)).filter fun x => p x.1).map (·.2) := by
  rw [List.take_add_one, h, e]; simp [hp]
noncomputable abbrev RetG (w : World) (x d H : Addr) (t0 : Tok) (hs : Array Value) (nv : Nat) (rest : List (Addr × Obj)) (data : List (PySem.Str × PySem.Str)) (q : PySem.Str) : Value → List (Addr × Obj) → Prop := fun r nw =>
  ∃ D l, r = .ref D ∧ nw = (D, lst (strValues l)) :: tbl w x d H t0 hs nv rest ∧ l.map (·.1) = (data.filter fun p => Txt.lower p.1 == Txt.lower q).map (·.2) ∧ Off1 D (tbl w x d H t0 hs nv rest)
theorem tup_mem {h₀ h : Heap} {L a : Addr} {pre rest : List (Addr × Obj)} {its : Array Value} {k : Nat} (N : News h₀ L h (pre ++ rest)) (hm : (a, ({ cls := .type "tuple", data := .seq its k } : Obj)) ∈ rest) : IsTup h a its := ⟨_, (N _ (List.mem_append_right _ hm)).1, rfl, k, rfl⟩
theorem geta_con (w : World) (mean : ExcName → Option Value) (mg mb : Str → Option Value) (rest : List (Addr × Obj)) (x d H : Addr) (hs : Array Value) (nv : Nat) (q : PySem.Str) (t0 t1 : Tok)
   (hq : clean codeN (Txt.lower q) = true) (hq1 : q.length ≤ 3)
   (data : List (PySem.Str × PySem.Str)) (hdat : hs.size = data.length) (hrel : ∀ (i : Nat) (v : Value), hs[i]? = some v → ∃ (a : Addr) (n T : PySem.Str) (t u : Tok), v = Value.ref a ∧ (a, tupS n T t u) ∈ rest ∧ data[i]? = some (n, T) ∧ n.length ≤ 3)
   (hxH : @LT.lt Nat _ x H) (hdH : @LT.lt Nat _ d H) (hsz : hs.size ≤ 100) (hoff : ∀ p ∈ rest, p.1 ≠ H) :
    Con 5 w mean mg mb 159 (tbl w x d H t0 hs nv rest) [.ref x, .str q t1] [] (fun s => True) (RetG w x d H t0 hs nv rest data q) := by
  w_top off
  unfold Con; k_fill
  intro dp un gd cn cns cig cic cmo a' ccd cl outer A₀ base h₀ L m s Q E B F X N T hpre hd hu hret
  refine wpAny_call ?_
  k_dflt k_enter
  repeat' (first | (k_unfold; (try dsimp only)) | (k_end; kc_close) | (first | with_reducible ((with_reducible show wpAny _ _ (subscriptTail _ _ (Value.ref _) (Value.int _ _)) _ _ _); k_dflt (refine' item_tupleT ?t ?a ?b ?c ?d ?_; (case t => assumption); (case a => decide); (case b => decide); (case c => rfl); (case d => rfl); k_whole)) | with_reducible ((with_reducible show wpAny _ _ (eval (Expr.ListComp _ _ _ _) _) _ _ _); (k_here; k_dflt (refine LCt.ListComp_T (F₀ := by k_asm) (by with_unfolding_all rfl) (by decide) (by rfl) (by decide) (by rfl) ?_))) | with_reducible ((with_reducible show wpAny _ _ (call (Value.ref 121) _ _) _ _ _); k_dflt (refine' use (cst_con _ _ _ _ _ _ _ _ _ _ ?hx ?hcl) ?hB ?hF ?hX ?hN ?hT ?hp ?hd ?hu ?_; (case hB => k_asm); (case hF => k_asm); (case hX => k_asm); (case hN => k_asm); (case hT => k_asm); (case hx => k_mem); (case hcl => first | assumption | decide +kernel); (case hp => trivial); (case hd => ktr_room); (case hu => ktr_units); k_whole); intro r2z9 n2z9 h2z9 tk2z9 F2z9 N2z9 hR2z9; obtain ⟨hr2z9, hn2z9⟩ := hR2z9; subst hr2z9 hn2z9; (try dsimp only); (try k_sweep)) | walk1) | (dsimp only; (first | with_reducible ((with_reducible show wpAny _ _ (subscriptTail _ _ (Value.ref _) (Value.int _ _)) _ _ _); k_dflt (refine' item_tupleT ?t ?a ?b ?c ?d ?_; (case t => assumption); (case a => decide); (case b => decide); (case c => rfl); (case d => rfl); k_whole)) | with_reducible ((with_reducible show wpAny _ _ (eval (Expr.ListComp _ _ _ _) _) _ _ _); (k_here; k_dflt (refine LCt.ListComp_T (F₀ := by k_asm) (by with_unfolding_all rfl) (by decide) (by rfl) (by decide) (by rfl) ?_))) | with_reducible ((with_reducible show wpAny _ _ (call (Value.ref 121) _ _) _ _ _); k_dflt (refine' use (cst_con _ _ _ _ _ _ _ _ _ _ ?hx ?hcl) ?hB ?hF ?hX ?hN ?hT ?hp ?hd ?hu ?_; (case hB => k_asm); (case hF => k_asm); (case hX => k_asm); (case hN => k_asm); (case hT => k_asm); (case hx => k_mem); (case hcl => first | assumption | decide +kernel); (case hp => trivial); (case hd => ktr_room); (case hu => ktr_units); k_whole); intro r2z9 n2z9 h2z9 tk2z9 F2z9 N2z9 hR2z9; obtain ⟨hr2z9, hn2z9⟩ := hR2z9; subst hr2z9 hn2z9; (try dsimp only); (try k_sweep)) | walk1)) | (leave1; (try dsimp only)) | fail "no step")
  (rename Fr _ _ _ _ => F0)
  (rename News _ _ _ _ => N0)
  refine CompSrcT.ledger (k := nv) (its := hs) (by rfl) F0 N0 (by k_mem) (by rw [PySem.sizeLine_eq]; lia) ?_
  intro g
  refine compT_fix (fun i ys => ∃ l : List (PySem.Str × Tok), ys = strValues l ∧ l.map (·.1) = ((data.take i).filter fun p => Txt.lower p.1 == Txt.lower q).map (·.2)) ⟨[], rfl, by simp⟩ ?turn (.inr ⟨_, by k_mem, rfl, _, rfl⟩) ?fin
  (case turn =>
    intro i ys v I oI C oC D m₂ h tk E' hi hI hP hns hx F1 N1 o1 hS d1
    clear F0 N0
    obtain ⟨a, n, T9, t, u, rfl, hmem, hdi, hn3⟩ := hrel i v hP
    obtain ⟨l, rfl, hl⟩ := hI
    have htup : IsTup h a [Value.str n t, Value.str T9 u].toArray := tup_mem (pre := [_, _, _, _, _, _, _]) N1 hmem
    repeat' (first | (k_unfold; (try dsimp only)) | (k_end; kc_close) | (first | with_reducible ((with_reducible show wpAny _ _ (subscriptTail _ _ (Value.ref _) (Value.int _ _)) _ _ _); k_dflt (refine' item_tupleT ?t ?a ?b ?c ?d ?_; (case t => assumption); (case a => decide); (case b => decide); (case c => rfl); (case d => rfl); k_whole)) | with_reducible ((with_reducible show wpAny _ _ (eval (Expr.ListComp _ _ _ _) _) _ _ _); (k_here; k_dflt (refine LCt.ListComp_T (F₀ := by k_asm) (by with_unfolding_all rfl) (by decide) (by rfl) (by decide) (by rfl) ?_))) | with_reducible ((with_reducible show wpAny _ _ (call (Value.ref 121) _ _) _ _ _); k_dflt (refine' use (cst_con _ _ _ _ _ _ _ _ _ _ ?hx ?hcl) ?hB ?hF ?hX ?hN ?hT ?hp ?hd ?hu ?_; (case hB => k_asm); (case hF => k_asm); (case hX => k_asm); (case hN => k_asm); (case hT => k_asm); (case hx => k_mem); (case hcl => first | assumption | decide +kernel); (case hp => trivial); (case hd => ktr_room); (case hu => ktr_units); k_whole); intro r2z9 n2z9 h2z9 tk2z9 F2z9 N2z9 hR2z9; obtain ⟨hr2z9, hn2z9⟩ := hR2z9; subst hr2z9 hn2z9; (try dsimp only); (try k_sweep)) | walk1) | (dsimp only; (first | with_reducible ((with_reducible show wpAny _ _ (subscriptTail _ _ (Value.ref _) (Value.int _ _)) _ _ _); k_dflt (refine' item_tupleT ?t ?a ?b ?c ?d ?_; (case t => assumption); (case a => decide); (case b => decide); (case c => rfl); (case d => rfl); k_whole)) | with_reducible ((with_reducible show wpAny _ _ (eval (Expr.ListComp _ _ _ _) _) _ _ _); (k_here; k_dflt (refine LCt.ListComp_T (F₀ := by k_asm) (by with_unfolding_all rfl) (by decide) (by rfl) (by decide) (by rfl) ?_))) | with_reducible ((with_reducible show wpAny _ _ (call (Value.ref 121) _ _) _ _ _); k_dflt (refine' use (cst_con _ _ _ _ _ _ _ _ _ _ ?hx ?hcl) ?hB ?hF ?hX ?hN ?hT ?hp ?hd ?hu ?_; (case hB => k_asm); (case hF => k_asm); (case hX => k_asm); (case hN => k_asm); (case hT => k_asm); (case hx => k_mem); (case hcl => first | assumption | decide +kernel); (case hp => trivial); (case hd => ktr_room); (case hu => ktr_units); k_whole); intro r2z9 n2z9 h2z9 tk2z9 F2z9 N2z9 hR2z9; obtain ⟨hr2z9, hn2z9⟩ := hR2z9; subst hr2z9 hn2z9; (try dsimp only); (try k_sweep)) | walk1)) | (leave1; (try dsimp only)) | fail "no step")
    · refine compEnd_fix (by k_asm) (by k_asm) o1 hS ⟨l ++ [(T9, u)], strs_snoc _ _ _, ?_⟩
      rw [List.map_append]
      exact pick_yes (p := fun y => Txt.lower y == Txt.lower q) hdi (by assumption) hl
    · exact compEnd_fix (by k_asm) (by k_asm) o1 hS ⟨l, rfl, pick_no (p := fun y => Txt.lower y == Txt.lower q) hdi (by assumption) hl⟩)
  (case fin =>
    rintro ys ⟨l, rfl, hl⟩ D h tk F1 N1 o1
    clear F0 N0
    repeat' (first | (k_unfold; (try dsimp only)) | (k_end; kc_close) | (first | with_reducible ((with_reducible show wpAny _ _ (subscriptTail _ _ (Value.ref _) (Value.int _ _)) _ _ _); k_dflt (refine' item_tupleT ?t ?a ?b ?c ?d ?_; (case t => assumption); (case a => decide); (case b => decide); (case c => rfl); (case d => rfl); k_whole)) | with_reducible ((with_reducible show wpAny _ _ (eval (Expr.ListComp _ _ _ _) _) _ _ _); (k_here; k_dflt (refine LCt.ListComp_T (F₀ := by k_asm) (by with_unfolding_all rfl) (by decide) (by rfl) (by decide) (by rfl) ?_))) | with_reducible ((with_reducible show wpAny _ _ (call (Value.ref 121) _ _) _ _ _); k_dflt (refine' use (cst_con _ _ _ _ _ _ _ _ _ _ ?hx ?hcl) ?hB ?hF ?hX ?hN ?hT ?hp ?hd ?hu ?_; (case hB => k_asm); (case hF => k_asm); (case hX => k_asm); (case hN => k_asm); (case hT => k_asm); (case hx => k_mem); (case hcl => first | assumption | decide +kernel); (case hp => trivial); (case hd => ktr_room); (case hu => ktr_units); k_whole); intro r2z9 n2z9 h2z9 tk2z9 F2z9 N2z9 hR2z9; obtain ⟨hr2z9, hn2z9⟩ := hR2z9; subst hr2z9 hn2z9; (try dsimp only); (try k_sweep)) | walk1) | (dsimp only; (first | with_reducible ((with_reducible show wpAny _ _ (subscriptTail _ _ (Value.ref _) (Value.int _ _)) _ _ _); k_dflt (refine' item_tupleT ?t ?a ?b ?c ?d ?_; (case t => assumption); (case a => decide); (case b => decide); (case c => rfl); (case d => rfl); k_whole)) | with_reducible ((with_reducible show wpAny _ _ (eval (Expr.ListComp _ _ _ _) _) _ _ _); (k_here; k_dflt (refine LCt.ListComp_T (F₀ := by k_asm) (by with_unfolding_all rfl) (by decide) (by rfl) (by decide) (by rfl) ?_))) | with_reducible ((with_reducible show wpAny _ _ (call (Value.ref 121) _ _) _ _ _); k_dflt (refine' use (cst_con _ _ _ _ _ _ _ _ _ _ ?hx ?hcl) ?hB ?hF ?hX ?hN ?hT ?hp ?hd ?hu ?_; (case hB => k_asm); (case hF => k_asm); (case hX => k_asm); (case hN => k_asm); (case hT => k_asm); (case hx => k_mem); (case hcl => first | assumption | decide +kernel); (case hp => trivial); (case hd => ktr_room); (case hu => ktr_units); k_whole); intro r2z9 n2z9 h2z9 tk2z9 F2z9 N2z9 hR2z9; obtain ⟨hr2z9, hn2z9⟩ := hR2z9; subst hr2z9 hn2z9; (try dsimp only); (try k_sweep)) | walk1)) | (leave1; (try dsimp only)) | fail "no step")
    (rename News h₀ L _ _ => NE)
    rw [hdat, List.take_length] at hl
    exact hret _ _ _ _ (by k_asm) (fun p hp => NE p (by
      rcases List.mem_cons.mp hp with rfl | hp
      · exact List.mem_cons_self ..
      · exact List.mem_cons_of_mem _ (List.mem_cons_of_mem _ hp))) ⟨D, l, rfl, rfl, hl, o1.2⟩)
end Mine
end

section
open PySem PySem.W PyProof.Rows PySem.Spec PySem.Calls
set_option maxRecDepth 100000
set_option maxHeartbeats 4000000
namespace Mine
open PyProof.Rows.LCg PyProof.Rows.LCt
noncomputable def ask3 : List Str := [Str.ofString "A", Str.ofString "aB", Str.ofString "AbC"]
theorem ask_ok {i : Nat} (hi : i < 3) : clean codeN (Txt.lower (ask3.getD i PySem.Str.empty)) = true ∧ (ask3.getD i PySem.Str.empty).length ≤ 3 := by
  have : i = 0 ∨ i = 1 ∨ i = 2 := by lia
  rcases this with rfl | rfl | rfl <;> decide +kernel
theorem turnB0 (w : World) (mean : ExcName → Option Value) (mg mb : Str → Option Value) (B : Str → Option Value) (rest : List (Addr × Obj)) (c1 c2 c3 Tb Td H Tl tk : Addr) (st : Int) (tst k0 : Tok) (hs tlv tv : Array Value) (nh nt nl : Nat)
    (data : List (PySem.Str × PySem.Str)) (hdat : hs.size = data.length) (hrel : ∀ (i : Nat) (v : Value), hs[i]? = some v → ∃ (a : Addr) (n T : PySem.Str) (t u : Tok), v = Value.ref a ∧ (a, tupS n T t u) ∈ rest ∧ data[i]? = some (n, T) ∧ n.length ≤ 3)
    (hxH : @LT.lt Nat _ Tb H) (hdH : @LT.lt Nat _ Td H) (hsz : hs.size ≤ 100) (hoff : ∀ p ∈ (Tl, PySem.W.listOf tlv nl) :: (tk, PySem.W.listOf tv nt) :: rest, p.1 ≠ H)
    (b1 : 0 ≤ st ∧ st < 3) (hT : tlv[st.toNat]? = some (.ref tk)) (zt : tv.size ≤ 100)
    (hlen : (data.filter fun p => Txt.lower p.1 == Txt.lower (ask3.getD st.toNat PySem.Str.empty)).length = tv.size) :
    SegC 40 w mean mg mb (cells3 c1 c2 c3) [stAt (forBody (stAt lawD.body 6)) 0, stAt (forBody (stAt lawD.body 6)) 1]
      (fun z => if z = Str.ofString "stalk" then some (.int st tst) else if z = Str.ofString "table" then some (.ref Tb) else if z = Str.ofString "told" then some (.ref Tl) else B z)
      (tbl w Tb Td H k0 hs nh ((Tl, PySem.W.listOf tlv nl) :: (tk, PySem.W.listOf tv nt) :: rest))
      (fun f m' nw => f = .next ∧ ∃ Tx Ow l nx no, (∀ z, m' z = if z = Str.ofString "texts" then some (.ref Tx) else if z = Str.ofString "owners" then some (.ref Ow) else if z = Str.ofString "stalk" then some (.int st tst) else if z = Str.ofString "table" then some (.ref Tb) else if z = Str.ofString "told" then some (.ref Tl) else B z) ∧
        List.map (fun x : Str × Tok => x.1) l = (data.filter fun p => Txt.lower p.1 == Txt.lower (ask3.getD st.toNat PySem.Str.empty)).map (·.2) ∧
        (∀ y ∈ (Tx, PySem.W.listOf (strValues l).toArray nx) :: tbl w Tb Td H k0 hs nh ((Tl, PySem.W.listOf tlv nl) :: (tk, PySem.W.listOf tv nt) :: rest), @LT.lt Nat _ y.1 Ow) ∧
        (∀ y ∈ tbl w Tb Td H k0 hs nh ((Tl, PySem.W.listOf tlv nl) :: (tk, PySem.W.listOf tv nt) :: rest), y.1 ≠ Tx) ∧
        nw = (Ow, PySem.W.listOf #[] no) :: (Tx, PySem.W.listOf (strValues l).toArray nx) :: tbl w Tb Td H k0 hs nh ((Tl, PySem.W.listOf tlv nl) :: (tk, PySem.W.listOf tv nt) :: rest)) := by
  w_top off
  unfold SegC; k_fill
  intro dp un gd a' ccd outer A₀ base h₀ L s Q E B' F X N T hd hu hret
  unfold stAt lawD lawQ
  dsimp only [List.getD, List.getElem?_cons_succ, List.getElem?_cons_zero, Option.getD, forBody, cells3]
  repeat' ((fail_if_success (with_reducible show wpAny _ _ (subscriptTail _ _ (Value.ref _) (Value.int _ _)) _ _ _)); first | (k_unfold; (try dsimp only)) | (first | with_reducible (k_here; (with_reducible show wpAny _ _ (subscriptTail _ (Expr.Name _ _) (Value.ref _) (Value.int _ _)) _ _ _); k_dflt (refine item_list ⟨_, News.get (by assumption) (by k_mem), rfl, _, rfl⟩ (by lia) (by lia) (by with_reducible assumption) ?_)) | with_reducible (k_here; (with_reducible show wpAny _ _ (call (Value.builtin "len") [Value.ref _]) _ _ _); k_dflt (refine call_len_list (News.isList (by k_asm) (by k_mem)) (by lia) ?_)) | walk1) | (dsimp only; (first | with_reducible (k_here; (with_reducible show wpAny _ _ (subscriptTail _ (Expr.Name _ _) (Value.ref _) (Value.int _ _)) _ _ _); k_dflt (refine item_list ⟨_, News.get (by assumption) (by k_mem), rfl, _, rfl⟩ (by lia) (by lia) (by with_reducible assumption) ?_)) | with_reducible (k_here; (with_reducible show wpAny _ _ (call (Value.builtin "len") [Value.ref _]) _ _ _); k_dflt (refine call_len_list (News.isList (by k_asm) (by k_mem)) (by lia) ?_)) | walk1)) | (leave1; try dsimp only))
  refine KTb.item_list ⟨_, News.get (by assumption) (by k_mem), rfl, _, rfl⟩ (ws := ask3) (.cons _ _ (.cons _ _ (.cons _ _ .nil))) (by lia) (by show _ < ((3 : Nat) : Int); lia) (by lia) (fun t1 _ => ?_) (by with_unfolding_all rfl)
  have qok := ask_ok (i := st.toNat) (by lia)
  generalize ask3.getD st.toNat PySem.Str.empty = q at hlen qok hret ⊢
  dsimp only
  repeat' ((fail_if_success (with_reducible show wpAny _ _ (call (Value.ref 159) _ _) _ _ _)); first | (k_unfold; (try dsimp only)) | (first | with_reducible (k_here; (with_reducible show wpAny _ _ (subscriptTail _ (Expr.Name _ _) (Value.ref _) (Value.int _ _)) _ _ _); k_dflt (refine item_list ⟨_, News.get (by assumption) (by k_mem), rfl, _, rfl⟩ (by lia) (by lia) (by with_reducible assumption) ?_)) | with_reducible (k_here; (with_reducible show wpAny _ _ (call (Value.builtin "len") [Value.ref _]) _ _ _); k_dflt (refine call_len_list (News.isList (by k_asm) (by k_mem)) (by lia) ?_)) | walk1) | (dsimp only; (first | with_reducible (k_here; (with_reducible show wpAny _ _ (subscriptTail _ (Expr.Name _ _) (Value.ref _) (Value.int _ _)) _ _ _); k_dflt (refine item_list ⟨_, News.get (by assumption) (by k_mem), rfl, _, rfl⟩ (by lia) (by lia) (by with_reducible assumption) ?_)) | with_reducible (k_here; (with_reducible show wpAny _ _ (call (Value.builtin "len") [Value.ref _]) _ _ _); k_dflt (refine call_len_list (News.isList (by k_asm) (by k_mem)) (by lia) ?_)) | walk1)) | (leave1; try dsimp only))
  rename Fr _ _ _ _ => F3
  rename News _ _ _ _ => N3
  refine' use (geta_con w mean mg mb ((Tl, PySem.W.listOf tlv nl) :: (tk, PySem.W.listOf tv nt) :: rest) Tb Td H hs nh q k0 t1 qok.1 qok.2 data hdat (fun i v hi => let ⟨a, n, T, t, u, e1, e2, e3⟩ := hrel i v hi; ⟨a, n, T, t, u, e1, .tail _ (.tail _ e2), e3⟩) hxH hdH hsz hoff) ?hB F3 ?hX (fun p hp => N3 p (.tail _ hp)) ?hT ?hp ?hd ?hu ?_
  case hB => k_asm
  case hX => k_asm
  case hT => k_asm
  case hp => trivial
  case hd => ktr_room
  case hu => ktr_units
  intro r2 n2 h2 tk2 F4 N4' hR2
  obtain ⟨Tx, l, rfl, rfl, hl, oTx⟩ := hR2
  clear F3 N3
  have hll : (strValues l).toArray.size = tv.size := by rw [← hlen, ← List.length_map (f := (·.2)), ← hl]; simp [strValues]
  have N4 : News h₀ L h2 ((Tx, PySem.W.listOf (strValues l).toArray (strValues l).length) :: tbl w Tb Td H k0 hs nh ((Tl, PySem.W.listOf tlv nl) :: (tk, PySem.W.listOf tv nt) :: rest)) := N4'
  clear N4'
  have nTx := off1_ne oTx
  generalize htx : (strValues l).toArray = tx at hll N4
  generalize (strValues l).length = nx at N4
  have hll2 : tx.size ≤ 100 := by lia
  dsimp only
  repeat' (first | (k_unfold; (try dsimp only)) | (first | with_reducible (k_here; (with_reducible show wpAny _ _ (subscriptTail _ (Expr.Name _ _) (Value.ref _) (Value.int _ _)) _ _ _); k_dflt (refine item_list ⟨_, News.get (by assumption) (by k_mem), rfl, _, rfl⟩ (by lia) (by lia) (by with_reducible assumption) ?_)) | with_reducible (k_here; (with_reducible show wpAny _ _ (call (Value.builtin "len") [Value.ref _]) _ _ _); k_dflt (refine call_len_list (News.isList (by k_asm) (by k_mem)) (by lia) ?_)) | walk1) | (dsimp only; (first | with_reducible (k_here; (with_reducible show wpAny _ _ (subscriptTail _ (Expr.Name _ _) (Value.ref _) (Value.int _ _)) _ _ _); k_dflt (refine item_list ⟨_, News.get (by assumption) (by k_mem), rfl, _, rfl⟩ (by lia) (by lia) (by with_reducible assumption) ?_)) | with_reducible (k_here; (with_reducible show wpAny _ _ (call (Value.builtin "len") [Value.ref _]) _ _ _); k_dflt (refine call_len_list (News.isList (by k_asm) (by k_mem)) (by lia) ?_)) | walk1)) | (leave1; try dsimp only))
  · exfalso
    lia
  · rename Fr _ _ _ _ => F9
    rename News _ _ _ _ => N9
    rename (@LT.lt Nat _ Tx _ ∧ _) => la
    exact hret _ _ _ _ _ F9 (fun p hp => N9 p (.tail _ hp)) ⟨rfl, Tx, _, l, _, _, fun z => rfl, hl, of_allLt la, nTx, by rw [← htx]⟩
end Mine
end

section
open PySem PySem.W PyProof.Rows PySem.Spec PySem.Calls
set_option maxRecDepth 100000
set_option maxHeartbeats 4000000
namespace Mine
noncomputable def stX (x : Int) : Int := (x.fdiv 48).fmod 3
noncomputable def shX (x : Int) : Int := (x.fdiv 288 + 3).fmod 5
noncomputable def lvX (x : Int) : Int := (x.fdiv 1440).fmod 4 + 1
noncomputable def grX (x : Int) : Int := (x.fdiv 144).fmod 2
noncomputable def siX (x : Int) : Int := x.fmod 48
noncomputable def tuX (x : Int) : Int := ((siX x + 7) * 11).fmod 64
theorem toNat_sum3 {a b : Int} (ha : 0 ≤ a) (hb : 0 ≤ b) : (a + b * 3).toNat = a.toNat + b.toNat * 3 := by
  obtain ⟨m, rfl⟩ := Int.eq_ofNat_of_zero_le ha
  obtain ⟨n, rfl⟩ := Int.eq_ofNat_of_zero_le hb
  rfl
theorem fmod_bd (a : Int) {n : Int} (h : 0 < n) : 0 ≤ a.fmod n ∧ a.fmod n < n := by
  rw [Int.fmod_eq_emod_of_nonneg a (Int.le_of_lt h)]
  exact ⟨Int.emod_nonneg a (Int.ne_of_gt h), Int.emod_lt_of_pos a h⟩
theorem stX_bd (x : Int) : 0 ≤ stX x ∧ stX x < 3 := fmod_bd _ (by decide)
theorem int3 {a : Int} (h : 0 ≤ a ∧ a < 3) : a = 0 ∨ a = 1 ∨ a = 2 := by lia
theorem shX_bd (x : Int) : 0 ≤ shX x ∧ shX x < 5 := fmod_bd _ (by decide)
theorem lvX_bd (x : Int) : 1 ≤ lvX x ∧ lvX x < 5 := by have := fmod_bd (x.fdiv 1440) (n := 4) (by decide); exact ⟨Int.add_le_add_right this.1 1, Int.add_lt_add_right this.2 1⟩
theorem grX_bd (x : Int) : 0 ≤ grX x ∧ grX x < 2 := fmod_bd _ (by decide)
theorem siX_bd (x : Int) : 0 ≤ siX x ∧ siX x < 48 := fmod_bd _ (by decide)
theorem tuX_bd (x : Int) : 0 ≤ tuX x ∧ tuX x < 64 := fmod_bd _ (by decide)
theorem stX_iff (x : Int) (k : Nat) : stX x = (k : Int) ↔ k = (stX x).toNat :=
  ⟨fun e => (congrArg Int.toNat e).symm, fun e => (Int.toNat_of_nonneg (stX_bd x).1).symm.trans (congrArg Nat.cast e.symm)⟩
noncomputable def nmX (x : Int) : Str := names6.getD (stX x + grX x * 3).toNat PySem.Str.empty
noncomputable def txX (x : Int) : Str := txT (signs48.getD (siX x).toNat PySem.Str.empty) (shX x) (lvX x)
noncomputable def tldX (x : Int) : P3 := tldT (shX x) (lvX x) (tuX x)
noncomputable def mkX (x : Int) : Int := mkT (shX x) (tuX x)
noncomputable def flX (k : Nat) (l : List Int) : List Int := l.filter fun x => decide (stX x = k)
theorem name_lower (i : _root_.Fin 3) (g : _root_.Fin 2) (k : _root_.Fin 3) : (Txt.lower (names6.getD (i.1 + g.1 * 3) PySem.Str.empty) == Txt.lower (ask3.getD k.1 PySem.Str.empty)) = decide (i = k) := by
  revert i g k; decide +kernel
theorem nmX_lower (x : Int) {k : Nat} (hk : k < 3) : (Txt.lower (nmX x) == Txt.lower (ask3.getD k PySem.Str.empty)) = decide (stX x = k) := by
  have h1 := stX_bd x
  have h2 := grX_bd x
  have q := name_lower ⟨(stX x).toNat, (Int.toNat_lt h1.1).mpr h1.2⟩ ⟨(grX x).toNat, (Int.toNat_lt h2.1).mpr h2.2⟩ ⟨k, hk⟩
  simp only at q
  unfold nmX
  rw [toNat_sum3 h1.1 h2.1, q]
  refine decide_eq_decide.mpr ⟨fun h => ?_, fun h => ?_⟩
  · have := congrArg (fun f : _root_.Fin 3 => f.1) h
    exact (Int.toNat_of_nonneg h1.1).symm.trans (congrArg Nat.cast this)
  · ext; exact congrArg Int.toNat h
/-- the pairs that the table holds -/
noncomputable def dataX (l : List Int) : List (Str × Str) := l.map fun x => (nmX x, txX x)
theorem dataX_filter (l : List Int) {k : Nat} (hk : k < 3) : ((dataX l).filter fun p => Txt.lower p.1 == Txt.lower (ask3.getD k PySem.Str.empty)) = (flX k l).map fun x => (nmX x, txX x) := by
  unfold dataX flX
  rw [List.filter_map]
  refine congrArg _ (List.filter_congr fun x _ => ?_)
  exact nmX_lower x hk
theorem nmX_len (x : Int) : (nmX x).length ≤ 3 := by
  have h1 := stX_bd x
  have h2 := grX_bd x
  exact (name_ok (idx6 h1 h2).2.2).2
/-- what loop A has laid after the numbers pre -/
structure InvA (pre : List Int) (hs du : Array Value) (tvf mvf : Nat → Array Value) (ext : List (Addr × Obj)) : Prop where
  h : hs.size = pre.length
  d : du.size = pre.length
  hd : ∀ (j : Nat) (x : Int), pre[j]? = some x → (∃ a t u, hs[j]? = some (.ref a) ∧ (a, tupS (nmX x) (txX x) t u) ∈ ext) ∧ ∃ a t u, du[j]? = some (.ref a) ∧ (a, tupS (nmX x) (txX x) t u) ∈ ext
  t : ∀ k, k < 3 → (tvf k).size = (flX k pre).length
  m : ∀ k, k < 3 → IntsAre (mvf k).toList ((flX k pre).map mkX)
  td : ∀ k, k < 3 → ∀ (j : Nat) (x : Int), (flX k pre)[j]? = some x → ∃ a t1 t2 t3, (t1 ≠ 0 ∧ t2 ≠ 0 ∧ t3 ≠ 0) ∧ (tvf k)[j]? = some (.ref a) ∧ (a, tup3 (tldX x).1 (tldX x).2.1 (tldX x).2.2 t1 t2 t3) ∈ ext
theorem get_snoc {α : Type} {l : List α} {x y : α} {j : Nat} (h : (l ++ [x])[j]? = some y) : l[j]? = some y ∨ (j = l.length ∧ y = x) := by
  rcases Nat.lt_trichotomy j l.length with q | q | q
  · rw [List.getElem?_append_left q] at h; exact .inl h
  · subst q; rw [List.getElem?_append_right (Nat.le_refl _), Nat.sub_self] at h; exact .inr ⟨rfl, (Option.some.inj h).symm⟩
  · rw [List.getElem?_eq_none (by simp; lia)] at h; cases h
theorem push_get {a : Array Value} {v w : Value} {j : Nat} (h : a[j]? = some w) : (a.push v)[j]? = some w := by
  have : j < a.size := by
    rcases Nat.lt_or_ge j a.size with q | q
    · exact q
    · rw [Array.getElem?_eq_none q] at h; cases h
  rw [Array.getElem?_push, if_neg (by lia)]; exact h
theorem InvA.step {pre : List Int} {hs du : Array Value} {tvf mvf : Nat → Array Value} {ext : List (Addr × Obj)} (I : InvA pre hs du tvf mvf ext) (x : Int) (D1 D2 D3 : Addr) (a1 a2 a3 a4 a5 a6 a7 a8 : Tok) (nz : a3 ≠ 0 ∧ a4 ≠ 0 ∧ a5 ≠ 0) :
    InvA (pre ++ [x]) (hs.push (.ref D1)) (du.push (.ref D3)) (fun k => if k = (stX x).toNat then (tvf k).push (.ref D2) else tvf k) (fun k => if k = (stX x).toNat then (mvf k).push (.int (mkX x) a8) else mvf k)
      ((D3, tupS (nmX x) (txX x) a1 a2) :: (D2, tup3 (tldX x).1 (tldX x).2.1 (tldX x).2.2 a3 a4 a5) :: (D1, tupS (nmX x) (txX x) a6 a7) :: ext) := by
  have fl : ∀ k : Nat, flX k (pre ++ [x]) = if k = (stX x).toNat then flX k pre ++ [x] else flX k pre := fun k => by
    have h1 := stX_bd x
    unfold flX
    rw [List.filter_append]
    by_cases h : k = (stX x).toNat
    · rw [if_pos h, List.filter_cons_of_pos (by exact decide_eq_true ((stX_iff x k).mpr h))]; rfl
    · rw [if_neg h, List.filter_cons_of_neg (by simp only [decide_eq_true_eq]; exact fun e => h ((stX_iff x k).mp e))]; simp
  refine ⟨by rw [Array.size_push, I.h]; simp, by rw [Array.size_push, I.d]; simp, fun j y hj => ?_, fun k hk => ?_, fun k hk => ?_, fun k hk j y hj => ?_⟩
  · rcases get_snoc hj with h | ⟨h, rfl⟩
    · obtain ⟨⟨b1, u1, v1, q1, q2⟩, b2, u2, v2, q3, q4⟩ := I.hd j y h
      exact ⟨⟨b1, u1, v1, push_get q1, .tail _ (.tail _ (.tail _ q2))⟩, b2, u2, v2, push_get q3, .tail _ (.tail _ (.tail _ q4))⟩
    · subst h
      exact ⟨⟨D1, a6, a7, by rw [← I.h, Array.getElem?_push_size], .tail _ (.tail _ (.head _))⟩, D3, a1, a2, by rw [← I.d, Array.getElem?_push_size], .head _⟩
  · rw [fl]
    by_cases h : k = (stX x).toNat
    · simp only [if_pos h]; rw [Array.size_push, I.t k hk]; simp
    · simp only [if_neg h]; exact I.t k hk
  · rw [fl]
    by_cases h : k = (stX x).toNat
    · simp only [if_pos h]
      rw [Array.toList_push, List.map_append]
      exact IntsAre.append (I.m k hk) (.cons _ _ .nil)
    · simp only [if_neg h]; exact I.m k hk
  · rw [fl] at hj
    by_cases h : k = (stX x).toNat
    · simp only [if_pos h] at hj ⊢
      rcases get_snoc hj with q | ⟨q, rfl⟩
      · obtain ⟨b, u1, u2, u3, r1, r2, r3⟩ := I.td k hk j y q
        exact ⟨b, u1, u2, u3, r1, push_get r2, .tail _ (.tail _ (.tail _ r3))⟩
      · subst q
        exact ⟨D2, a3, a4, a5, nz, by rw [← I.t k hk, Array.getElem?_push_size], .tail _ (.head _)⟩
    · simp only [if_neg h] at hj ⊢
      obtain ⟨b, u1, u2, u3, r1, r2, r3⟩ := I.td k hk j y hj
      exact ⟨b, u1, u2, u3, r1, r2, .tail _ (.tail _ (.tail _ r3))⟩
theorem InvA.nil : InvA [] #[] #[] (fun _ => #[]) (fun _ => #[]) [] := ⟨rfl, rfl, fun j x h => by simp at h, fun k _ => rfl, fun k _ => .nil, fun k _ j x h => by simp [flX] at h⟩
end Mine
end

section
open PySem PySem.W PyProof.Rows PySem.Spec PySem.Calls
set_option maxRecDepth 100000
set_option maxHeartbeats 2000000
namespace Mine
theorem rgb_con' (w : World) (mean : ExcName → Option Value) (mg mb : Str → Option Value) (news : List (Addr × Obj)) (r g b : UInt64) (t1 t2 t3 : Tok) (p : P3) (ok : rgbOk r g b = true) (e : rgbF r g b = p) :
    Con 2 w mean mg mb 69 news [.float r t1, .float g t2, .float b t3] [] (fun _ => True) (Ret3 (t1 ≠ 0 ∧ t2 ≠ 0 ∧ t3 ≠ 0) news p) := by
  subst e; exact rgb_con w mean mg mb news r g b t1 t2 t3 ok
theorem round_fin {prog : Program} {w : World} {A : Around} {E : Value → Shared → Prop} {s : Shared} {x : UInt64} {t : Tok} {Q : Value → Shared → Prop} (hA : A.handled = none) (hf : Float64.isFinite x = true) (h : Q (.int (Flt.toInt Float64.nearestOf x) s.toks) { s with toks := s.toks + 1 }) :
    wpAny (model prog w) A (call (.builtin "round") [.float x t]) Q E s :=
  Flt.call_round_float hA (fun q => (fin_not_nan hf q).elim) (fun q => (fin_not_inf hf q).elim) (fun _ => h)
/-- the record of _law_places, read off the view -/
noncomputable def plcQ : { p : DefRec × List (Str × Expr) // defOf thr.view_1_2 (Str.ofString "_law_places") = some p } := ⟨(_, _), by rfl⟩
noncomputable def plcD : DefRec := plcQ.val.1
/-- a stretch of the statements of _law_places, walked in its frame -/
noncomputable abbrev SegP (n : Nat) (w : World) (mean : ExcName → Option Value) (mg mb : Str → Option Value) (body : List Stmt) (m : Str → Option Value) (news : List (Addr × Obj))
    (Ret : Flow → (Str → Option Value) → List (Addr × Obj) → Prop) : Prop :=
  ∀ (dp un : Nat) (gd : Option (List Code)) (a : Addr) (ccd : Value) (outer : List Env) (A₀ : Around) (base h₀ : Heap) (L : Addr) (s : Shared) (Q : Flow → Shared → Prop) (E : Value → Shared → Prop),
    Below A₀ base outer h₀ → Fr h₀ L s.heap m → (thr.heap_1_1 w.params).In h₀ → News h₀ L s.heap news →
    Top thr.view_1_2 (looseW thr.view_1_2 [Str.ofString "EXACT_TOKEN_TYPES", Str.ofString "tspecials", Str.ofString "_name_disallowed_re", Str.ofString "_value_disallowed_re", Str.ofString "_formatparam"]) mean mg mb h₀ →
    dp + n < recursionLimit → un + 10 * n < cLine →
    (∀ f m' news' h' tk', Fr h₀ L h' m' → News h₀ L h' news' → Ret f m' news' → Q f { s with heap := h', toks := tk' }) →
    wpAny (model PySem.Challenge.rw_sr0079_01.row.prog w) (ktrTop dp un gd (Str.ofString "_law_places") plcD.scope L a ccd [] outer) (execs body (envX (Str.ofString "_law_places") plcD.scope L a ccd [])) Q E s
theorem frame2 {m : Str → Option Value} {a b : Str} {x y : Option Value} (e1 : m a = x) (e2 : m b = y) : m = fun z => if z = a then x else if z = b then y else m z := by
  funext z
  by_cases h1 : z = a
  · rw [if_pos h1, h1, e1]
  · rw [if_neg h1]
    by_cases h2 : z = b
    · rw [if_pos h2, h2, e2]
    · rw [if_neg h2]
theorem placesA (w : World) (mean : ExcName → Option Value) (mg mb : Str → Option Value) (R : List (Addr × Obj)) (Pl ap : Addr) (bp : Bool) (p : P3) (t1 t2 t3 : Tok) (pls : List Value) (np : Nat) (m : Str → Option Value)
    (hm : (ap, seqO bp p t1 t2 t3) ∈ R) (hne : ∀ q ∈ R, q.1 ≠ Pl) (hz : pls.toArray.size ≤ 100) (e1 : m (Str.ofString "paint") = some (.ref ap)) (e2 : m (Str.ofString "places") = some (.ref Pl))
    (okR : rgbOk p.1 p.2.1 p.2.2 = true) (okF : Float64.isFinite (Float64.mul (rgbF p.1 p.2.1 p.2.2).1 (Float64.ofInt 1536)) = true) :
    SegP 8 w mean mg mb [stAt (forBody (stAt plcD.body 1)) 3] m ((Pl, PySem.W.listOf pls.toArray np) :: R)
      (fun f m' nw => f = .next ∧ m' = m ∧ ∃ t, nw = (Pl, PySem.W.listOf (pls ++ [Value.int (pRnd p) t]).toArray (np + 1)) :: R) := by
  w_top off
  unfold SegP; k_fill
  intro dp un gd a' ccd outer A₀ base h₀ L s Q E B F X N T hd hu hret
  have hap : @Ne Nat ap Pl := hne _ hm
  have N1 : News h₀ L s.heap ((Pl, PySem.W.listOf pls.toArray np) :: (ap, seqO bp p t1 t2 t3) :: R) := newsSub N (subC (.head _) (subC (.tail _ hm) (subT subI)))
  rw [frame2 e1 e2] at F
  unfold pRnd at hret
  clear N
  unfold stAt plcD plcQ
  dsimp only [List.getD, List.getElem?_cons_succ, List.getElem?_cons_zero, Option.getD, forBody]
  generalize hz2 : rgbF p.1 p.2.1 p.2.2 = z at okF hret
  cases bp with
  | true =>
    unfold seqO at N1
    repeat' (first | (k_unfold; (try dsimp only)) | (first | with_reducible ((with_reducible show wpAny _ _ (call (Value.builtin "round") _ _) _ _ _); (k_here; k_dflt (refine' round_fin ?rh ?rfin ?_; (case rh => rfl); (case rfin => assumption)); (try dsimp only))) | with_reducible (k_here; (with_reducible show wpAny _ _ (call (Value.ref 69) _ _) _ _ _); k_dflt (refine' use (rgb_con' _ _ _ _ _ _ _ _ _ _ _ _ ?ok ?eq) ?hB ?hF ?hX ?hN ?hT ?hp ?hd ?hu ?_; (case hB => k_asm); (case hF => k_asm); (case hX => k_asm); (case hN => k_asm); (case hT => k_asm); (case hp => trivial); (case hd => ktr_room); (case hu => ktr_units); (case eq => assumption); (case ok => assumption); k_whole); intro r2z9 n2z9 h2z9 tk2z9 F2z9 N2z9 hR2z9; obtain ⟨D2z9, t21z9, t22z9, t23z9, e21z9, e22z9, l2z9, _⟩ := hR2z9; subst e21z9; subst e22z9; (try k_lt l2z9); (try dsimp only); (try k_sweep)) | with_reducible ((with_reducible show wpAny _ _ (execs (_ :: _) _) _ _ _); first | (k_here; k_gentoks) | ((try k_fold); (with_reducible refine wpAny_execs_cons ?_); (try dsimp only); (try k_fold))) | walk1) | (dsimp only; (first | with_reducible ((with_reducible show wpAny _ _ (call (Value.builtin "round") _ _) _ _ _); (k_here; k_dflt (refine' round_fin ?rh ?rfin ?_; (case rh => rfl); (case rfin => assumption)); (try dsimp only))) | with_reducible (k_here; (with_reducible show wpAny _ _ (call (Value.ref 69) _ _) _ _ _); k_dflt (refine' use (rgb_con' _ _ _ _ _ _ _ _ _ _ _ _ ?ok ?eq) ?hB ?hF ?hX ?hN ?hT ?hp ?hd ?hu ?_; (case hB => k_asm); (case hF => k_asm); (case hX => k_asm); (case hN => k_asm); (case hT => k_asm); (case hp => trivial); (case hd => ktr_room); (case hu => ktr_units); (case eq => assumption); (case ok => assumption); k_whole); intro r2z9 n2z9 h2z9 tk2z9 F2z9 N2z9 hR2z9; obtain ⟨D2z9, t21z9, t22z9, t23z9, e21z9, e22z9, l2z9, _⟩ := hR2z9; subst e21z9; subst e22z9; (try k_lt l2z9); (try dsimp only); (try k_sweep)) | with_reducible ((with_reducible show wpAny _ _ (execs (_ :: _) _) _ _ _); first | (k_here; k_gentoks) | ((try k_fold); (with_reducible refine wpAny_execs_cons ?_); (try dsimp only); (try k_fold))) | walk1)) | (leave1; try dsimp only))
    rename Fr _ _ _ _ => F9
    rename News _ _ _ _ => N9
    simp only [List.push_toArray] at N9
    rw [← frame2 e1 e2] at F9
    exact hret _ _ _ _ _ F9 (newsSub N9 (by repeat (first | exact subI | (refine subC (by k_mem) ?_) | refine subT ?_))) ⟨rfl, rfl, _, rfl⟩
  | false =>
    unfold seqO at N1
    repeat' (first | (k_unfold; (try dsimp only)) | (first | with_reducible ((with_reducible show wpAny _ _ (call (Value.builtin "round") _ _) _ _ _); (k_here; k_dflt (refine' round_fin ?rh ?rfin ?_; (case rh => rfl); (case rfin => assumption)); (try dsimp only))) | with_reducible (k_here; (with_reducible show wpAny _ _ (call (Value.ref 69) _ _) _ _ _); k_dflt (refine' use (rgb_con' _ _ _ _ _ _ _ _ _ _ _ _ ?ok ?eq) ?hB ?hF ?hX ?hN ?hT ?hp ?hd ?hu ?_; (case hB => k_asm); (case hF => k_asm); (case hX => k_asm); (case hN => k_asm); (case hT => k_asm); (case hp => trivial); (case hd => ktr_room); (case hu => ktr_units); (case eq => assumption); (case ok => assumption); k_whole); intro r2z9 n2z9 h2z9 tk2z9 F2z9 N2z9 hR2z9; obtain ⟨D2z9, t21z9, t22z9, t23z9, e21z9, e22z9, l2z9, _⟩ := hR2z9; subst e21z9; subst e22z9; (try k_lt l2z9); (try dsimp only); (try k_sweep)) | with_reducible ((with_reducible show wpAny _ _ (execs (_ :: _) _) _ _ _); first | (k_here; k_gentoks) | ((try k_fold); (with_reducible refine wpAny_execs_cons ?_); (try dsimp only); (try k_fold))) | walk1) | (dsimp only; (first | with_reducible ((with_reducible show wpAny _ _ (call (Value.builtin "round") _ _) _ _ _); (k_here; k_dflt (refine' round_fin ?rh ?rfin ?_; (case rh => rfl); (case rfin => assumption)); (try dsimp only))) | with_reducible (k_here; (with_reducible show wpAny _ _ (call (Value.ref 69) _ _) _ _ _); k_dflt (refine' use (rgb_con' _ _ _ _ _ _ _ _ _ _ _ _ ?ok ?eq) ?hB ?hF ?hX ?hN ?hT ?hp ?hd ?hu ?_; (case hB => k_asm); (case hF => k_asm); (case hX => k_asm); (case hN => k_asm); (case hT => k_asm); (case hp => trivial); (case hd => ktr_room); (case hu => ktr_units); (case eq => assumption); (case ok => assumption); k_whole); intro r2z9 n2z9 h2z9 tk2z9 F2z9 N2z9 hR2z9; obtain ⟨D2z9, t21z9, t22z9, t23z9, e21z9, e22z9, l2z9, _⟩ := hR2z9; subst e21z9; subst e22z9; (try k_lt l2z9); (try dsimp only); (try k_sweep)) | with_reducible ((with_reducible show wpAny _ _ (execs (_ :: _) _) _ _ _); first | (k_here; k_gentoks) | ((try k_fold); (with_reducible refine wpAny_execs_cons ?_); (try dsimp only); (try k_fold))) | walk1)) | (leave1; try dsimp only))
    rename Fr _ _ _ _ => F9
    rename News _ _ _ _ => N9
    simp only [List.push_toArray] at N9
    rw [← frame2 e1 e2] at F9
    exact hret _ _ _ _ _ F9 (newsSub N9 (by repeat (first | exact subI | (refine subC (by k_mem) ?_) | refine subT ?_))) ⟨rfl, rfl, _, rfl⟩
end Mine
end

section
open PySem PySem.W PyProof.Rows PySem.Spec PySem.Calls
local macro_rules | `(tactic| lcg_sub) => `(tactic| first | (with_reducible exact Mine.subI) | exact Mine.subN | (refine Mine.subC (by k_mem) ?_; lcg_sub) | (refine Mine.subT ?_; lcg_sub) | (refine Mine.subR ?_; lcg_sub) | (refine Mine.subL ?_; lcg_sub) | (refine Mine.subA ?_ ?_ <;> lcg_sub))
section
open PySem PySem.W PyProof.Rows PySem.Spec PySem.Calls
set_option maxRecDepth 100000
set_option maxHeartbeats 2000000
namespace Mine
theorem hsv_con' (w : World) (mean : ExcName → Option Value) (mg mb : Str → Option Value) (news : List (Addr × Obj)) (h s v : UInt64) (t1 t2 t3 : Tok) (p : P3) (ok : hsvOk h s = true) (e : hsvF h s v = p) :
    Con 2 w mean mg mb 76 news [.float h t1, .float s t2, .float v t3] [] (fun _ => True) (Ret3 (t3 ≠ 0) news p) := by
  subst e; exact hsv_con w mean mg mb news h s v t1 t2 t3 ok
theorem memE {α : Type} {x i a b c : α} {ext rest : List α} (h : x ∈ ext) : x ∈ i :: a :: b :: c :: (ext ++ rest) := by simp [h]
theorem memE2 {α : Type} {x i a b c : α} {ext rest : List α} (h : x ∈ ext) : x ∈ i :: a :: b :: c :: (ext ++ rest) := by simp [h]
theorem permT {α : Type} {x a b c d e f : α} {ext rest : List α} (h : x ∈ c :: d :: e :: f :: ((b :: ext) ++ rest)) : x ∈ a :: b :: c :: d :: e :: f :: (ext ++ rest) := by
  simp only [List.mem_cons, List.mem_append] at h ⊢
  rcases h with h | h | h | h | (h | h) | h <;> simp [h]
theorem Holds.mono {nw : List (Addr × Obj)} {x : Addr × Obj} {v : Value} {o : Option P3} (h : Holds nw v o) : Holds (x :: nw) v o := by
  cases o with
  | none => exact h
  | some p => obtain ⟨a, b, t, u, x', e, m⟩ := h; exact ⟨a, b, t, u, x', e, .tail _ m⟩
theorem notI {Pl l S1 D I : Addr} {o1 o2 o3 o4 : Obj} {ext rest : List (Addr × Obj)} (n1 : Pl ≠ I) (n2 : l ≠ I) (n3 : S1 ≠ I) (n5 : D ≠ I) (n4 : ∀ x ∈ ext ++ rest, x.1 ≠ I) : ∀ p ∈ (Pl, o1) :: (l, o2) :: (S1, o3) :: (((D, o4) :: ext) ++ rest), p.1 ≠ I := by
  intro p hp
  simp only [List.mem_cons, List.cons_append] at hp
  rcases hp with rfl | rfl | rfl | rfl | hp
  · exact n1
  · exact n2
  · exact n3
  · exact n5
  · exact n4 p hp
theorem notP {Pl D : Addr} {o4 : Obj} {ext : List (Addr × Obj)} (n : D ≠ Pl) (h : ∀ p ∈ ext, p.1 ≠ Pl) : ∀ p ∈ (D, o4) :: ext, p.1 ≠ Pl := by
  intro p hp
  rcases List.mem_cons.mp hp with rfl | hp
  · exact n
  · exact h p hp
theorem permU {α : Type} {x a c d e f g : α} {r : List α} (h : x ∈ c :: d :: e :: f :: r) : x ∈ a :: c :: d :: e :: f :: g :: r := by
  simp only [List.mem_cons] at h ⊢
  rcases h with h | h | h | h | h <;> simp [h]
theorem notI2 {Pl l S1 I : Addr} {o1 o2 o3 : Obj} {r : List (Addr × Obj)} (n1 : Pl ≠ I) (n2 : l ≠ I) (n3 : S1 ≠ I) (n4 : ∀ x ∈ r, x.1 ≠ I) : ∀ p ∈ (Pl, o1) :: (l, o2) :: (S1, o3) :: r, p.1 ≠ I := by
  intro p hp
  simp only [List.mem_cons] at hp
  rcases hp with rfl | rfl | rfl | hp
  · exact n1
  · exact n2
  · exact n3
  · exact n4 p hp
theorem newsAdd {h₀ h : Heap} {L : Addr} {x i a b c : Addr × Obj} {r : List (Addr × Obj)} (N : News h₀ L h (i :: a :: b :: c :: r)) (hm : x ∈ i :: a :: b :: c :: r) : News h₀ L h (i :: a :: b :: c :: x :: r) := fun p hp => by
  simp only [List.mem_cons] at hp
  rcases hp with hp | hp | hp | hp | hp | hp
  · exact N p (by simp [hp])
  · exact N p (by simp [hp])
  · exact N p (by simp [hp])
  · exact N p (by simp [hp])
  · exact hp ▸ N x hm
  · exact N p (by simp [hp])
section
variable {h₀ h : Heap} {L : Addr} {d i a b c : Addr × Obj} {e r : List (Addr × Obj)}
theorem newsP1 (N : News h₀ L h (d :: i :: a :: b :: c :: r)) : News h₀ L h (a :: d :: i :: b :: c :: r) := newsSub N (subC (by k_mem) (subC (by k_mem) (subC (by k_mem) (subT (subT (subT subI))))))
theorem newsP2 (N : News h₀ L h (i :: a :: r)) : News h₀ L h (a :: i :: r) := newsSub N (subC (by k_mem) (subC (by k_mem) (subT (subT subI))))
theorem newsQ1 (N : News h₀ L h (a :: d :: i :: b :: c :: (e ++ r))) : News h₀ L h (i :: a :: b :: c :: ((d :: e) ++ r)) := newsSub N (subC (by k_mem) (subC (by k_mem) (subC (by k_mem) (subC (by k_mem) (subC (by k_mem) (subT (subT (subT (subT (subT subI))))))))))
theorem newsQ2 (N : News h₀ L h (a :: i :: r)) : News h₀ L h (i :: a :: r) := newsP2 N
end
theorem memSrc {α : Type} {a b c : α} {r : List α} : ∀ p ∈ [c], p ∈ a :: b :: c :: r := subC (.tail _ (.tail _ (.head _))) subN
theorem neP3 {Pl I l S1 : Addr} {o2 o3 o4 : Obj} {r : List (Addr × Obj)} (n1 : Pl ≠ I) (n2 : l ≠ Pl) (n3 : S1 ≠ Pl) (h : ∀ q ∈ r, q.1 ≠ Pl) : ∀ q ∈ (I, o2) :: (l, o3) :: (S1, o4) :: r, q.1 ≠ Pl :=
  List.forall_mem_cons.mpr ⟨n1.symm, List.forall_mem_cons.mpr ⟨n2, List.forall_mem_cons.mpr ⟨n3, h⟩⟩⟩
theorem neP4 {Pl D : Addr} {o1 : Obj} {r : List (Addr × Obj)} (n0 : D ≠ Pl) (h : ∀ q ∈ r, q.1 ≠ Pl) : ∀ q ∈ (D, o1) :: r, q.1 ≠ Pl := List.forall_mem_cons.mpr ⟨n0, h⟩
/-- what a turn of the loop of _law_places leaves -/
inductive PlJ (Pl l S1 : Addr) (vs ws : List Value) (nn : Nat) (ms : List Int) (rest : List (Addr × Obj)) (i : Nat) (m' : Str → Option Value) (nw : List (Addr × Obj)) : Prop
  | mk (st : PSt) (lv hv pv : Value) (tw : Tok) (pls : List Value) (np : Nat) (ext : List (Addr × Obj))
    (e0 : st = pSt ((0 :: ms).take i))
    (e1 : m' (PySem.Str.ofString "low") = some lv)
    (e2 : m' (PySem.Str.ofString "high") = some hv)
    (e3 : m' (PySem.Str.ofString "whole") = some (.int st.wh tw))
    (e4 : m' (PySem.Str.ofString "paint") = some pv)
    (e5 : (∀ z, z ≠ PySem.Str.ofString "mark" → z ≠ PySem.Str.ofString "low" → z ≠ PySem.Str.ofString "high" → z ≠ PySem.Str.ofString "whole" → z ≠ PySem.Str.ofString "paint" → m' z = (if z = PySem.Str.ofString "places" then some (.ref Pl) else if z = PySem.Str.ofString "marks" then some (.ref l) else none)))
    (e6 : Holds ext lv st.lo)
    (e7 : Holds ext hv st.hi)
    (e8 : Holds ext pv st.pa)
    (e9 : IntsAre pls st.out)
    (e10 : st.out.length = i)
    (e11 : nw = (Pl, PySem.W.listOf pls.toArray np) :: (l, PySem.W.listOf vs.toArray nn) :: (S1, PySem.W.listOf ws.toArray 0) :: (ext ++ rest))
    (e12 : (∀ p ∈ ext, p.1 ≠ Pl)) : PlJ Pl l S1 vs ws nn ms rest i m' nw
theorem places_con (w : World) (mean : ExcName → Option Value) (mg mb : Str → Option Value) (rest : List (Addr × Obj)) (l : Addr) (vs : List Value) (nn : Nat) (ms : List Int) (hms : IntsAre vs ms) (hlen : ms.length ≤ 7) (hmk : ∀ k ∈ ms, k = -1 ∨ k = 0 ∨ k = 1) (hok : ∀ i, i < ms.length + 1 → pOkStep (pSt ((0 :: ms).take (i + 1))) = true) :
    Con 12 w mean mg mb 236 ((l, PySem.W.listOf vs.toArray nn) :: rest) [.ref l] [] (fun s => True) (fun r nw => ∃ Pl pls np, r = .ref Pl ∧ IntsAre pls (pSt (0 :: ms)).out ∧ (l < Pl ∧ AllLt Pl rest) ∧ nw = (Pl, PySem.W.listOf pls.toArray np) :: (l, PySem.W.listOf vs.toArray nn) :: rest) := by
  w_top off
  unfold Con; k_fill
  intro dp un gd cn cns cig cic cmo a' ccd cl outer A₀ base h₀ L m s Q E B F X N T hpre hd hu hret
  refine wpAny_call ?_
  k_dflt k_enter
  repeat' (first | (k_unfold; (try dsimp only)) | (k_end; kc_close) | (first | with_reducible (k_here; (with_reducible show wpAny _ _ (call (Value.ref 76) _ _) _ _ _); k_dflt (refine' use (hsv_con' _ _ _ _ _ _ _ _ _ _ _ _ ?ok ?eq) ?hB ?hF ?hX ?hN ?hT ?hp ?hd ?hu ?_; (case hB => k_asm); (case hF => k_asm); (case hX => k_asm); (case hN => k_asm); (case hT => k_asm); (case hp => trivial); (case hd => ktr_room); (case hu => ktr_units); (case eq => assumption); (case ok => assumption); k_whole); intro r2z9 n2z9 h2z9 tk2z9 F2z9 N2z9 hR2z9; obtain ⟨D2z9, t21z9, t22z9, t23z9, e21z9, e22z9, l2z9, _⟩ := hR2z9; subst e21z9; subst e22z9; (try k_lt l2z9); (try dsimp only); (try k_sweep)) | with_reducible ((with_reducible show wpAny _ _ (exec (Stmt.For (Expr.Name _ _) _ _ _ _) _) _ _ _); (k_here; k_dflt (refine wpAny_For ?_ (by intro _; with_unfolding_all rfl)))) | with_reducible ((with_reducible show wpAny _ _ (execs (_ :: _) _) _ _ _); first | (k_here; k_gentoks) | ((try k_fold); (with_reducible refine wpAny_execs_cons ?_); (try dsimp only); (try k_fold))) | walk1) | (dsimp only; (first | with_reducible (k_here; (with_reducible show wpAny _ _ (call (Value.ref 76) _ _) _ _ _); k_dflt (refine' use (hsv_con' _ _ _ _ _ _ _ _ _ _ _ _ ?ok ?eq) ?hB ?hF ?hX ?hN ?hT ?hp ?hd ?hu ?_; (case hB => k_asm); (case hF => k_asm); (case hX => k_asm); (case hN => k_asm); (case hT => k_asm); (case hp => trivial); (case hd => ktr_room); (case hu => ktr_units); (case eq => assumption); (case ok => assumption); k_whole); intro r2z9 n2z9 h2z9 tk2z9 F2z9 N2z9 hR2z9; obtain ⟨D2z9, t21z9, t22z9, t23z9, e21z9, e22z9, l2z9, _⟩ := hR2z9; subst e21z9; subst e22z9; (try k_lt l2z9); (try dsimp only); (try k_sweep)) | with_reducible ((with_reducible show wpAny _ _ (exec (Stmt.For (Expr.Name _ _) _ _ _ _) _) _ _ _); (k_here; k_dflt (refine wpAny_For ?_ (by intro _; with_unfolding_all rfl)))) | with_reducible ((with_reducible show wpAny _ _ (execs (_ :: _) _) _ _ _); first | (k_here; k_gentoks) | ((try k_fold); (with_reducible refine wpAny_execs_cons ?_); (try dsimp only); (try k_fold))) | walk1)) | (leave1; (try dsimp only)) | fail "no step")
  rename_i Pl hP lP T5 hT5 lT5 g3 g4 g5 g6 tk1 hpl O1 hO lO S1 ws hS F0 N0 hI lS
  have N0' : News _ _ _ ((Pl, PySem.W.listOf #[] 0) :: (l, PySem.W.listOf vs.toArray nn) :: (S1, PySem.W.listOf ws.toArray 0) :: ([] ++ rest)) := fun p hp => by
    simp only [List.mem_cons, List.nil_append] at hp
    rcases hp with hp | hp | hp | hp <;> exact N0 p (by simp [hp])
  have hI' : IntsAre ws (0 :: ms) := hI
  have hSP : @Ne Nat S1 Pl := Nat.ne_of_gt (by lia)
  have hsz : ws.toArray.size = ms.length + 1 := by simp [hI'.length]
  refine loop_list (by rfl) F0 N0' (by k_mem) (fun i m' nw => PlJ Pl l S1 vs ws nn ms rest i m' nw) ?h0 ?turn ?done
  (case h0 =>
    refine ⟨_, .none, .none, .none, _, [], 0, [], rfl, by rfl, by rfl, by rfl, by rfl, fun z h1 h2 h3 h4 h5 => ?_, rfl, rfl, rfl, .nil, rfl, rfl, by simp⟩
    by_cases q : z = PySem.Str.ofString "places"
    · rw [if_pos q, if_pos q]
    rw [if_neg q, if_neg q, if_neg h5, if_neg h4, if_neg h3, if_neg h2]
    show (match z == PySem.Str.ofString "marks" with | true => some (Value.ref l) | false => none) = _
    by_cases q2 : z = PySem.Str.ofString "marks"
    · subst q2; rfl
    · rw [if_neg q2, beq_eq_false_iff_ne.mpr q2])
  (case turn =>
    intro i v m₁ nw h tk I oI hv J0 _ hIl hn F1 N1
    k_fold
    obtain ⟨st, lv, hv', pv, tw, pls, np, ext, hst, e1, e2, e3, e4, em, H1, H2, H3, hpls, hol, rfl, hext⟩ := J0
    clear F0 N0 N0'
    obtain ⟨k, t, rfl, hkat⟩ := hI'.at i v (by simpa using hv)
    have hil : i < ms.length + 1 := by
      rcases Nat.lt_or_ge i (ms.length + 1) with q | q
      · exact q
      · rw [Array.getElem?_eq_none (by lia)] at hv; cases hv
    have htake : (0 :: ms).take (i + 1) = (0 :: ms).take i ++ [k] := by rw [List.take_add_one, hkat]; rfl
    have hJ' : pSt ((0 :: ms).take (i + 1)) = pStep st k := by rw [htake, pSt_snoc, hst]
    have hok' : pOkStep (pStep st k) = true := by rw [← hJ']; exact hok i hil
    have hall : ∀ x ∈ (0 :: ms), x = -1 ∨ x = 0 ∨ x = 1 := fun x hx => by
      rcases List.mem_cons.mp hx with rfl | hx
      · exact .inr (.inl rfl)
      · exact hmk x hx
    have hk3 : k = -1 ∨ k = 0 ∨ k = 1 := hall k (List.mem_of_getElem? hkat)
    have hwh : -8 ≤ st.wh ∧ st.wh ≤ 8 := by
      have q := pSt_wh ((0 :: ms).take i) fun x hx => hall x (List.mem_of_mem_take hx)
      rw [← hst, List.length_take, List.length_cons] at q
      exact wh8 hlen q
    have hstart : st.pa.isSome = true ∨ (k = 0 ∧ st.lo = none ∧ st.hi = none) := by
      cases i with
      | zero => exact .inr ⟨by simpa using hkat.symm, by rw [hst]; rfl, by rw [hst]; rfl⟩
      | succ j => exact .inl (by rw [hst, List.take_succ_cons]; exact pSt_pa _ _ rfl)
    refine wpAny_assign_Name (wpAny_storeName_local (by rfl) F1.ns (fun h₂ hn₂ hs₂ => ?_) (by rfl))
    k_unfold
    dsimp only
    k_fold
    have F2 := F1.set hn₂ hs₂
    have N2 := N1.set hs₂
    rw [map5 (x := PySem.Str.ofString "mark") (a := PySem.Str.ofString "low") (b := PySem.Str.ofString "high") (c := PySem.Str.ofString "whole") (d := PySem.Str.ofString "paint") (m := fun z => if z = PySem.Str.ofString "places" then some (.ref Pl) else if z = PySem.Str.ofString "marks" then some (.ref l) else none) (by simp; rfl) ((if_neg (by decide)).trans e1) ((if_neg (by decide)).trans e2) ((if_neg (by decide)).trans e3) ((if_neg (by decide)).trans e4) (fun z h1 h2 h3 h4 h5 => (if_neg h1).trans (em z h1 h2 h3 h4 h5))] at F2
    simp only [List.forall_mem_cons] at hn hIl
    have hIP : @LT.lt Nat _ Pl I := hIl.1
    have hPl1 : @Ne Nat l Pl := Nat.ne_of_lt lP.1
    have hIl' : @LT.lt Nat _ l I := hIl.2.1
    have hIS : @LT.lt Nat _ S1 I := hIl.2.2.1
    obtain ⟨n1, n2, n3, n4⟩ := hn
    have hextR : ∀ p ∈ ext ++ rest, p.1 ≠ Pl := fun p hp => (List.mem_append.mp hp).elim (hext p) fun q => Nat.ne_of_lt (of_allLt lP.2 p q)
    have hpz : pls.toArray.size ≤ 100 := by have q := hpls.length; rw [List.size_toArray]; lia
    have hf1 : (st.wh + 1 + 24).natAbs < 2 ^ 1023 := nab24 hwh (.inr (.inr rfl))
    have hf2 : (st.wh + -1 + 24).natAbs < 2 ^ 1023 := nab24 hwh (.inl rfl)
    have hf3 : (st.wh + 0 + 24).natAbs < 2 ^ 1023 := nab24 hwh (.inr (.inl rfl))
    clear F1 N1 hn₂ hs₂ e1 e2 e3 e4 em hst htake hkat hil hv hall hok
    obtain ⟨lo, hi, wh, pa, out⟩ := st
    simp only at H1 H2 H3 hpls hol hwh hstart F2 hf1 hf2 hf3
    rcases hk3 with rfl | rfl | rfl
    · cases pa with
      | none => rcases hstart with q | ⟨q, _⟩ <;> cases q
      | some p =>
      obtain ⟨ap, bp, t1, t2, t3, rfl, hp⟩ := H3
      cases lo with
      | none =>
        cases (show lv = .none from H1)
        rw [show pStep ⟨none, hi, wh, some p, out⟩ (-1) = ⟨none, some p, wh + -1, some (hsvF (pNum (wh + -1 + 24)) 4607182418800017408 4607182418800017408), out ++ [pRnd (hsvF (pNum (wh + -1 + 24)) 4607182418800017408 4607182418800017408)]⟩ from rfl] at hok' hJ'
        have okH := pOk_hsv hok' (.inl rfl)
        obtain ⟨okR, okF⟩ := pOk_pa hok'
        clear hok'
        generalize hq : hsvF (pNum (wh + -1 + 24)) 4607182418800017408 4607182418800017408 = q at okR okF hJ'
        repeat' ((fail_if_success (with_reducible show wpAny _ _ (execs [Stmt.Expr _ _] _) _ _ _)); (fail_if_success (with_reducible show wpAny _ _ (exec (Stmt.Assign _ (Expr.ListComp _ _ _ _) _) _) _ _ _)); first | (k_unfold; (try dsimp only)) | (first | with_reducible (k_here; (with_reducible show wpAny _ _ (call (Value.ref 76) _ _) _ _ _); k_dflt (refine' use (hsv_con' _ _ _ _ _ _ _ _ _ _ _ _ ?ok ?eq) ?hB ?hF ?hX ?hN ?hT ?hp ?hd ?hu ?_; (case hB => k_asm); (case hF => k_asm); (case hX => k_asm); (case hN => k_asm); (case hT => k_asm); (case hp => trivial); (case hd => ktr_room); (case hu => ktr_units); (case eq => assumption); (case ok => assumption); k_whole); intro r2z9 n2z9 h2z9 tk2z9 F2z9 N2z9 hR2z9; obtain ⟨D2z9, t21z9, t22z9, t23z9, e21z9, e22z9, l2z9, _⟩ := hR2z9; subst e21z9; subst e22z9; (try k_lt l2z9); (try dsimp only); (try k_sweep)) | with_reducible ((with_reducible show wpAny _ _ (exec (Stmt.For (Expr.Name _ _) _ _ _ _) _) _ _ _); (k_here; k_dflt (refine wpAny_For ?_ (by intro _; with_unfolding_all rfl)))) | with_reducible ((with_reducible show wpAny _ _ (execs (_ :: _) _) _ _ _); first | (k_here; k_gentoks) | ((try k_fold); (with_reducible refine wpAny_execs_cons ?_); (try dsimp only); (try k_fold))) | walk1) | (dsimp only; (first | with_reducible (k_here; (with_reducible show wpAny _ _ (call (Value.ref 76) _ _) _ _ _); k_dflt (refine' use (hsv_con' _ _ _ _ _ _ _ _ _ _ _ _ ?ok ?eq) ?hB ?hF ?hX ?hN ?hT ?hp ?hd ?hu ?_; (case hB => k_asm); (case hF => k_asm); (case hX => k_asm); (case hN => k_asm); (case hT => k_asm); (case hp => trivial); (case hd => ktr_room); (case hu => ktr_units); (case eq => assumption); (case ok => assumption); k_whole); intro r2z9 n2z9 h2z9 tk2z9 F2z9 N2z9 hR2z9; obtain ⟨D2z9, t21z9, t22z9, t23z9, e21z9, e22z9, l2z9, _⟩ := hR2z9; subst e21z9; subst e22z9; (try k_lt l2z9); (try dsimp only); (try k_sweep)) | with_reducible ((with_reducible show wpAny _ _ (exec (Stmt.For (Expr.Name _ _) _ _ _ _) _) _ _ _); (k_here; k_dflt (refine wpAny_For ?_ (by intro _; with_unfolding_all rfl)))) | with_reducible ((with_reducible show wpAny _ _ (execs (_ :: _) _) _ _ _); first | (k_here; k_gentoks) | ((try k_fold); (with_reducible refine wpAny_execs_cons ?_); (try dsimp only); (try k_fold))) | walk1)) | (leave1; try dsimp only))
        rename Fr _ _ _ _ => F9
        rename News _ _ _ _ => N9
        refine' placesA w mean mg mb _ Pl _ true q _ _ _ pls np _ ?hm ?hne hpz ?e1 ?e2 okR okF _ _ _ _ _ _ _ _ _ _ _ _ _ ?hB F9 ?hX (newsP1 N9) ?hT ?hd ?hu ?_
        case hne => exact neP4 (Nat.ne_of_gt (by rename (I < _ ∧ _) => q; exact q.2.1)) (neP3 n1 hPl1 hSP hextR)
        case e1 => rfl
        case e2 => rfl
        case hB => k_asm
        case hX => k_asm
        case hm => exact List.Mem.head _
        case hT => k_asm
        case hd => ktr_room
        case hu => ktr_units
        rintro f m' nw h' tk' F' N' ⟨rfl, rfl, t9, rfl⟩
        clear F9 N9
        repeat (k_unfold; (try dsimp only))
        refine TurnEnd.mk (nw := _ :: _ :: _ :: ((_ :: ext) ++ rest)) F' (newsQ1 N') memSrc ?_ ⟨_, _, _, _, _, _, _, _ :: ext, hJ'.symm, by rfl, by rfl, by rfl, by rfl, fun z h1 h2 h3 h4 h5 => by (repeat (refine (if_neg (by assumption)).trans ?_)); rfl, rfl, ⟨_, bp, _, _, _, rfl, .tail _ hp⟩, ⟨_, true, _, _, _, rfl, .head _⟩, IntsAre.append hpls (.cons _ _ .nil), by rw [List.length_append, hol]; rfl, rfl, ?_⟩
        · exact notI n1 n2 n3 (Nat.ne_of_gt (by rename (I < _ ∧ _) => q; exact q.1)) n4
        · exact notP (Nat.ne_of_gt (by rename (I < _ ∧ _) => q; exact q.2.1)) hext
      | some x =>
        obtain ⟨al, bl, t4, t5, t6, rfl, hl⟩ := H1
        obtain ⟨y, rfl⟩ : ∃ y, y = p := ⟨_, rfl⟩
        rw [show pStep ⟨some x, hi, wh, some y, out⟩ (-1) = ⟨some x, some y, wh, some (pMid x y), out ++ [pRnd (pMid x y)]⟩ from rfl] at hok' hJ'
        obtain ⟨okR, okF⟩ := pOk_pa hok'
        clear hok'
        generalize hq : pMid x y = q at okR okF hJ'
        repeat' ((fail_if_success (with_reducible show wpAny _ _ (execs [Stmt.Expr _ _] _) _ _ _)); (fail_if_success (with_reducible show wpAny _ _ (exec (Stmt.Assign _ (Expr.ListComp _ _ _ _) _) _) _ _ _)); first | (k_unfold; (try dsimp only)) | (first | with_reducible (k_here; (with_reducible show wpAny _ _ (call (Value.ref 76) _ _) _ _ _); k_dflt (refine' use (hsv_con' _ _ _ _ _ _ _ _ _ _ _ _ ?ok ?eq) ?hB ?hF ?hX ?hN ?hT ?hp ?hd ?hu ?_; (case hB => k_asm); (case hF => k_asm); (case hX => k_asm); (case hN => k_asm); (case hT => k_asm); (case hp => trivial); (case hd => ktr_room); (case hu => ktr_units); (case eq => assumption); (case ok => assumption); k_whole); intro r2z9 n2z9 h2z9 tk2z9 F2z9 N2z9 hR2z9; obtain ⟨D2z9, t21z9, t22z9, t23z9, e21z9, e22z9, l2z9, _⟩ := hR2z9; subst e21z9; subst e22z9; (try k_lt l2z9); (try dsimp only); (try k_sweep)) | with_reducible ((with_reducible show wpAny _ _ (exec (Stmt.For (Expr.Name _ _) _ _ _ _) _) _ _ _); (k_here; k_dflt (refine wpAny_For ?_ (by intro _; with_unfolding_all rfl)))) | with_reducible ((with_reducible show wpAny _ _ (execs (_ :: _) _) _ _ _); first | (k_here; k_gentoks) | ((try k_fold); (with_reducible refine wpAny_execs_cons ?_); (try dsimp only); (try k_fold))) | walk1) | (dsimp only; (first | with_reducible (k_here; (with_reducible show wpAny _ _ (call (Value.ref 76) _ _) _ _ _); k_dflt (refine' use (hsv_con' _ _ _ _ _ _ _ _ _ _ _ _ ?ok ?eq) ?hB ?hF ?hX ?hN ?hT ?hp ?hd ?hu ?_; (case hB => k_asm); (case hF => k_asm); (case hX => k_asm); (case hN => k_asm); (case hT => k_asm); (case hp => trivial); (case hd => ktr_room); (case hu => ktr_units); (case eq => assumption); (case ok => assumption); k_whole); intro r2z9 n2z9 h2z9 tk2z9 F2z9 N2z9 hR2z9; obtain ⟨D2z9, t21z9, t22z9, t23z9, e21z9, e22z9, l2z9, _⟩ := hR2z9; subst e21z9; subst e22z9; (try k_lt l2z9); (try dsimp only); (try k_sweep)) | with_reducible ((with_reducible show wpAny _ _ (exec (Stmt.For (Expr.Name _ _) _ _ _ _) _) _ _ _); (k_here; k_dflt (refine wpAny_For ?_ (by intro _; with_unfolding_all rfl)))) | with_reducible ((with_reducible show wpAny _ _ (execs (_ :: _) _) _ _ _); first | (k_here; k_gentoks) | ((try k_fold); (with_reducible refine wpAny_execs_cons ?_); (try dsimp only); (try k_fold))) | walk1)) | (leave1; try dsimp only))
        refine assign_compZ (Vals := Vals3 q.1 q.2.1 q.2.2) (by rfl) (by k_asm) (by k_asm) (seqO_sq (by assumption) (memE hl)) (seqO_sq (by assumption) (memE hp)) (by rfl) (by show 3 ≤ sizeLine; decide) (by rfl) (by with_unfolding_all rfl) (by decide) (by rfl) (by decide) (by rfl) (by rfl) (by decide) (by rfl) (by rfl) (by intro _; rfl) ?hiter (by rfl) ?turn2 ?fin
        (case hiter =>
          intro Q' hz
          repeat' (first | exact hz | (k_unfold; (try dsimp only)) | (first | with_reducible (k_here; (with_reducible show wpAny _ _ (call (Value.ref 76) _ _) _ _ _); k_dflt (refine' use (hsv_con' _ _ _ _ _ _ _ _ _ _ _ _ ?ok ?eq) ?hB ?hF ?hX ?hN ?hT ?hp ?hd ?hu ?_; (case hB => k_asm); (case hF => k_asm); (case hX => k_asm); (case hN => k_asm); (case hT => k_asm); (case hp => trivial); (case hd => ktr_room); (case hu => ktr_units); (case eq => assumption); (case ok => assumption); k_whole); intro r2z9 n2z9 h2z9 tk2z9 F2z9 N2z9 hR2z9; obtain ⟨D2z9, t21z9, t22z9, t23z9, e21z9, e22z9, l2z9, _⟩ := hR2z9; subst e21z9; subst e22z9; (try k_lt l2z9); (try dsimp only); (try k_sweep)) | with_reducible ((with_reducible show wpAny _ _ (exec (Stmt.For (Expr.Name _ _) _ _ _ _) _) _ _ _); (k_here; k_dflt (refine wpAny_For ?_ (by intro _; with_unfolding_all rfl)))) | with_reducible ((with_reducible show wpAny _ _ (execs (_ :: _) _) _ _ _); first | (k_here; k_gentoks) | ((try k_fold); (with_reducible refine wpAny_execs_cons ?_); (try dsimp only); (try k_fold))) | walk1)))
        (case turn2 =>
          intro ii ll v1 v2 C oC m2 h tk E' hx hy hV hC ex ey Fc Nc
          have hii : ii < 3 := by
            rcases Nat.lt_or_ge ii 3 with q | q
            · exact q
            · rw [Array.getElem?_eq_none (by simpa using q)] at hx; cases hx
          obtain ⟨t7, rfl⟩ := at3 hx
          obtain ⟨t8, rfl⟩ := at3 hy
          iterate 9 (first | (k_unfold; (try dsimp only)) | (first | with_reducible (k_here; (with_reducible show wpAny _ _ (call (Value.ref 76) _ _) _ _ _); k_dflt (refine' use (hsv_con' _ _ _ _ _ _ _ _ _ _ _ _ ?ok ?eq) ?hB ?hF ?hX ?hN ?hT ?hp ?hd ?hu ?_; (case hB => k_asm); (case hF => k_asm); (case hX => k_asm); (case hN => k_asm); (case hT => k_asm); (case hp => trivial); (case hd => ktr_room); (case hu => ktr_units); (case eq => assumption); (case ok => assumption); k_whole); intro r2z9 n2z9 h2z9 tk2z9 F2z9 N2z9 hR2z9; obtain ⟨D2z9, t21z9, t22z9, t23z9, e21z9, e22z9, l2z9, _⟩ := hR2z9; subst e21z9; subst e22z9; (try k_lt l2z9); (try dsimp only); (try k_sweep)) | with_reducible ((with_reducible show wpAny _ _ (exec (Stmt.For (Expr.Name _ _) _ _ _ _) _) _ _ _); (k_here; k_dflt (refine wpAny_For ?_ (by intro _; with_unfolding_all rfl)))) | with_reducible ((with_reducible show wpAny _ _ (execs (_ :: _) _) _ _ _); first | (k_here; k_gentoks) | ((try k_fold); (with_reducible refine wpAny_execs_cons ?_); (try dsimp only); (try k_fold))) | walk1) | (dsimp only; (first | with_reducible (k_here; (with_reducible show wpAny _ _ (call (Value.ref 76) _ _) _ _ _); k_dflt (refine' use (hsv_con' _ _ _ _ _ _ _ _ _ _ _ _ ?ok ?eq) ?hB ?hF ?hX ?hN ?hT ?hp ?hd ?hu ?_; (case hB => k_asm); (case hF => k_asm); (case hX => k_asm); (case hN => k_asm); (case hT => k_asm); (case hp => trivial); (case hd => ktr_room); (case hu => ktr_units); (case eq => assumption); (case ok => assumption); k_whole); intro r2z9 n2z9 h2z9 tk2z9 F2z9 N2z9 hR2z9; obtain ⟨D2z9, t21z9, t22z9, t23z9, e21z9, e22z9, l2z9, _⟩ := hR2z9; subst e21z9; subst e22z9; (try k_lt l2z9); (try dsimp only); (try k_sweep)) | with_reducible ((with_reducible show wpAny _ _ (exec (Stmt.For (Expr.Name _ _) _ _ _ _) _) _ _ _); (k_here; k_dflt (refine wpAny_For ?_ (by intro _; with_unfolding_all rfl)))) | with_reducible ((with_reducible show wpAny _ _ (execs (_ :: _) _) _ _ _); first | (k_here; k_gentoks) | ((try k_fold); (with_reducible refine wpAny_execs_cons ?_); (try dsimp only); (try k_fold))) | walk1)) | skip)
          show Vals3 _ _ _ _ (ll ++ [.float (pM (fAt x.1 x.2.1 x.2.2 ii) (fAt y.1 y.2.1 y.2.2 ii)) _])
          rw [pM_at x y ii, hq]
          exact hV.snoc hii)
        (case fin =>
          intro Dp hp' tkp lp Fp Np lDp hVp
          obtain ⟨t7, t8, t9, rfl⟩ : ∃ t u x, lp = [.float q.1 t, .float q.2.1 u, .float q.2.2 x] := hVp
          k_lt lDp
          clear F2 N2
          repeat' ((fail_if_success (with_reducible show wpAny _ _ (execs [Stmt.Expr _ _] _) _ _ _)); (fail_if_success (with_reducible show wpAny _ _ (exec (Stmt.Assign _ (Expr.ListComp _ _ _ _) _) _) _ _ _)); first | (k_unfold; (try dsimp only)) | (first | with_reducible (k_here; (with_reducible show wpAny _ _ (call (Value.ref 76) _ _) _ _ _); k_dflt (refine' use (hsv_con' _ _ _ _ _ _ _ _ _ _ _ _ ?ok ?eq) ?hB ?hF ?hX ?hN ?hT ?hp ?hd ?hu ?_; (case hB => k_asm); (case hF => k_asm); (case hX => k_asm); (case hN => k_asm); (case hT => k_asm); (case hp => trivial); (case hd => ktr_room); (case hu => ktr_units); (case eq => assumption); (case ok => assumption); k_whole); intro r2z9 n2z9 h2z9 tk2z9 F2z9 N2z9 hR2z9; obtain ⟨D2z9, t21z9, t22z9, t23z9, e21z9, e22z9, l2z9, _⟩ := hR2z9; subst e21z9; subst e22z9; (try k_lt l2z9); (try dsimp only); (try k_sweep)) | with_reducible ((with_reducible show wpAny _ _ (exec (Stmt.For (Expr.Name _ _) _ _ _ _) _) _ _ _); (k_here; k_dflt (refine wpAny_For ?_ (by intro _; with_unfolding_all rfl)))) | with_reducible ((with_reducible show wpAny _ _ (execs (_ :: _) _) _ _ _); first | (k_here; k_gentoks) | ((try k_fold); (with_reducible refine wpAny_execs_cons ?_); (try dsimp only); (try k_fold))) | walk1) | (dsimp only; (first | with_reducible (k_here; (with_reducible show wpAny _ _ (call (Value.ref 76) _ _) _ _ _); k_dflt (refine' use (hsv_con' _ _ _ _ _ _ _ _ _ _ _ _ ?ok ?eq) ?hB ?hF ?hX ?hN ?hT ?hp ?hd ?hu ?_; (case hB => k_asm); (case hF => k_asm); (case hX => k_asm); (case hN => k_asm); (case hT => k_asm); (case hp => trivial); (case hd => ktr_room); (case hu => ktr_units); (case eq => assumption); (case ok => assumption); k_whole); intro r2z9 n2z9 h2z9 tk2z9 F2z9 N2z9 hR2z9; obtain ⟨D2z9, t21z9, t22z9, t23z9, e21z9, e22z9, l2z9, _⟩ := hR2z9; subst e21z9; subst e22z9; (try k_lt l2z9); (try dsimp only); (try k_sweep)) | with_reducible ((with_reducible show wpAny _ _ (exec (Stmt.For (Expr.Name _ _) _ _ _ _) _) _ _ _); (k_here; k_dflt (refine wpAny_For ?_ (by intro _; with_unfolding_all rfl)))) | with_reducible ((with_reducible show wpAny _ _ (execs (_ :: _) _) _ _ _); first | (k_here; k_gentoks) | ((try k_fold); (with_reducible refine wpAny_execs_cons ?_); (try dsimp only); (try k_fold))) | walk1)) | (leave1; try dsimp only))
          rename Fr _ _ _ _ => F9
          rename News _ _ _ _ => N9
          refine' placesA w mean mg mb _ Pl _ false q _ _ _ pls np _ ?hm ?hne hpz ?e1 ?e2 okR okF _ _ _ _ _ _ _ _ _ _ _ _ _ ?hB F9 ?hX (newsP1 N9) ?hT ?hd ?hu ?_
          case hne => exact neP4 (Nat.ne_of_gt lDp.2.1) (neP3 n1 hPl1 hSP hextR)
          case e1 => rfl
          case e2 => rfl
          case hB => k_asm
          case hX => k_asm
          case hm => exact List.Mem.head _
          case hT => k_asm
          case hd => ktr_room
          case hu => ktr_units
          rintro f m' nw h' tk' F' N' ⟨rfl, rfl, t9, rfl⟩
          clear F9 N9
          repeat (k_unfold; (try dsimp only))
          refine TurnEnd.mk (nw := _ :: _ :: _ :: ((_ :: ext) ++ rest)) F' (newsQ1 N') memSrc ?_ ⟨_, _, _, _, _, _, _, _ :: ext, hJ'.symm, by rfl, by rfl, by rfl, by rfl, fun z h1 h2 h3 h4 h5 => by (repeat (refine (if_neg (by assumption)).trans ?_)); rfl, ⟨_, bl, _, _, _, rfl, .tail _ hl⟩, ⟨_, bp, _, _, _, rfl, .tail _ hp⟩, ⟨_, false, _, _, _, rfl, .head _⟩, IntsAre.append hpls (.cons _ _ .nil), by rw [List.length_append, hol]; rfl, rfl, ?_⟩
          · exact notI n1 n2 n3 (Nat.ne_of_gt lDp.1) n4
          · exact notP (Nat.ne_of_gt lDp.2.1) hext)
    · cases lo with
      | none =>
        cases (show lv = .none from H1)
        rw [show pStep ⟨none, hi, wh, pa, out⟩ (0) = ⟨none, hi, wh + 0, some (hsvF (pNum (wh + 0 + 24)) 4607182418800017408 4607182418800017408), out ++ [pRnd (hsvF (pNum (wh + 0 + 24)) 4607182418800017408 4607182418800017408)]⟩ from rfl] at hok' hJ'
        have okH := pOk_hsv hok' (.inl rfl)
        obtain ⟨okR, okF⟩ := pOk_pa hok'
        clear hok'
        generalize hq : hsvF (pNum (wh + 0 + 24)) 4607182418800017408 4607182418800017408 = q at okR okF hJ'
        repeat' ((fail_if_success (with_reducible show wpAny _ _ (execs [Stmt.Expr _ _] _) _ _ _)); (fail_if_success (with_reducible show wpAny _ _ (exec (Stmt.Assign _ (Expr.ListComp _ _ _ _) _) _) _ _ _)); first | (k_unfold; (try dsimp only)) | (first | with_reducible (k_here; (with_reducible show wpAny _ _ (call (Value.ref 76) _ _) _ _ _); k_dflt (refine' use (hsv_con' _ _ _ _ _ _ _ _ _ _ _ _ ?ok ?eq) ?hB ?hF ?hX ?hN ?hT ?hp ?hd ?hu ?_; (case hB => k_asm); (case hF => k_asm); (case hX => k_asm); (case hN => k_asm); (case hT => k_asm); (case hp => trivial); (case hd => ktr_room); (case hu => ktr_units); (case eq => assumption); (case ok => assumption); k_whole); intro r2z9 n2z9 h2z9 tk2z9 F2z9 N2z9 hR2z9; obtain ⟨D2z9, t21z9, t22z9, t23z9, e21z9, e22z9, l2z9, _⟩ := hR2z9; subst e21z9; subst e22z9; (try k_lt l2z9); (try dsimp only); (try k_sweep)) | with_reducible ((with_reducible show wpAny _ _ (exec (Stmt.For (Expr.Name _ _) _ _ _ _) _) _ _ _); (k_here; k_dflt (refine wpAny_For ?_ (by intro _; with_unfolding_all rfl)))) | with_reducible ((with_reducible show wpAny _ _ (execs (_ :: _) _) _ _ _); first | (k_here; k_gentoks) | ((try k_fold); (with_reducible refine wpAny_execs_cons ?_); (try dsimp only); (try k_fold))) | walk1) | (dsimp only; (first | with_reducible (k_here; (with_reducible show wpAny _ _ (call (Value.ref 76) _ _) _ _ _); k_dflt (refine' use (hsv_con' _ _ _ _ _ _ _ _ _ _ _ _ ?ok ?eq) ?hB ?hF ?hX ?hN ?hT ?hp ?hd ?hu ?_; (case hB => k_asm); (case hF => k_asm); (case hX => k_asm); (case hN => k_asm); (case hT => k_asm); (case hp => trivial); (case hd => ktr_room); (case hu => ktr_units); (case eq => assumption); (case ok => assumption); k_whole); intro r2z9 n2z9 h2z9 tk2z9 F2z9 N2z9 hR2z9; obtain ⟨D2z9, t21z9, t22z9, t23z9, e21z9, e22z9, l2z9, _⟩ := hR2z9; subst e21z9; subst e22z9; (try k_lt l2z9); (try dsimp only); (try k_sweep)) | with_reducible ((with_reducible show wpAny _ _ (exec (Stmt.For (Expr.Name _ _) _ _ _ _) _) _ _ _); (k_here; k_dflt (refine wpAny_For ?_ (by intro _; with_unfolding_all rfl)))) | with_reducible ((with_reducible show wpAny _ _ (execs (_ :: _) _) _ _ _); first | (k_here; k_gentoks) | ((try k_fold); (with_reducible refine wpAny_execs_cons ?_); (try dsimp only); (try k_fold))) | walk1)) | (leave1; try dsimp only))
        rename Fr _ _ _ _ => F9
        rename News _ _ _ _ => N9
        refine' placesA w mean mg mb _ Pl _ true q _ _ _ pls np _ ?hm ?hne hpz ?e1 ?e2 okR okF _ _ _ _ _ _ _ _ _ _ _ _ _ ?hB F9 ?hX (newsP1 N9) ?hT ?hd ?hu ?_
        case hne => exact neP4 (Nat.ne_of_gt (by rename (I < _ ∧ _) => q; exact q.2.1)) (neP3 n1 hPl1 hSP hextR)
        case e1 => rfl
        case e2 => rfl
        case hB => k_asm
        case hX => k_asm
        case hm => exact List.Mem.head _
        case hT => k_asm
        case hd => ktr_room
        case hu => ktr_units
        rintro f m' nw h' tk' F' N' ⟨rfl, rfl, t9, rfl⟩
        clear F9 N9
        repeat (k_unfold; (try dsimp only))
        refine TurnEnd.mk (nw := _ :: _ :: _ :: ((_ :: ext) ++ rest)) F' (newsQ1 N') memSrc ?_ ⟨_, _, _, _, _, _, _, _ :: ext, hJ'.symm, by rfl, by rfl, by rfl, by rfl, fun z h1 h2 h3 h4 h5 => by (repeat (refine (if_neg (by assumption)).trans ?_)); rfl, rfl, H2.mono, ⟨_, true, _, _, _, rfl, .head _⟩, IntsAre.append hpls (.cons _ _ .nil), by rw [List.length_append, hol]; rfl, rfl, ?_⟩
        · exact notI n1 n2 n3 (Nat.ne_of_gt (by rename (I < _ ∧ _) => q; exact q.1)) n4
        · exact notP (Nat.ne_of_gt (by rename (I < _ ∧ _) => q; exact q.2.1)) hext
      | some x =>
        obtain ⟨al, bl, t4, t5, t6, rfl, hl⟩ := H1
        cases hi with
        | none =>
          cases (show hv' = .none from H2)
          rw [show pStep ⟨some x, none, wh, pa, out⟩ (0) = ⟨some x, none, wh + 0, some (hsvF (pNum (wh + 0 + 24)) 4607182418800017408 4607182418800017408), out ++ [pRnd (hsvF (pNum (wh + 0 + 24)) 4607182418800017408 4607182418800017408)]⟩ from rfl] at hok' hJ'
          have okH := pOk_hsv hok' (.inr rfl)
          obtain ⟨okR, okF⟩ := pOk_pa hok'
          clear hok'
          generalize hq : hsvF (pNum (wh + 0 + 24)) 4607182418800017408 4607182418800017408 = q at okR okF hJ'
          repeat' ((fail_if_success (with_reducible show wpAny _ _ (execs [Stmt.Expr _ _] _) _ _ _)); (fail_if_success (with_reducible show wpAny _ _ (exec (Stmt.Assign _ (Expr.ListComp _ _ _ _) _) _) _ _ _)); first | (k_unfold; (try dsimp only)) | (first | with_reducible (k_here; (with_reducible show wpAny _ _ (call (Value.ref 76) _ _) _ _ _); k_dflt (refine' use (hsv_con' _ _ _ _ _ _ _ _ _ _ _ _ ?ok ?eq) ?hB ?hF ?hX ?hN ?hT ?hp ?hd ?hu ?_; (case hB => k_asm); (case hF => k_asm); (case hX => k_asm); (case hN => k_asm); (case hT => k_asm); (case hp => trivial); (case hd => ktr_room); (case hu => ktr_units); (case eq => assumption); (case ok => assumption); k_whole); intro r2z9 n2z9 h2z9 tk2z9 F2z9 N2z9 hR2z9; obtain ⟨D2z9, t21z9, t22z9, t23z9, e21z9, e22z9, l2z9, _⟩ := hR2z9; subst e21z9; subst e22z9; (try k_lt l2z9); (try dsimp only); (try k_sweep)) | with_reducible ((with_reducible show wpAny _ _ (exec (Stmt.For (Expr.Name _ _) _ _ _ _) _) _ _ _); (k_here; k_dflt (refine wpAny_For ?_ (by intro _; with_unfolding_all rfl)))) | with_reducible ((with_reducible show wpAny _ _ (execs (_ :: _) _) _ _ _); first | (k_here; k_gentoks) | ((try k_fold); (with_reducible refine wpAny_execs_cons ?_); (try dsimp only); (try k_fold))) | walk1) | (dsimp only; (first | with_reducible (k_here; (with_reducible show wpAny _ _ (call (Value.ref 76) _ _) _ _ _); k_dflt (refine' use (hsv_con' _ _ _ _ _ _ _ _ _ _ _ _ ?ok ?eq) ?hB ?hF ?hX ?hN ?hT ?hp ?hd ?hu ?_; (case hB => k_asm); (case hF => k_asm); (case hX => k_asm); (case hN => k_asm); (case hT => k_asm); (case hp => trivial); (case hd => ktr_room); (case hu => ktr_units); (case eq => assumption); (case ok => assumption); k_whole); intro r2z9 n2z9 h2z9 tk2z9 F2z9 N2z9 hR2z9; obtain ⟨D2z9, t21z9, t22z9, t23z9, e21z9, e22z9, l2z9, _⟩ := hR2z9; subst e21z9; subst e22z9; (try k_lt l2z9); (try dsimp only); (try k_sweep)) | with_reducible ((with_reducible show wpAny _ _ (exec (Stmt.For (Expr.Name _ _) _ _ _ _) _) _ _ _); (k_here; k_dflt (refine wpAny_For ?_ (by intro _; with_unfolding_all rfl)))) | with_reducible ((with_reducible show wpAny _ _ (execs (_ :: _) _) _ _ _); first | (k_here; k_gentoks) | ((try k_fold); (with_reducible refine wpAny_execs_cons ?_); (try dsimp only); (try k_fold))) | walk1)) | (leave1; try dsimp only))
          rename Fr _ _ _ _ => F9
          rename News _ _ _ _ => N9
          refine' placesA w mean mg mb _ Pl _ true q _ _ _ pls np _ ?hm ?hne hpz ?e1 ?e2 okR okF _ _ _ _ _ _ _ _ _ _ _ _ _ ?hB F9 ?hX (newsP1 N9) ?hT ?hd ?hu ?_
          case hne => exact neP4 (Nat.ne_of_gt (by rename (I < _ ∧ _) => q; exact q.2.1)) (neP3 n1 hPl1 hSP hextR)
          case e1 => rfl
          case e2 => rfl
          case hB => k_asm
          case hX => k_asm
          case hm => exact List.Mem.head _
          case hT => k_asm
          case hd => ktr_room
          case hu => ktr_units
          rintro f m' nw h' tk' F' N' ⟨rfl, rfl, t9, rfl⟩
          clear F9 N9
          repeat (k_unfold; (try dsimp only))
          refine TurnEnd.mk (nw := _ :: _ :: _ :: ((_ :: ext) ++ rest)) F' (newsQ1 N') memSrc ?_ ⟨_, _, _, _, _, _, _, _ :: ext, hJ'.symm, by rfl, by rfl, by rfl, by rfl, fun z h1 h2 h3 h4 h5 => by (repeat (refine (if_neg (by assumption)).trans ?_)); rfl, ⟨_, bl, _, _, _, rfl, .tail _ hl⟩, rfl, ⟨_, true, _, _, _, rfl, .head _⟩, IntsAre.append hpls (.cons _ _ .nil), by rw [List.length_append, hol]; rfl, rfl, ?_⟩
          · exact notI n1 n2 n3 (Nat.ne_of_gt (by rename (I < _ ∧ _) => q; exact q.1)) n4
          · exact notP (Nat.ne_of_gt (by rename (I < _ ∧ _) => q; exact q.2.1)) hext
        | some y =>
          obtain ⟨ah, bh, t7, t8, t9, rfl, hh⟩ := H2
          cases pa with
          | none => rcases hstart with q | ⟨_, q, _⟩ <;> cases q
          | some p =>
          obtain ⟨ap, bp, t1, t2, t3, rfl, hp⟩ := H3
          rw [show pStep ⟨some x, some y, wh, some p, out⟩ (0) = ⟨some x, some y, wh, some p, out ++ [pRnd p]⟩ from rfl] at hok' hJ'
          obtain ⟨okR, okF⟩ := pOk_pa hok'
          clear hok'
          have hapn : @Ne Nat ap Pl := hext _ hp
          repeat' ((fail_if_success (with_reducible show wpAny _ _ (execs [Stmt.Expr _ _] _) _ _ _)); (fail_if_success (with_reducible show wpAny _ _ (exec (Stmt.Assign _ (Expr.ListComp _ _ _ _) _) _) _ _ _)); first | (k_unfold; (try dsimp only)) | (first | with_reducible (k_here; (with_reducible show wpAny _ _ (call (Value.ref 76) _ _) _ _ _); k_dflt (refine' use (hsv_con' _ _ _ _ _ _ _ _ _ _ _ _ ?ok ?eq) ?hB ?hF ?hX ?hN ?hT ?hp ?hd ?hu ?_; (case hB => k_asm); (case hF => k_asm); (case hX => k_asm); (case hN => k_asm); (case hT => k_asm); (case hp => trivial); (case hd => ktr_room); (case hu => ktr_units); (case eq => assumption); (case ok => assumption); k_whole); intro r2z9 n2z9 h2z9 tk2z9 F2z9 N2z9 hR2z9; obtain ⟨D2z9, t21z9, t22z9, t23z9, e21z9, e22z9, l2z9, _⟩ := hR2z9; subst e21z9; subst e22z9; (try k_lt l2z9); (try dsimp only); (try k_sweep)) | with_reducible ((with_reducible show wpAny _ _ (exec (Stmt.For (Expr.Name _ _) _ _ _ _) _) _ _ _); (k_here; k_dflt (refine wpAny_For ?_ (by intro _; with_unfolding_all rfl)))) | with_reducible ((with_reducible show wpAny _ _ (execs (_ :: _) _) _ _ _); first | (k_here; k_gentoks) | ((try k_fold); (with_reducible refine wpAny_execs_cons ?_); (try dsimp only); (try k_fold))) | walk1) | (dsimp only; (first | with_reducible (k_here; (with_reducible show wpAny _ _ (call (Value.ref 76) _ _) _ _ _); k_dflt (refine' use (hsv_con' _ _ _ _ _ _ _ _ _ _ _ _ ?ok ?eq) ?hB ?hF ?hX ?hN ?hT ?hp ?hd ?hu ?_; (case hB => k_asm); (case hF => k_asm); (case hX => k_asm); (case hN => k_asm); (case hT => k_asm); (case hp => trivial); (case hd => ktr_room); (case hu => ktr_units); (case eq => assumption); (case ok => assumption); k_whole); intro r2z9 n2z9 h2z9 tk2z9 F2z9 N2z9 hR2z9; obtain ⟨D2z9, t21z9, t22z9, t23z9, e21z9, e22z9, l2z9, _⟩ := hR2z9; subst e21z9; subst e22z9; (try k_lt l2z9); (try dsimp only); (try k_sweep)) | with_reducible ((with_reducible show wpAny _ _ (exec (Stmt.For (Expr.Name _ _) _ _ _ _) _) _ _ _); (k_here; k_dflt (refine wpAny_For ?_ (by intro _; with_unfolding_all rfl)))) | with_reducible ((with_reducible show wpAny _ _ (execs (_ :: _) _) _ _ _); first | (k_here; k_gentoks) | ((try k_fold); (with_reducible refine wpAny_execs_cons ?_); (try dsimp only); (try k_fold))) | walk1)) | (leave1; try dsimp only))
          rename Fr _ _ _ _ => F9
          rename News _ _ _ _ => N9
          refine' placesA w mean mg mb _ Pl _ bp p _ _ _ pls np _ (.tail _ (.tail _ (.tail _ (List.mem_append_left _ hp)))) ?hne hpz ?e1 ?e2 okR okF _ _ _ _ _ _ _ _ _ _ _ _ _ ?hB F9 ?hX (newsP2 N9) ?hT ?hd ?hu ?_
          case hne => exact neP3 n1 hPl1 hSP hextR
          case e1 => rfl
          case e2 => rfl
          case hB => k_asm
          case hX => k_asm
          case hT => k_asm
          case hd => ktr_room
          case hu => ktr_units
          rintro f m' nw h' tk' F' N' ⟨rfl, rfl, t9, rfl⟩
          clear F9 N9
          repeat (k_unfold; (try dsimp only))
          exact TurnEnd.mk (nw := _ :: _ :: _ :: (ext ++ rest)) F' (newsQ2 N') memSrc (notI2 n1 n2 n3 n4) ⟨_, _, _, _, _, _, _, ext, hJ'.symm, by rfl, by rfl, by rfl, by rfl, fun z h1 h2 h3 h4 h5 => by (repeat (refine (if_neg (by assumption)).trans ?_)); rfl, ⟨_, bl, _, _, _, rfl, hl⟩, ⟨_, bh, _, _, _, rfl, hh⟩, ⟨_, _, _, _, _, rfl, hp⟩, IntsAre.append hpls (.cons _ _ .nil), by rw [List.length_append, hol]; rfl, rfl, hext⟩
    · cases pa with
      | none => rcases hstart with q | ⟨q, _⟩ <;> cases q
      | some p =>
      obtain ⟨ap, bp, t1, t2, t3, rfl, hp⟩ := H3
      cases hi with
      | none =>
        cases (show hv' = .none from H2)
        rw [show pStep ⟨lo, none, wh, some p, out⟩ (1) = ⟨some p, none, wh + 1, some (hsvF (pNum (wh + 1 + 24)) 4607182418800017408 4607182418800017408), out ++ [pRnd (hsvF (pNum (wh + 1 + 24)) 4607182418800017408 4607182418800017408)]⟩ from rfl] at hok' hJ'
        have okH := pOk_hsv hok' (.inr rfl)
        obtain ⟨okR, okF⟩ := pOk_pa hok'
        clear hok'
        generalize hq : hsvF (pNum (wh + 1 + 24)) 4607182418800017408 4607182418800017408 = q at okR okF hJ'
        repeat' ((fail_if_success (with_reducible show wpAny _ _ (execs [Stmt.Expr _ _] _) _ _ _)); (fail_if_success (with_reducible show wpAny _ _ (exec (Stmt.Assign _ (Expr.ListComp _ _ _ _) _) _) _ _ _)); first | (k_unfold; (try dsimp only)) | (first | with_reducible (k_here; (with_reducible show wpAny _ _ (call (Value.ref 76) _ _) _ _ _); k_dflt (refine' use (hsv_con' _ _ _ _ _ _ _ _ _ _ _ _ ?ok ?eq) ?hB ?hF ?hX ?hN ?hT ?hp ?hd ?hu ?_; (case hB => k_asm); (case hF => k_asm); (case hX => k_asm); (case hN => k_asm); (case hT => k_asm); (case hp => trivial); (case hd => ktr_room); (case hu => ktr_units); (case eq => assumption); (case ok => assumption); k_whole); intro r2z9 n2z9 h2z9 tk2z9 F2z9 N2z9 hR2z9; obtain ⟨D2z9, t21z9, t22z9, t23z9, e21z9, e22z9, l2z9, _⟩ := hR2z9; subst e21z9; subst e22z9; (try k_lt l2z9); (try dsimp only); (try k_sweep)) | with_reducible ((with_reducible show wpAny _ _ (exec (Stmt.For (Expr.Name _ _) _ _ _ _) _) _ _ _); (k_here; k_dflt (refine wpAny_For ?_ (by intro _; with_unfolding_all rfl)))) | with_reducible ((with_reducible show wpAny _ _ (execs (_ :: _) _) _ _ _); first | (k_here; k_gentoks) | ((try k_fold); (with_reducible refine wpAny_execs_cons ?_); (try dsimp only); (try k_fold))) | walk1) | (dsimp only; (first | with_reducible (k_here; (with_reducible show wpAny _ _ (call (Value.ref 76) _ _) _ _ _); k_dflt (refine' use (hsv_con' _ _ _ _ _ _ _ _ _ _ _ _ ?ok ?eq) ?hB ?hF ?hX ?hN ?hT ?hp ?hd ?hu ?_; (case hB => k_asm); (case hF => k_asm); (case hX => k_asm); (case hN => k_asm); (case hT => k_asm); (case hp => trivial); (case hd => ktr_room); (case hu => ktr_units); (case eq => assumption); (case ok => assumption); k_whole); intro r2z9 n2z9 h2z9 tk2z9 F2z9 N2z9 hR2z9; obtain ⟨D2z9, t21z9, t22z9, t23z9, e21z9, e22z9, l2z9, _⟩ := hR2z9; subst e21z9; subst e22z9; (try k_lt l2z9); (try dsimp only); (try k_sweep)) | with_reducible ((with_reducible show wpAny _ _ (exec (Stmt.For (Expr.Name _ _) _ _ _ _) _) _ _ _); (k_here; k_dflt (refine wpAny_For ?_ (by intro _; with_unfolding_all rfl)))) | with_reducible ((with_reducible show wpAny _ _ (execs (_ :: _) _) _ _ _); first | (k_here; k_gentoks) | ((try k_fold); (with_reducible refine wpAny_execs_cons ?_); (try dsimp only); (try k_fold))) | walk1)) | (leave1; try dsimp only))
        rename Fr _ _ _ _ => F9
        rename News _ _ _ _ => N9
        refine' placesA w mean mg mb _ Pl _ true q _ _ _ pls np _ ?hm ?hne hpz ?e1 ?e2 okR okF _ _ _ _ _ _ _ _ _ _ _ _ _ ?hB F9 ?hX (newsP1 N9) ?hT ?hd ?hu ?_
        case hne => exact neP4 (Nat.ne_of_gt (by rename (I < _ ∧ _) => q; exact q.2.1)) (neP3 n1 hPl1 hSP hextR)
        case e1 => rfl
        case e2 => rfl
        case hB => k_asm
        case hX => k_asm
        case hm => exact List.Mem.head _
        case hT => k_asm
        case hd => ktr_room
        case hu => ktr_units
        rintro f m' nw h' tk' F' N' ⟨rfl, rfl, t9, rfl⟩
        clear F9 N9
        repeat (k_unfold; (try dsimp only))
        refine TurnEnd.mk (nw := _ :: _ :: _ :: ((_ :: ext) ++ rest)) F' (newsQ1 N') memSrc ?_ ⟨_, _, _, _, _, _, _, _ :: ext, hJ'.symm, by rfl, by rfl, by rfl, by rfl, fun z h1 h2 h3 h4 h5 => by (repeat (refine (if_neg (by assumption)).trans ?_)); rfl, ⟨_, bp, _, _, _, rfl, .tail _ hp⟩, rfl, ⟨_, true, _, _, _, rfl, .head _⟩, IntsAre.append hpls (.cons _ _ .nil), by rw [List.length_append, hol]; rfl, rfl, ?_⟩
        · exact notI n1 n2 n3 (Nat.ne_of_gt (by rename (I < _ ∧ _) => q; exact q.1)) n4
        · exact notP (Nat.ne_of_gt (by rename (I < _ ∧ _) => q; exact q.2.1)) hext
      | some y =>
        obtain ⟨ah, bh, t4, t5, t6, rfl, hh⟩ := H2
        obtain ⟨x, rfl⟩ : ∃ x, x = p := ⟨_, rfl⟩
        rw [show pStep ⟨lo, some y, wh, some x, out⟩ (1) = ⟨some x, some y, wh, some (pMid x y), out ++ [pRnd (pMid x y)]⟩ from rfl] at hok' hJ'
        obtain ⟨okR, okF⟩ := pOk_pa hok'
        clear hok'
        generalize hq : pMid x y = q at okR okF hJ'
        repeat' ((fail_if_success (with_reducible show wpAny _ _ (execs [Stmt.Expr _ _] _) _ _ _)); (fail_if_success (with_reducible show wpAny _ _ (exec (Stmt.Assign _ (Expr.ListComp _ _ _ _) _) _) _ _ _)); first | (k_unfold; (try dsimp only)) | (first | with_reducible (k_here; (with_reducible show wpAny _ _ (call (Value.ref 76) _ _) _ _ _); k_dflt (refine' use (hsv_con' _ _ _ _ _ _ _ _ _ _ _ _ ?ok ?eq) ?hB ?hF ?hX ?hN ?hT ?hp ?hd ?hu ?_; (case hB => k_asm); (case hF => k_asm); (case hX => k_asm); (case hN => k_asm); (case hT => k_asm); (case hp => trivial); (case hd => ktr_room); (case hu => ktr_units); (case eq => assumption); (case ok => assumption); k_whole); intro r2z9 n2z9 h2z9 tk2z9 F2z9 N2z9 hR2z9; obtain ⟨D2z9, t21z9, t22z9, t23z9, e21z9, e22z9, l2z9, _⟩ := hR2z9; subst e21z9; subst e22z9; (try k_lt l2z9); (try dsimp only); (try k_sweep)) | with_reducible ((with_reducible show wpAny _ _ (exec (Stmt.For (Expr.Name _ _) _ _ _ _) _) _ _ _); (k_here; k_dflt (refine wpAny_For ?_ (by intro _; with_unfolding_all rfl)))) | with_reducible ((with_reducible show wpAny _ _ (execs (_ :: _) _) _ _ _); first | (k_here; k_gentoks) | ((try k_fold); (with_reducible refine wpAny_execs_cons ?_); (try dsimp only); (try k_fold))) | walk1) | (dsimp only; (first | with_reducible (k_here; (with_reducible show wpAny _ _ (call (Value.ref 76) _ _) _ _ _); k_dflt (refine' use (hsv_con' _ _ _ _ _ _ _ _ _ _ _ _ ?ok ?eq) ?hB ?hF ?hX ?hN ?hT ?hp ?hd ?hu ?_; (case hB => k_asm); (case hF => k_asm); (case hX => k_asm); (case hN => k_asm); (case hT => k_asm); (case hp => trivial); (case hd => ktr_room); (case hu => ktr_units); (case eq => assumption); (case ok => assumption); k_whole); intro r2z9 n2z9 h2z9 tk2z9 F2z9 N2z9 hR2z9; obtain ⟨D2z9, t21z9, t22z9, t23z9, e21z9, e22z9, l2z9, _⟩ := hR2z9; subst e21z9; subst e22z9; (try k_lt l2z9); (try dsimp only); (try k_sweep)) | with_reducible ((with_reducible show wpAny _ _ (exec (Stmt.For (Expr.Name _ _) _ _ _ _) _) _ _ _); (k_here; k_dflt (refine wpAny_For ?_ (by intro _; with_unfolding_all rfl)))) | with_reducible ((with_reducible show wpAny _ _ (execs (_ :: _) _) _ _ _); first | (k_here; k_gentoks) | ((try k_fold); (with_reducible refine wpAny_execs_cons ?_); (try dsimp only); (try k_fold))) | walk1)) | (leave1; try dsimp only))
        refine assign_compZ (Vals := Vals3 q.1 q.2.1 q.2.2) (by rfl) (by k_asm) (by k_asm) (seqO_sq (by assumption) (memE hp)) (seqO_sq (by assumption) (memE hh)) (by rfl) (by show 3 ≤ sizeLine; decide) (by rfl) (by with_unfolding_all rfl) (by decide) (by rfl) (by decide) (by rfl) (by rfl) (by decide) (by rfl) (by rfl) (by intro _; rfl) ?hiter (by rfl) ?turn2 ?fin
        (case hiter =>
          intro Q' hz
          repeat' (first | exact hz | (k_unfold; (try dsimp only)) | (first | with_reducible (k_here; (with_reducible show wpAny _ _ (call (Value.ref 76) _ _) _ _ _); k_dflt (refine' use (hsv_con' _ _ _ _ _ _ _ _ _ _ _ _ ?ok ?eq) ?hB ?hF ?hX ?hN ?hT ?hp ?hd ?hu ?_; (case hB => k_asm); (case hF => k_asm); (case hX => k_asm); (case hN => k_asm); (case hT => k_asm); (case hp => trivial); (case hd => ktr_room); (case hu => ktr_units); (case eq => assumption); (case ok => assumption); k_whole); intro r2z9 n2z9 h2z9 tk2z9 F2z9 N2z9 hR2z9; obtain ⟨D2z9, t21z9, t22z9, t23z9, e21z9, e22z9, l2z9, _⟩ := hR2z9; subst e21z9; subst e22z9; (try k_lt l2z9); (try dsimp only); (try k_sweep)) | with_reducible ((with_reducible show wpAny _ _ (exec (Stmt.For (Expr.Name _ _) _ _ _ _) _) _ _ _); (k_here; k_dflt (refine wpAny_For ?_ (by intro _; with_unfolding_all rfl)))) | with_reducible ((with_reducible show wpAny _ _ (execs (_ :: _) _) _ _ _); first | (k_here; k_gentoks) | ((try k_fold); (with_reducible refine wpAny_execs_cons ?_); (try dsimp only); (try k_fold))) | walk1)))
        (case turn2 =>
          intro ii ll v1 v2 C oC m2 h tk E' hx hy hV hC ex ey Fc Nc
          have hii : ii < 3 := by
            rcases Nat.lt_or_ge ii 3 with q | q
            · exact q
            · rw [Array.getElem?_eq_none (by simpa using q)] at hx; cases hx
          obtain ⟨t7, rfl⟩ := at3 hx
          obtain ⟨t8, rfl⟩ := at3 hy
          iterate 9 (first | (k_unfold; (try dsimp only)) | (first | with_reducible (k_here; (with_reducible show wpAny _ _ (call (Value.ref 76) _ _) _ _ _); k_dflt (refine' use (hsv_con' _ _ _ _ _ _ _ _ _ _ _ _ ?ok ?eq) ?hB ?hF ?hX ?hN ?hT ?hp ?hd ?hu ?_; (case hB => k_asm); (case hF => k_asm); (case hX => k_asm); (case hN => k_asm); (case hT => k_asm); (case hp => trivial); (case hd => ktr_room); (case hu => ktr_units); (case eq => assumption); (case ok => assumption); k_whole); intro r2z9 n2z9 h2z9 tk2z9 F2z9 N2z9 hR2z9; obtain ⟨D2z9, t21z9, t22z9, t23z9, e21z9, e22z9, l2z9, _⟩ := hR2z9; subst e21z9; subst e22z9; (try k_lt l2z9); (try dsimp only); (try k_sweep)) | with_reducible ((with_reducible show wpAny _ _ (exec (Stmt.For (Expr.Name _ _) _ _ _ _) _) _ _ _); (k_here; k_dflt (refine wpAny_For ?_ (by intro _; with_unfolding_all rfl)))) | with_reducible ((with_reducible show wpAny _ _ (execs (_ :: _) _) _ _ _); first | (k_here; k_gentoks) | ((try k_fold); (with_reducible refine wpAny_execs_cons ?_); (try dsimp only); (try k_fold))) | walk1) | (dsimp only; (first | with_reducible (k_here; (with_reducible show wpAny _ _ (call (Value.ref 76) _ _) _ _ _); k_dflt (refine' use (hsv_con' _ _ _ _ _ _ _ _ _ _ _ _ ?ok ?eq) ?hB ?hF ?hX ?hN ?hT ?hp ?hd ?hu ?_; (case hB => k_asm); (case hF => k_asm); (case hX => k_asm); (case hN => k_asm); (case hT => k_asm); (case hp => trivial); (case hd => ktr_room); (case hu => ktr_units); (case eq => assumption); (case ok => assumption); k_whole); intro r2z9 n2z9 h2z9 tk2z9 F2z9 N2z9 hR2z9; obtain ⟨D2z9, t21z9, t22z9, t23z9, e21z9, e22z9, l2z9, _⟩ := hR2z9; subst e21z9; subst e22z9; (try k_lt l2z9); (try dsimp only); (try k_sweep)) | with_reducible ((with_reducible show wpAny _ _ (exec (Stmt.For (Expr.Name _ _) _ _ _ _) _) _ _ _); (k_here; k_dflt (refine wpAny_For ?_ (by intro _; with_unfolding_all rfl)))) | with_reducible ((with_reducible show wpAny _ _ (execs (_ :: _) _) _ _ _); first | (k_here; k_gentoks) | ((try k_fold); (with_reducible refine wpAny_execs_cons ?_); (try dsimp only); (try k_fold))) | walk1)) | skip)
          show Vals3 _ _ _ _ (ll ++ [.float (pM (fAt x.1 x.2.1 x.2.2 ii) (fAt y.1 y.2.1 y.2.2 ii)) _])
          rw [pM_at x y ii, hq]
          exact hV.snoc hii)
        (case fin =>
          intro Dp hp' tkp lp Fp Np lDp hVp
          obtain ⟨t7, t8, t9, rfl⟩ : ∃ t u x, lp = [.float q.1 t, .float q.2.1 u, .float q.2.2 x] := hVp
          k_lt lDp
          clear F2 N2
          repeat' ((fail_if_success (with_reducible show wpAny _ _ (execs [Stmt.Expr _ _] _) _ _ _)); (fail_if_success (with_reducible show wpAny _ _ (exec (Stmt.Assign _ (Expr.ListComp _ _ _ _) _) _) _ _ _)); first | (k_unfold; (try dsimp only)) | (first | with_reducible (k_here; (with_reducible show wpAny _ _ (call (Value.ref 76) _ _) _ _ _); k_dflt (refine' use (hsv_con' _ _ _ _ _ _ _ _ _ _ _ _ ?ok ?eq) ?hB ?hF ?hX ?hN ?hT ?hp ?hd ?hu ?_; (case hB => k_asm); (case hF => k_asm); (case hX => k_asm); (case hN => k_asm); (case hT => k_asm); (case hp => trivial); (case hd => ktr_room); (case hu => ktr_units); (case eq => assumption); (case ok => assumption); k_whole); intro r2z9 n2z9 h2z9 tk2z9 F2z9 N2z9 hR2z9; obtain ⟨D2z9, t21z9, t22z9, t23z9, e21z9, e22z9, l2z9, _⟩ := hR2z9; subst e21z9; subst e22z9; (try k_lt l2z9); (try dsimp only); (try k_sweep)) | with_reducible ((with_reducible show wpAny _ _ (exec (Stmt.For (Expr.Name _ _) _ _ _ _) _) _ _ _); (k_here; k_dflt (refine wpAny_For ?_ (by intro _; with_unfolding_all rfl)))) | with_reducible ((with_reducible show wpAny _ _ (execs (_ :: _) _) _ _ _); first | (k_here; k_gentoks) | ((try k_fold); (with_reducible refine wpAny_execs_cons ?_); (try dsimp only); (try k_fold))) | walk1) | (dsimp only; (first | with_reducible (k_here; (with_reducible show wpAny _ _ (call (Value.ref 76) _ _) _ _ _); k_dflt (refine' use (hsv_con' _ _ _ _ _ _ _ _ _ _ _ _ ?ok ?eq) ?hB ?hF ?hX ?hN ?hT ?hp ?hd ?hu ?_; (case hB => k_asm); (case hF => k_asm); (case hX => k_asm); (case hN => k_asm); (case hT => k_asm); (case hp => trivial); (case hd => ktr_room); (case hu => ktr_units); (case eq => assumption); (case ok => assumption); k_whole); intro r2z9 n2z9 h2z9 tk2z9 F2z9 N2z9 hR2z9; obtain ⟨D2z9, t21z9, t22z9, t23z9, e21z9, e22z9, l2z9, _⟩ := hR2z9; subst e21z9; subst e22z9; (try k_lt l2z9); (try dsimp only); (try k_sweep)) | with_reducible ((with_reducible show wpAny _ _ (exec (Stmt.For (Expr.Name _ _) _ _ _ _) _) _ _ _); (k_here; k_dflt (refine wpAny_For ?_ (by intro _; with_unfolding_all rfl)))) | with_reducible ((with_reducible show wpAny _ _ (execs (_ :: _) _) _ _ _); first | (k_here; k_gentoks) | ((try k_fold); (with_reducible refine wpAny_execs_cons ?_); (try dsimp only); (try k_fold))) | walk1)) | (leave1; try dsimp only))
          rename Fr _ _ _ _ => F9
          rename News _ _ _ _ => N9
          refine' placesA w mean mg mb _ Pl _ false q _ _ _ pls np _ ?hm ?hne hpz ?e1 ?e2 okR okF _ _ _ _ _ _ _ _ _ _ _ _ _ ?hB F9 ?hX (newsP1 N9) ?hT ?hd ?hu ?_
          case hne => exact neP4 (Nat.ne_of_gt lDp.2.1) (neP3 n1 hPl1 hSP hextR)
          case e1 => rfl
          case e2 => rfl
          case hB => k_asm
          case hX => k_asm
          case hm => exact List.Mem.head _
          case hT => k_asm
          case hd => ktr_room
          case hu => ktr_units
          rintro f m' nw h' tk' F' N' ⟨rfl, rfl, t9, rfl⟩
          clear F9 N9
          repeat (k_unfold; (try dsimp only))
          refine TurnEnd.mk (nw := _ :: _ :: _ :: ((_ :: ext) ++ rest)) F' (newsQ1 N') memSrc ?_ ⟨_, _, _, _, _, _, _, _ :: ext, hJ'.symm, by rfl, by rfl, by rfl, by rfl, fun z h1 h2 h3 h4 h5 => by (repeat (refine (if_neg (by assumption)).trans ?_)); rfl, ⟨_, bp, _, _, _, rfl, .tail _ hp⟩, ⟨_, bh, _, _, _, rfl, .tail _ hh⟩, ⟨_, false, _, _, _, rfl, .head _⟩, IntsAre.append hpls (.cons _ _ .nil), by rw [List.length_append, hol]; rfl, rfl, ?_⟩
          · exact notI n1 n2 n3 (Nat.ne_of_gt lDp.1) n4
          · exact notP (Nat.ne_of_gt lDp.2.1) hext))
  (case done => 
    rintro m' nw h' tk' ⟨st, lv, hv', pv, tw, pls, np, ext, hst, e1, e2, e3, e4, em, H1, H2, H3, hpls, _, rfl, hext⟩ _ F1 N1
    clear F0 N0 N0'
    rw [map5 (x := PySem.Str.ofString "mark") (a := PySem.Str.ofString "low") (b := PySem.Str.ofString "high") (c := PySem.Str.ofString "whole") (d := PySem.Str.ofString "paint") (m := fun z => if z = PySem.Str.ofString "places" then some (.ref Pl) else if z = PySem.Str.ofString "marks" then some (.ref l) else none) rfl e1 e2 e3 e4 em] at F1
    clear e1 e2 e3 e4 em
    have hall : (0 :: ms).take ws.toArray.size = 0 :: ms := by rw [hsz]; exact List.take_of_length_le (Nat.le_of_eq (by simp))
    rw [hall] at hst
    repeat' (first | (k_unfold; (try dsimp only)) | (k_end; kc_close) | (first | with_reducible (k_here; (with_reducible show wpAny _ _ (call (Value.ref 76) _ _) _ _ _); k_dflt (refine' use (hsv_con' _ _ _ _ _ _ _ _ _ _ _ _ ?ok ?eq) ?hB ?hF ?hX ?hN ?hT ?hp ?hd ?hu ?_; (case hB => k_asm); (case hF => k_asm); (case hX => k_asm); (case hN => k_asm); (case hT => k_asm); (case hp => trivial); (case hd => ktr_room); (case hu => ktr_units); (case eq => assumption); (case ok => assumption); k_whole); intro r2z9 n2z9 h2z9 tk2z9 F2z9 N2z9 hR2z9; obtain ⟨D2z9, t21z9, t22z9, t23z9, e21z9, e22z9, l2z9, _⟩ := hR2z9; subst e21z9; subst e22z9; (try k_lt l2z9); (try dsimp only); (try k_sweep)) | with_reducible ((with_reducible show wpAny _ _ (exec (Stmt.For (Expr.Name _ _) _ _ _ _) _) _ _ _); (k_here; k_dflt (refine wpAny_For ?_ (by intro _; with_unfolding_all rfl)))) | with_reducible ((with_reducible show wpAny _ _ (execs (_ :: _) _) _ _ _); first | (k_here; k_gentoks) | ((try k_fold); (with_reducible refine wpAny_execs_cons ?_); (try dsimp only); (try k_fold))) | walk1) | (dsimp only; (first | with_reducible (k_here; (with_reducible show wpAny _ _ (call (Value.ref 76) _ _) _ _ _); k_dflt (refine' use (hsv_con' _ _ _ _ _ _ _ _ _ _ _ _ ?ok ?eq) ?hB ?hF ?hX ?hN ?hT ?hp ?hd ?hu ?_; (case hB => k_asm); (case hF => k_asm); (case hX => k_asm); (case hN => k_asm); (case hT => k_asm); (case hp => trivial); (case hd => ktr_room); (case hu => ktr_units); (case eq => assumption); (case ok => assumption); k_whole); intro r2z9 n2z9 h2z9 tk2z9 F2z9 N2z9 hR2z9; obtain ⟨D2z9, t21z9, t22z9, t23z9, e21z9, e22z9, l2z9, _⟩ := hR2z9; subst e21z9; subst e22z9; (try k_lt l2z9); (try dsimp only); (try k_sweep)) | with_reducible ((with_reducible show wpAny _ _ (exec (Stmt.For (Expr.Name _ _) _ _ _ _) _) _ _ _); (k_here; k_dflt (refine wpAny_For ?_ (by intro _; with_unfolding_all rfl)))) | with_reducible ((with_reducible show wpAny _ _ (execs (_ :: _) _) _ _ _); first | (k_here; k_gentoks) | ((try k_fold); (with_reducible refine wpAny_execs_cons ?_); (try dsimp only); (try k_fold))) | walk1)) | (leave1; (try dsimp only)) | fail "no step")
    rename Fr _ _ _ _ => F9
    rename News _ _ _ _ => N9
    exact hret _ _ _ _ F9 (fun p hp => N9 p (by simp only [List.mem_cons, List.mem_append] at hp ⊢; rcases hp with hp | hp | hp <;> simp [hp])) ⟨Pl, pls, np, rfl, hst ▸ hpls, lP, rfl⟩)
end Mine
end

section
open PySem PySem.W PyProof.Rows PySem.Spec PySem.Calls
set_option maxRecDepth 100000
set_option maxHeartbeats 1000000
namespace Mine
section
variable {prog : Program} {w : World} {A : Around} {s : Shared} {h₀ : Heap} {L : Addr} {m : PySem.Str → Option Value} {news : List (Addr × Obj)} {E : Value → Shared → Prop}
theorem rep_one {α : Type} (x : α) : ∀ n : Nat, (List.replicate n [x]).flatten = List.replicate n x
  | 0 => rfl
  | n + 1 => by rw [List.replicate_succ, List.flatten_cons, rep_one x n]; rfl
theorem intsAre_rep (k : Int) (t : Tok) : ∀ n : Nat, IntsAre (List.replicate n (.int k t)) (List.replicate n k)
  | 0 => .nil
  | n + 1 => .cons k t (intsAre_rep k t n)
theorem mul1 {l : Addr} {k : Int} {t u : Tok} {kk : Nat} {n : Nat} {Q : Value → Shared → Prop}
    (F : Fr h₀ L s.heap m) (N : News h₀ L s.heap news) (hl : (l, W.listOf #[.int k t] kk) ∈ news) (hn : n ≤ 100)
    (h : ∀ l' h', Fr h₀ L h' m → News h₀ L h' ((l', W.listOf (List.replicate n (.int k t)).toArray 0) :: news) → (∀ p ∈ news, @LT.lt Nat _ p.1 l') → Q (.ref l') { s with heap := h' }) :
    wpAny (model prog w) A (binaryOp .Mult (.ref l) (.int (n : Int) u)) Q E s := by
  refine mul_list F N (N.get hl) (by lia) (by lia) (by simp; lia) fun h' F' N' => ?_
  rw [listMul_foldl_if] at N'
  simp only [Int.toNat_natCast, rep_one] at N'
  exact h _ _ F' N' (fun p hp => Heap.lt_size (N p hp).1)
end
end Mine
end

section
open PySem PySem.W PyProof.Rows PySem.Spec PySem.Calls
set_option maxRecDepth 100000
set_option maxHeartbeats 1000000
namespace Mine
local macro_rules | `(tactic| l_ints) => `(tactic| first | exact intsAre_rep _ _ _ | exact IntsAre.append (by assumption) (.cons _ _ .nil))
/-- one turn of _law_worths: the worths so far, the marks met, the step -/
noncomputable def wStep (σ : List Int × List Int × Int) (k : Int) : List Int × List Int × Int :=
  let met := if k = 0 then σ.2.1 else σ.2.1 ++ [k]
  let st := if k = 0 then σ.2.2 else if met = List.replicate met.length k then σ.2.2 else σ.2.2.fdiv 2
  (σ.1 ++ [σ.1.getLastD 0 + k * st], met, st)
noncomputable def wSt (ms : List Int) : List Int × List Int × Int := ms.foldl wStep ([0], [], 64)
theorem wSt_snoc (pre : List Int) (k : Int) : wSt (pre ++ [k]) = wStep (wSt pre) k := by unfold wSt; rw [List.foldl_append]; rfl
theorem fdiv2_le (c : Int) (h1 : 0 ≤ c) (h2 : c ≤ 64) : 0 ≤ c.fdiv 2 ∧ c.fdiv 2 ≤ 64 := by rw [Int.fdiv_eq_ediv_of_nonneg _ (by decide)]; lia
theorem wSt_len (pre : List Int) : (wSt pre).1.length = pre.length + 1 ∧ (wSt pre).2.1.length ≤ pre.length ∧ 0 ≤ (wSt pre).2.2 ∧ (wSt pre).2.2 ≤ 64 := by
  rw [← List.reverse_reverse pre]; generalize pre.reverse = q
  induction q with
  | nil => exact ⟨rfl, Nat.le_refl _, by decide, by decide⟩
  | cons k q ih =>
    rw [List.reverse_cons]; generalize q.reverse = pre at ih
    obtain ⟨i1, i2, i3, i4⟩ := ih
    have q := fdiv2_le _ i3 i4
    rw [wSt_snoc]
    unfold wStep
    refine ⟨by simp [i1], ?_, ?_, ?_⟩ <;> dsimp only <;> split <;> (try split) <;> first | (simp; lia) | lia
theorem last_getD (wo : List Int) (h : 0 < wo.length) : wo.getD (-1 + (wo.length : Int)).toNat 0 = wo.getLastD 0 := by
  have e : (-1 + (wo.length : Int)).toNat = wo.length - 1 := by
    cases hn : wo.length with
    | zero => rw [hn] at h; exact absurd h (Nat.lt_irrefl 0)
    | succ n => rw [Int.natCast_add, Int.add_comm (n : Int), ← Int.add_assoc]; exact (congrArg Int.toNat (Int.zero_add _)).trans (Int.toNat_natCast n)
  rw [e, List.getLastD_eq_getLast?, List.getLast?_eq_getElem?, List.getD_eq_getElem?_getD]
theorem worths_con (w : World) (mean : ExcName → Option Value) (mg mb : Str → Option Value) (rest : List (Addr × Obj)) (l : Addr) (vs : List Value) (nn : Nat) (ms : List Int) (hms : IntsAre vs ms) (hlen : ms.length ≤ 7) (hmk : ∀ k ∈ ms, -1 ≤ k ∧ k ≤ 1) :
    Con 12 w mean mg mb 231 ((l, PySem.W.listOf vs.toArray nn) :: rest) [.ref l] [] (fun s => True) (fun r nw => ∃ W ws n, r = .ref W ∧ IntsAre ws (wSt ms).1 ∧ (l < W ∧ AllLt W rest) ∧ nw = (W, PySem.W.listOf ws.toArray n) :: (l, PySem.W.listOf vs.toArray nn) :: rest) := by
  w_top off
  unfold Con; k_fill
  intro dp un gd cn cns cig cic cmo a' ccd cl outer A₀ base h₀ L m s Q E B F X N T hpre hd hu hret
  refine wpAny_call ?_
  k_dflt k_enter
  repeat' (first | (k_unfold; (try dsimp only)) | (k_end; kc_close) | (first | with_reducible ((with_reducible show wpAny _ _ (compareOp CmpOp.NotEq (Value.ref _) (Value.ref _)) _ _ _); (k_here; k_dflt (refine ne_intsK ⟨_, News.get (by assumption) (by k_mem), rfl, _, rfl⟩ (IntsAre.append (by assumption) (.cons _ _ .nil)) ⟨_, News.get (by assumption) (by k_mem), rfl, _, rfl⟩ (intsAre_rep _ _ _) (by ktr_units) ?_))) | with_reducible ((with_reducible show wpAny _ _ (binaryOp Operator.Mult (Value.ref _) (Value.int _ _)) _ _ _); (k_here; k_dflt (refine' mul1 ?k1 ?k2 ?k3 ?k4 ?_; (case k1 => k_asm); (case k2 => k_asm); (case k3 => k_mem); (case k4 => lia); k_whole); intro l'z9 h'z9 F'z9 N'z9 l1z9; (try k_lt l1z9); (try k_sweep))) | with_reducible ((with_reducible show wpAny _ _ (subscriptTail (Expr.Name _ _) (Expr.UnaryOp _ _ _) (Value.ref _) (Value.int _ _)) _ _ _); (k_here; k_dflt (refine item_list_ints_negR ⟨_, News.get (by assumption) (by k_mem), rfl, _, rfl⟩ (by assumption) (by decide) (by lia) (by decide) (fun t => ?_) (by with_unfolding_all rfl)))) | with_reducible ((with_reducible show wpAny _ _ (exec (Stmt.For (Expr.Name _ _) _ _ _ _) _) _ _ _); (k_here; k_dflt (refine wpAny_For ?_ (by intro _; with_unfolding_all rfl)))) | walk1) | (dsimp only; (first | with_reducible ((with_reducible show wpAny _ _ (compareOp CmpOp.NotEq (Value.ref _) (Value.ref _)) _ _ _); (k_here; k_dflt (refine ne_intsK ⟨_, News.get (by assumption) (by k_mem), rfl, _, rfl⟩ (IntsAre.append (by assumption) (.cons _ _ .nil)) ⟨_, News.get (by assumption) (by k_mem), rfl, _, rfl⟩ (intsAre_rep _ _ _) (by ktr_units) ?_))) | with_reducible ((with_reducible show wpAny _ _ (binaryOp Operator.Mult (Value.ref _) (Value.int _ _)) _ _ _); (k_here; k_dflt (refine' mul1 ?k1 ?k2 ?k3 ?k4 ?_; (case k1 => k_asm); (case k2 => k_asm); (case k3 => k_mem); (case k4 => lia); k_whole); intro l'z9 h'z9 F'z9 N'z9 l1z9; (try k_lt l1z9); (try k_sweep))) | with_reducible ((with_reducible show wpAny _ _ (subscriptTail (Expr.Name _ _) (Expr.UnaryOp _ _ _) (Value.ref _) (Value.int _ _)) _ _ _); (k_here; k_dflt (refine item_list_ints_negR ⟨_, News.get (by assumption) (by k_mem), rfl, _, rfl⟩ (by assumption) (by decide) (by lia) (by decide) (fun t => ?_) (by with_unfolding_all rfl)))) | with_reducible ((with_reducible show wpAny _ _ (exec (Stmt.For (Expr.Name _ _) _ _ _ _) _) _ _ _); (k_here; k_dflt (refine wpAny_For ?_ (by intro _; with_unfolding_all rfl)))) | walk1)) | (leave1; (try dsimp only)) | fail "no step")
  rename_i tk0 W hW lW Mt hM lM D hD lD h1 h2 h3 h4 F0 N0
  have N0' : News _ _ _ ((Mt, PySem.W.listOf #[] 0) :: (W, PySem.W.listOf #[Value.int 0 tk0] 0) :: (l, PySem.W.listOf vs.toArray nn) :: rest) := fun p hp => N0 p (List.mem_cons_of_mem _ hp)
  refine loop_int1 (x := PySem.Str.ofString "mark") (y := PySem.Str.ofString "step") (by rfl) (by rfl) (by rfl) (by decide) F0 N0' (by k_mem) hms (by rfl)
    (fun pre a nw => a = (wSt pre).2.2 ∧ ∃ ws bs na nb, IntsAre ws (wSt pre).1 ∧ IntsAre bs (wSt pre).2.1 ∧ nw = (Mt, PySem.W.listOf bs.toArray nb) :: (W, PySem.W.listOf ws.toArray na) :: (l, PySem.W.listOf vs.toArray nn) :: rest) ?h0 ?turn ?done
  (case h0 => exact ⟨rfl, [.int 0 tk0], [], 0, 0, .cons _ _ .nil, .nil, rfl⟩)
  (case turn =>
    rintro pre k post a ta nw h tk I oI t hspl ⟨rfl, ws, bs, na, nb, hws, hbs, rfl⟩ _ hI hn F1 N1
    clear F0 N0 N0'
    simp only [List.forall_mem_cons] at hI hn
    obtain ⟨i1, i2, i3, i4⟩ := hI
    have hpl : pre.length + 1 ≤ 7 := by rw [hspl] at hlen; simp only [List.length_append, List.length_cons] at hlen; exact Nat.le_trans (Nat.add_le_add_left (Nat.le_add_left 1 _) _) hlen
    obtain ⟨w1, w2, w3, w4⟩ := wSt_len pre
    have hbz := hbs.length
    have hwz := hws.length
    have hw0 : 0 < (wSt pre).1.length := by lia
    have hkm := hmk k (by rw [hspl]; simp)
    rw [wSt_snoc]
    generalize wSt pre = σ at *
    obtain ⟨wo, me, st⟩ := σ
    simp only at *
    clear hspl hms hlen hmk
    (repeat' ((fail_if_success (with_reducible show IntEnd _ _ _ _ _ _ _ _ _ _ _ _)); first | (k_unfold; (try dsimp only)) | (first | with_reducible ((with_reducible show wpAny _ _ (compareOp CmpOp.NotEq (Value.ref _) (Value.ref _)) _ _ _); (k_here; k_dflt (refine ne_intsK ⟨_, News.get (by assumption) (by k_mem), rfl, _, rfl⟩ (IntsAre.append (by assumption) (.cons _ _ .nil)) ⟨_, News.get (by assumption) (by k_mem), rfl, _, rfl⟩ (intsAre_rep _ _ _) (by ktr_units) ?_))) | with_reducible ((with_reducible show wpAny _ _ (binaryOp Operator.Mult (Value.ref _) (Value.int _ _)) _ _ _); (k_here; k_dflt (refine' mul1 ?k1 ?k2 ?k3 ?k4 ?_; (case k1 => k_asm); (case k2 => k_asm); (case k3 => k_mem); (case k4 => lia); k_whole); intro l'z9 h'z9 F'z9 N'z9 l1z9; (try k_lt l1z9); (try k_sweep))) | with_reducible ((with_reducible show wpAny _ _ (subscriptTail (Expr.Name _ _) (Expr.UnaryOp _ _ _) (Value.ref _) (Value.int _ _)) _ _ _); (k_here; k_dflt (refine item_list_ints_negR ⟨_, News.get (by assumption) (by k_mem), rfl, _, rfl⟩ (by assumption) (by decide) (by lia) (by decide) (fun t => ?_) (by with_unfolding_all rfl)))) | with_reducible ((with_reducible show wpAny _ _ (exec (Stmt.For (Expr.Name _ _) _ _ _ _) _) _ _ _); (k_here; k_dflt (refine wpAny_For ?_ (by intro _; with_unfolding_all rfl)))) | walk1) | (dsimp only; (first | with_reducible ((with_reducible show wpAny _ _ (compareOp CmpOp.NotEq (Value.ref _) (Value.ref _)) _ _ _); (k_here; k_dflt (refine ne_intsK ⟨_, News.get (by assumption) (by k_mem), rfl, _, rfl⟩ (IntsAre.append (by assumption) (.cons _ _ .nil)) ⟨_, News.get (by assumption) (by k_mem), rfl, _, rfl⟩ (intsAre_rep _ _ _) (by ktr_units) ?_))) | with_reducible ((with_reducible show wpAny _ _ (binaryOp Operator.Mult (Value.ref _) (Value.int _ _)) _ _ _); (k_here; k_dflt (refine' mul1 ?k1 ?k2 ?k3 ?k4 ?_; (case k1 => k_asm); (case k2 => k_asm); (case k3 => k_mem); (case k4 => lia); k_whole); intro l'z9 h'z9 F'z9 N'z9 l1z9; (try k_lt l1z9); (try k_sweep))) | with_reducible ((with_reducible show wpAny _ _ (subscriptTail (Expr.Name _ _) (Expr.UnaryOp _ _ _) (Value.ref _) (Value.int _ _)) _ _ _); (k_here; k_dflt (refine item_list_ints_negR ⟨_, News.get (by assumption) (by k_mem), rfl, _, rfl⟩ (by assumption) (by decide) (by lia) (by decide) (fun t => ?_) (by with_unfolding_all rfl)))) | with_reducible ((with_reducible show wpAny _ _ (exec (Stmt.For (Expr.Name _ _) _ _ _ _) _) _ _ _); (k_here; k_dflt (refine wpAny_For ?_ (by intro _; with_unfolding_all rfl)))) | walk1)) | (leave1; try dsimp only)))
    all_goals (rename Fr _ _ _ _ => F2; rename News _ _ _ _ => N2; simp only [List.push_toArray, last_getD wo hw0] at N2)
    · rename (_ = List.replicate _ _) => hq
      rename (k ≠ 0) => hk
      refine IntEnd.mk F2 (fun p hp => N2 p (List.mem_cons_of_mem _ (List.mem_cons_of_mem _ hp))) (by rfl) (fun z h1 h2 => by (repeat (refine (if_neg (by assumption)).trans ?_)); rfl) (by simp) (by simpa using hn) ⟨by simp [wStep, hk, hq], _, _, _, _, ?_, ?_, rfl⟩
      · simp only [wStep, hk, hq, if_false, if_true, List.length_replicate, List.length_append, List.length_cons, List.length_nil]
        exact IntsAre.append hws (.cons _ _ .nil)
      · simp only [wStep, hk, if_false]
        exact IntsAre.append hbs (.cons _ _ .nil)
    · rename (¬ (_ = List.replicate _ _)) => hq
      rename (k ≠ 0) => hk
      refine IntEnd.mk F2 (fun p hp => N2 p (List.mem_cons_of_mem _ (List.mem_cons_of_mem _ hp))) (by rfl) (fun z h1 h2 => by (repeat (refine (if_neg (by assumption)).trans ?_)); rfl) (by simp) (by simpa using hn) ⟨by simp [wStep, hk, hq], _, _, _, _, ?_, ?_, rfl⟩
      · simp only [wStep, hk, hq, if_false, if_true, List.length_replicate, List.length_append, List.length_cons, List.length_nil]
        exact IntsAre.append hws (.cons _ _ .nil)
      · simp only [wStep, hk, if_false]
        exact IntsAre.append hbs (.cons _ _ .nil)
    · rename (k = 0) => hk
      subst hk
      refine IntEnd.mk F2 N2 (by rfl) (fun z h1 h2 => by (repeat (refine (if_neg (by assumption)).trans ?_)); rfl) (by simp) (by simpa using hn) ⟨by simp [wStep], _, _, _, _, ?_, ?_, rfl⟩
      · simp only [wStep, if_true]
        exact IntsAre.append hws (.cons _ _ .nil)
      · simp only [wStep, if_true]
        exact hbs)
  (case done =>
    rintro a ta u nw h tk ⟨rfl, ws, bs, na, nb, hws, hbs, rfl⟩ F1 N1 _
    clear F0 N0 N0'
    repeat' (first | (k_unfold; (try dsimp only)) | (k_end; kc_close) | (first | with_reducible ((with_reducible show wpAny _ _ (compareOp CmpOp.NotEq (Value.ref _) (Value.ref _)) _ _ _); (k_here; k_dflt (refine ne_intsK ⟨_, News.get (by assumption) (by k_mem), rfl, _, rfl⟩ (IntsAre.append (by assumption) (.cons _ _ .nil)) ⟨_, News.get (by assumption) (by k_mem), rfl, _, rfl⟩ (intsAre_rep _ _ _) (by ktr_units) ?_))) | with_reducible ((with_reducible show wpAny _ _ (binaryOp Operator.Mult (Value.ref _) (Value.int _ _)) _ _ _); (k_here; k_dflt (refine' mul1 ?k1 ?k2 ?k3 ?k4 ?_; (case k1 => k_asm); (case k2 => k_asm); (case k3 => k_mem); (case k4 => lia); k_whole); intro l'z9 h'z9 F'z9 N'z9 l1z9; (try k_lt l1z9); (try k_sweep))) | with_reducible ((with_reducible show wpAny _ _ (subscriptTail (Expr.Name _ _) (Expr.UnaryOp _ _ _) (Value.ref _) (Value.int _ _)) _ _ _); (k_here; k_dflt (refine item_list_ints_negR ⟨_, News.get (by assumption) (by k_mem), rfl, _, rfl⟩ (by assumption) (by decide) (by lia) (by decide) (fun t => ?_) (by with_unfolding_all rfl)))) | with_reducible ((with_reducible show wpAny _ _ (exec (Stmt.For (Expr.Name _ _) _ _ _ _) _) _ _ _); (k_here; k_dflt (refine wpAny_For ?_ (by intro _; with_unfolding_all rfl)))) | walk1) | (dsimp only; (first | with_reducible ((with_reducible show wpAny _ _ (compareOp CmpOp.NotEq (Value.ref _) (Value.ref _)) _ _ _); (k_here; k_dflt (refine ne_intsK ⟨_, News.get (by assumption) (by k_mem), rfl, _, rfl⟩ (IntsAre.append (by assumption) (.cons _ _ .nil)) ⟨_, News.get (by assumption) (by k_mem), rfl, _, rfl⟩ (intsAre_rep _ _ _) (by ktr_units) ?_))) | with_reducible ((with_reducible show wpAny _ _ (binaryOp Operator.Mult (Value.ref _) (Value.int _ _)) _ _ _); (k_here; k_dflt (refine' mul1 ?k1 ?k2 ?k3 ?k4 ?_; (case k1 => k_asm); (case k2 => k_asm); (case k3 => k_mem); (case k4 => lia); k_whole); intro l'z9 h'z9 F'z9 N'z9 l1z9; (try k_lt l1z9); (try k_sweep))) | with_reducible ((with_reducible show wpAny _ _ (subscriptTail (Expr.Name _ _) (Expr.UnaryOp _ _ _) (Value.ref _) (Value.int _ _)) _ _ _); (k_here; k_dflt (refine item_list_ints_negR ⟨_, News.get (by assumption) (by k_mem), rfl, _, rfl⟩ (by assumption) (by decide) (by lia) (by decide) (fun t => ?_) (by with_unfolding_all rfl)))) | with_reducible ((with_reducible show wpAny _ _ (exec (Stmt.For (Expr.Name _ _) _ _ _ _) _) _ _ _); (k_here; k_dflt (refine wpAny_For ?_ (by intro _; with_unfolding_all rfl)))) | walk1)) | (leave1; (try dsimp only)) | fail "no step")
    rename News _ _ _ _ => N2
    exact hret _ _ _ _ (by k_asm) (fun p hp => N2 p (List.mem_cons_of_mem _ hp)) ⟨W, ws, na, rfl, hws, lW, rfl⟩)
end Mine
end

section
open PySem PySem.W PyProof.Rows PySem.Spec PySem.Calls
set_option maxRecDepth 100000
set_option maxHeartbeats 4000000
namespace Mine
/-- all runs of at most n signs behind a state: the floats keep their word, the last place is the last worth -/
noncomputable def dfs : Nat → PSt → List Int × List Int × Int → Bool
  | 0, σ, ω => pOkStep σ && (σ.out.getLastD 0 == (ω.1.getLastD 0).fmod 1536)
  | n + 1, σ, ω => pOkStep σ && (σ.out.getLastD 0 == (ω.1.getLastD 0).fmod 1536) && dfs n (pStep σ 1) (wStep ω 1) && dfs n (pStep σ (-1)) (wStep ω (-1))
theorem dfs_all : ∀ (l : List Int) (n : Nat) (σ : PSt) (ω : List Int × List Int × Int), dfs n σ ω = true → l.length ≤ n → (∀ k ∈ l, k = 1 ∨ k = -1) →
    pOkStep (l.foldl pStep σ) = true ∧ (l.foldl pStep σ).out.getLastD 0 = ((l.foldl wStep ω).1.getLastD 0).fmod 1536
  | [], n, σ, ω, h, _, _ => by
    cases n with
    | zero => simp only [dfs, Bool.and_eq_true, beq_iff_eq] at h; exact h
    | succ n => simp only [dfs, Bool.and_eq_true, beq_iff_eq] at h; exact ⟨h.1.1.1, h.1.1.2⟩
  | k :: l, 0, _, _, _, hl, _ => by simp at hl
  | k :: l, n + 1, σ, ω, h, hl, hk => by
    simp only [dfs, Bool.and_eq_true] at h
    have hl' : l.length ≤ n := by simpa using hl
    have hk' : ∀ x ∈ l, x = 1 ∨ x = -1 := fun x hx => hk x (by simp [hx])
    rcases hk k (by simp) with rfl | rfl
    · exact dfs_all l n _ _ h.1.2 hl' hk'
    · exact dfs_all l n _ _ h.2 hl' hk'
structure Same (σ τ : PSt) : Prop where
  lo : σ.lo = τ.lo
  hi : σ.hi = τ.hi
  wh : σ.wh = τ.wh
  pa : σ.pa = τ.pa
  out : σ.out.getLastD 0 = τ.out.getLastD 0
theorem last_snoc (l : List Int) (x : Int) : (l ++ [x]).getLastD 0 = x := by simp [List.getLastD_eq_getLast?]
theorem Same.step {σ τ : PSt} (h : Same σ τ) (k : Int) : Same (pStep σ k) (pStep τ k) := by
  obtain ⟨lo, hi, wh, pa, out⟩ := σ
  obtain ⟨lo', hi', wh', pa', out'⟩ := τ
  obtain ⟨h1, h2, h3, h4, h5⟩ := h
  simp only at h1 h2 h3 h4 h5
  subst h1 h2 h3 h4
  unfold pStep
  dsimp only
  split
  · split
    · exact ⟨rfl, rfl, rfl, rfl, by simp only [last_snoc]⟩
    · exact ⟨rfl, rfl, rfl, rfl, by simp only [last_snoc]⟩
  · exact ⟨rfl, rfl, rfl, rfl, by simp only [last_snoc]⟩
/-- the paint is that of the count while a bound lacks; the last place is the paint's -/
structure PInv (σ : PSt) : Prop where
  pa : σ.lo = none ∨ σ.hi = none → σ.pa = some (hsvF (pNum (σ.wh + 24)) 4607182418800017408 4607182418800017408)
  out : σ.out.getLastD 0 = pRnd (σ.pa.getD (0, 0, 0))
theorem PInv.step {σ : PSt} (h : PInv σ) (k : Int) : PInv (pStep σ k) := by
  obtain ⟨lo, hi, wh, pa, out⟩ := σ
  unfold pStep
  dsimp only
  split
  · rename_i e1 e2
    split
    · refine ⟨fun q => ?_, by simp only [last_snoc]⟩
      rw [e1, e2] at q
      rcases q with q | q <;> cases q
    · refine ⟨fun q => ?_, by simp only [last_snoc]; rfl⟩
      simp only [e1, e2] at q
      rcases q with q | q <;> cases q
  · exact ⟨fun _ => rfl, by simp only [last_snoc]; rfl⟩
theorem PInv.zero {σ : PSt} (h : PInv σ) : Same (pStep σ 0) σ := by
  obtain ⟨lo, hi, wh, pa, out⟩ := σ
  obtain ⟨h1, h2⟩ := h
  simp only at h1 h2
  unfold pStep
  dsimp only
  rw [if_neg (by decide), if_neg (by decide)]
  split
  · rw [if_pos rfl]
    exact ⟨rfl, rfl, rfl, rfl, by simp only [last_snoc]; exact h2.symm⟩
  · rename_i e
    have hn : lo = none ∨ hi = none := by
      cases lo with
      | none => exact .inl rfl
      | some x => cases hi with
        | none => exact .inr rfl
        | some y => exact (e x y rfl rfl).elim
    have h3 := h1 hn
    refine ⟨rfl, rfl, by simp, ?_, ?_⟩
    · simp only [Int.add_zero]; exact h3.symm
    · simp only [last_snoc, Int.add_zero]; rw [h2, h3]; rfl
noncomputable def nz (l : List Int) : List Int := l.filter (· ≠ 0)
theorem nz_snoc (l : List Int) (k : Int) : nz (l ++ [k]) = if k = 0 then nz l else nz l ++ [k] := by
  unfold nz
  rw [List.filter_append]
  by_cases h : k = 0 <;> simp [h]
theorem pSt0_snoc (l : List Int) (k : Int) : pSt (0 :: (l ++ [k])) = pStep (pSt (0 :: l)) k := by rw [← List.cons_append, pSt_snoc]
theorem inv0 : PInv (pSt [0]) := ⟨fun _ => rfl, rfl⟩
theorem inv_all (l : List Int) : PInv (pSt (0 :: l)) := by
  rw [← List.reverse_reverse l]
  generalize l.reverse = q
  induction q with
  | nil => exact inv0
  | cons k q ih => rw [List.reverse_cons, pSt0_snoc]; exact ih.step k
theorem Same.trans {a b c : PSt} (h : Same a b) (g : Same b c) : Same a c := ⟨h.lo.trans g.lo, h.hi.trans g.hi, h.wh.trans g.wh, h.pa.trans g.pa, h.out.trans g.out⟩
theorem same_nz (l : List Int) : Same (pSt (0 :: l)) (pSt (0 :: nz l)) := by
  rw [← List.reverse_reverse l]
  generalize l.reverse = q
  induction q with
  | nil => exact ⟨rfl, rfl, rfl, rfl, rfl⟩
  | cons k q ih =>
    rw [List.reverse_cons, pSt0_snoc, nz_snoc]
    by_cases h : k = 0
    · subst h; rw [if_pos rfl]; exact (inv_all _).zero.trans ih
    · rw [if_neg h, pSt0_snoc]; exact ih.step k
theorem wst_nz (l : List Int) : (wSt l).1.getLastD 0 = (wSt (nz l)).1.getLastD 0 ∧ (wSt l).2 = (wSt (nz l)).2 := by
  rw [← List.reverse_reverse l]
  generalize l.reverse = q
  induction q with
  | nil => exact ⟨rfl, rfl⟩
  | cons k q ih =>
    rw [List.reverse_cons, wSt_snoc, nz_snoc]
    by_cases h : k = 0
    · subst h
      rw [if_pos rfl]
      unfold wStep
      simp only [if_true, last_snoc, Int.zero_mul, Int.add_zero]
      exact ih
    · rw [if_neg h, wSt_snoc]
      unfold wStep
      simp only [h, if_false, last_snoc]
      rw [ih.1, ih.2]
      exact ⟨rfl, rfl⟩
theorem ok_same {σ τ : PSt} (h : Same σ τ) : pOkStep σ = pOkStep τ := by
  obtain ⟨lo, hi, wh, pa, out⟩ := σ
  obtain ⟨lo', hi', wh', pa', out'⟩ := τ
  obtain ⟨h1, h2, h3, h4, h5⟩ := h
  simp only at h1 h2 h3 h4
  subst h1 h2 h3 h4
  rfl
theorem dfs7 : dfs 7 (pSt [0]) (wSt []) = true := by decide +kernel
theorem all7 (l : List Int) (hl : l.length ≤ 7) (hk : ∀ k ∈ l, k = -1 ∨ k = 0 ∨ k = 1) : pOkStep (pSt (0 :: l)) = true ∧ (pSt (0 :: l)).out.getLastD 0 = ((wSt l).1.getLastD 0).fmod 1536 := by
  have h := dfs_all (nz l) 7 _ _ dfs7 (Nat.le_trans (List.length_filter_le ..) hl) fun k hk' => by
    have q := List.mem_filter.mp hk'
    rcases hk k q.1 with e | e | e
    · exact .inr e
    · exact absurd e (by simpa using q.2)
    · exact .inl e
  have e1 : (nz l).foldl pStep (pSt [0]) = pSt (0 :: nz l) := rfl
  have e2 : (nz l).foldl wStep (wSt []) = wSt (nz l) := rfl
  rw [e1, e2] at h
  refine ⟨(ok_same (same_nz l)).trans h.1, ?_⟩
  rw [(same_nz l).out, (wst_nz l).1]
  exact h.2
theorem pSt_out (l : List Int) (k : Int) : (pSt (0 :: (l ++ [k]))).out = (pSt (0 :: l)).out ++ [(pSt (0 :: (l ++ [k]))).out.getLastD 0] := by
  rw [pSt0_snoc]
  generalize pSt (0 :: l) = σ
  obtain ⟨lo, hi, wh, pa, out⟩ := σ
  unfold pStep
  dsimp only
  split
  · split <;> simp only [last_snoc]
  · simp only [last_snoc]
theorem places_worths (l : List Int) (hl : l.length ≤ 7) (hk : ∀ k ∈ l, k = -1 ∨ k = 0 ∨ k = 1) : (pSt (0 :: l)).out = (wSt l).1.map (·.fmod 1536) := by
  rw [← List.reverse_reverse l] at hl hk ⊢
  generalize l.reverse = q at hl hk ⊢
  induction q with
  | nil =>
    have h := (all7 [] (by simp) (by simp)).2
    have e : (pSt [0]).out = [(pSt [0]).out.getLastD 0] := rfl
    show (pSt [0]).out = _
    rw [e, h]; rfl
  | cons k q ih =>
    rw [List.reverse_cons] at hl hk ⊢
    have ih' := ih (by simp at hl ⊢; lia) fun x hx => hk x (by simp at hx ⊢; exact .inl hx)
    have h := (all7 _ hl hk).2
    rw [pSt_out, h, ih', wSt_snoc]
    unfold wStep
    simp only [last_snoc, List.map_append, List.map_cons, List.map_nil]
theorem places_ok (l : List Int) (hl : l.length ≤ 7) (hk : ∀ k ∈ l, k = -1 ∨ k = 0 ∨ k = 1) : ∀ i, i < l.length + 1 → pOkStep (pSt ((0 :: l).take (i + 1))) = true := by
  intro i _
  rw [List.take_succ_cons]
  exact (all7 _ (Nat.le_trans (by rw [List.length_take]; lia) hl) fun k h => hk k (List.mem_of_mem_take h)).1
end Mine
end

section
open PySem PySem.W PyProof.Rows PySem.Spec PySem.Calls
set_option maxRecDepth 100000
set_option maxHeartbeats 4000000
namespace Mine
theorem news_sub {h₀ h : Heap} {L : Addr} {a b : List (Addr × Obj)} (N : News h₀ L h a) (hs : ∀ p ∈ b, p ∈ a) : News h₀ L h b := fun p hp => N p (hs p hp)
theorem turnB3 (w : World) (mean : ExcName → Option Value) (mg mb : Str → Option Value) (B : Str → Option Value) (rest : List (Addr × Obj)) (c1 c2 c3 Rw Pc Ow : Addr) (wv pv : Array Value) (vs : List Value) (n1 n2 no : Nat) (ms : List Int) (hms : IntsAre vs ms) (hlen : ms.length ≤ 7) (hmk : ∀ k ∈ ms, k = -1 ∨ k = 0 ∨ k = 1)
    (hw : wv.size ≤ 100) (hpv : pv.size ≤ 100) (e1 : @Ne Nat Pc Rw) (e2 : @Ne Nat Ow Rw) (e3 : @Ne Nat Ow Pc) (r1 : ∀ y ∈ rest, y.1 ≠ Rw) (r2 : ∀ y ∈ rest, y.1 ≠ Pc) :
    SegC 40 w mean mg mb (cells3 c1 c2 c3) [stAt (forBody (stAt lawD.body 6)) 3, stAt (forBody (stAt lawD.body 6)) 4]
      (fun z => if z = Str.ofString "owners" then some (.ref Ow) else if z = Str.ofString "rows" then some (.ref Rw) else if z = Str.ofString "places" then some (.ref Pc) else B z)
      ((Rw, PySem.W.listOf wv n1) :: (Pc, PySem.W.listOf pv n2) :: (Ow, PySem.W.listOf vs.toArray no) :: rest)
      (fun f m' nw => f = .next ∧ ∃ Pl pls np n1' n2', (∀ z, m' z = if z = Str.ofString "owners" then some (.ref Ow) else if z = Str.ofString "rows" then some (.ref Rw) else if z = Str.ofString "places" then some (.ref Pc) else B z) ∧ IntsAre pls (pSt (0 :: ms)).out ∧
        (∀ y ∈ (Rw, PySem.W.listOf wv n1) :: (Pc, PySem.W.listOf pv n2) :: (Ow, PySem.W.listOf vs.toArray no) :: rest, y.1 ≠ Pl) ∧
        nw = (Pl, PySem.W.listOf pls.toArray np) :: (Ow, PySem.W.listOf vs.toArray no) :: (Pc, PySem.W.listOf (pv.push (.ref Pl)) n2') :: (Rw, PySem.W.listOf (wv.push (.ref Ow)) n1') :: rest) := by
  w_top off
  unfold SegC; k_fill
  intro dp un gd a' ccd outer A₀ base h₀ L s Q E B' F X N T hd hu hret
  unfold stAt lawD lawQ
  dsimp only [List.getD, List.getElem?_cons_succ, List.getElem?_cons_zero, Option.getD, forBody, cells3]
  repeat' ((fail_if_success (with_reducible show wpAny _ _ (call (Value.ref 236) _) _ _ _)); first | (k_unfold; (try dsimp only)) | walk1 | (dsimp only; walk1) | (leave1; try dsimp only))
  rename Fr _ _ _ _ => F3
  rename News _ _ _ _ => N3
  have N3' : News h₀ L _ ((Ow, PySem.W.listOf vs.toArray no) :: (Pc, PySem.W.listOf pv n2) :: (Rw, PySem.W.listOf (wv.push (.ref Ow)) (n1 + 1)) :: rest) := news_sub N3 (by lcg_sub)
  refine' use (places_con w mean mg mb ((Pc, PySem.W.listOf pv n2) :: (Rw, PySem.W.listOf (wv.push (.ref Ow)) (n1 + 1)) :: rest) Ow vs no ms hms hlen hmk (places_ok ms hlen hmk)) ?hB F3 ?hX N3' ?hT ?hp ?hd ?hu ?_
  case hB => k_asm
  case hX => k_asm
  case hT => k_asm
  case hp => trivial
  case hd => ktr_room
  case hu => ktr_units
  intro r2 nw2 h2 tk2 F4 N4 hR2
  obtain ⟨Pl, pls, np, rfl, hI, ⟨l1, l2⟩, rfl⟩ := hR2
  clear F3 N3 N3'
  dsimp only
  generalize hpa : pls.toArray = pa at *
  have q1 : @Ne Nat Pl Pc := Ne.symm (allLt_ne l2 (Pc, PySem.W.listOf pv n2) (.head _))
  repeat' (first | (k_unfold; (try dsimp only)) | walk1 | (dsimp only; walk1) | (leave1; try dsimp only))
  rename Fr _ _ _ _ => F9
  rename News _ _ _ _ => N9
  refine hret _ _ _ _ _ F9 N9 ⟨rfl, Pl, pls, _, _, _, fun z => rfl, hI, ?_, by rw [← hpa]⟩
  refine List.forall_mem_cons.mpr ⟨allLt_ne l2 (Rw, PySem.W.listOf (wv.push (.ref Ow)) (n1 + 1)) (.tail _ (.head _)), List.forall_mem_cons.mpr ⟨Ne.symm q1, List.forall_mem_cons.mpr ⟨Nat.ne_of_lt l1, fun y hy => allLt_ne l2 y (.tail _ (.tail _ hy))⟩⟩⟩
end Mine
end

section
open PySem PySem.W PyProof.Rows PySem.Spec PySem.Calls
set_option maxRecDepth 100000
set_option maxHeartbeats 4000000
namespace Mine
/-- a stretch of the law's statements that reads the script -/
noncomputable abbrev SegH (n : Nat) (w : World) (mean : ExcName → Option Value) (mg mb : Str → Option Value) (cl : List (Str × Addr)) (Sc : Addr) (vs : List Value) (body : List Stmt) (m : Str → Option Value) (news : List (Addr × Obj))
    (Ret : Flow → (Str → Option Value) → List (Addr × Obj) → Prop) : Prop :=
  ∀ (dp un : Nat) (gd : Option (List Code)) (a : Addr) (ccd : Value) (outer : List Env) (A₀ : Around) (base h₀ : Heap) (L : Addr) (s : Shared) (Q : Flow → Shared → Prop) (E : Value → Shared → Prop), h₀.IsList Sc vs.toArray →
    Below A₀ base outer h₀ → Fr h₀ L s.heap m → (thr.heap_1_1 w.params).In h₀ → News h₀ L s.heap news →
    Top thr.view_1_2 (looseW thr.view_1_2 [Str.ofString "EXACT_TOKEN_TYPES", Str.ofString "tspecials", Str.ofString "_name_disallowed_re", Str.ofString "_value_disallowed_re", Str.ofString "_formatparam"]) mean mg mb h₀ →
    dp + n < recursionLimit → un + 10 * n < cLine →
    (∀ f m' news' h' tk', Fr h₀ L h' m' → News h₀ L h' news' → Ret f m' news' → Q f { s with heap := h', toks := tk' }) →
    wpAny (model PySem.Challenge.rw_sr0079_01.row.prog w) (ktrTop dp un gd (Str.ofString "law") lawD.scope L a ccd cl outer) (execs body (envX (Str.ofString "law") lawD.scope L a ccd cl)) Q E s
noncomputable def junkA (z : Str) : Prop := z = Str.ofString "stalk" ∨ z = Str.ofString "share" ∨ z = Str.ofString "level" ∨ z = Str.ofString "name" ∨ z = Str.ofString "sign" ∨ z = Str.ofString "turn" ∨ z = Str.ofString "text" ∨ z = Str.ofString "x"
theorem permQ0 {α : Type} {Tb Td H Du A0 A1 A2 M0 M1 M2 Tl Mk Sg D3 D2 D1 I : α} {e : List α} : ∀ p ∈ Tb :: Td :: H :: Du :: A0 :: A1 :: A2 :: M0 :: M1 :: M2 :: Tl :: Mk :: Sg :: D3 :: D2 :: D1 :: e, p ∈ D3 :: D2 :: D1 :: Tb :: Td :: H :: Du :: A0 :: M0 :: Tl :: Mk :: Sg :: A1 :: A2 :: M1 :: M2 :: I :: e :=
  (subC (memT (memT (memT memH))) (subC (memT (memT (memT (memT memH)))) (subC (memT (memT (memT (memT (memT memH))))) (subC (memT (memT (memT (memT (memT (memT memH)))))) (subC (memT (memT (memT (memT (memT (memT (memT memH))))))) (subC (memT (memT (memT (memT (memT (memT (memT (memT (memT (memT (memT (memT memH)))))))))))) (subC (memT (memT (memT (memT (memT (memT (memT (memT (memT (memT (memT (memT (memT memH))))))))))))) (subC (memT (memT (memT (memT (memT (memT (memT (memT memH)))))))) (subC (memT (memT (memT (memT (memT (memT (memT (memT (memT (memT (memT (memT (memT (memT memH)))))))))))))) (subC (memT (memT (memT (memT (memT (memT (memT (memT (memT (memT (memT (memT (memT (memT (memT memH))))))))))))))) (subC (memT (memT (memT (memT (memT (memT (memT (memT (memT memH))))))))) (subC (memT (memT (memT (memT (memT (memT (memT (memT (memT (memT memH)))))))))) (subC (memT (memT (memT (memT (memT (memT (memT (memT (memT (memT (memT memH))))))))))) (subC memH (subC (memT memH) (subC (memT (memT memH)) (subT (subT (subT (subT (subT (subT (subT (subT (subT (subT (subT (subT (subT (subT (subT (subT (subT subI)))))))))))))))))))))))))))))))))
theorem permQ1 {α : Type} {Tb Td H Du A0 A1 A2 M0 M1 M2 Tl Mk Sg D3 D2 D1 I : α} {e : List α} : ∀ p ∈ Tb :: Td :: H :: Du :: A0 :: A1 :: A2 :: M0 :: M1 :: M2 :: Tl :: Mk :: Sg :: D3 :: D2 :: D1 :: e, p ∈ D3 :: D2 :: D1 :: Tb :: Td :: H :: Du :: A1 :: M1 :: Tl :: Mk :: Sg :: A0 :: A2 :: M0 :: M2 :: I :: e :=
  (subC (memT (memT (memT memH))) (subC (memT (memT (memT (memT memH)))) (subC (memT (memT (memT (memT (memT memH))))) (subC (memT (memT (memT (memT (memT (memT memH)))))) (subC (memT (memT (memT (memT (memT (memT (memT (memT (memT (memT (memT (memT memH)))))))))))) (subC (memT (memT (memT (memT (memT (memT (memT memH))))))) (subC (memT (memT (memT (memT (memT (memT (memT (memT (memT (memT (memT (memT (memT memH))))))))))))) (subC (memT (memT (memT (memT (memT (memT (memT (memT (memT (memT (memT (memT (memT (memT memH)))))))))))))) (subC (memT (memT (memT (memT (memT (memT (memT (memT memH)))))))) (subC (memT (memT (memT (memT (memT (memT (memT (memT (memT (memT (memT (memT (memT (memT (memT memH))))))))))))))) (subC (memT (memT (memT (memT (memT (memT (memT (memT (memT memH))))))))) (subC (memT (memT (memT (memT (memT (memT (memT (memT (memT (memT memH)))))))))) (subC (memT (memT (memT (memT (memT (memT (memT (memT (memT (memT (memT memH))))))))))) (subC memH (subC (memT memH) (subC (memT (memT memH)) (subT (subT (subT (subT (subT (subT (subT (subT (subT (subT (subT (subT (subT (subT (subT (subT (subT subI)))))))))))))))))))))))))))))))))
theorem permQ2 {α : Type} {Tb Td H Du A0 A1 A2 M0 M1 M2 Tl Mk Sg D3 D2 D1 I : α} {e : List α} : ∀ p ∈ Tb :: Td :: H :: Du :: A0 :: A1 :: A2 :: M0 :: M1 :: M2 :: Tl :: Mk :: Sg :: D3 :: D2 :: D1 :: e, p ∈ D3 :: D2 :: D1 :: Tb :: Td :: H :: Du :: A2 :: M2 :: Tl :: Mk :: Sg :: A0 :: A1 :: M0 :: M1 :: I :: e :=
  (subC (memT (memT (memT memH))) (subC (memT (memT (memT (memT memH)))) (subC (memT (memT (memT (memT (memT memH))))) (subC (memT (memT (memT (memT (memT (memT memH)))))) (subC (memT (memT (memT (memT (memT (memT (memT (memT (memT (memT (memT (memT memH)))))))))))) (subC (memT (memT (memT (memT (memT (memT (memT (memT (memT (memT (memT (memT (memT memH))))))))))))) (subC (memT (memT (memT (memT (memT (memT (memT memH))))))) (subC (memT (memT (memT (memT (memT (memT (memT (memT (memT (memT (memT (memT (memT (memT memH)))))))))))))) (subC (memT (memT (memT (memT (memT (memT (memT (memT (memT (memT (memT (memT (memT (memT (memT memH))))))))))))))) (subC (memT (memT (memT (memT (memT (memT (memT (memT memH)))))))) (subC (memT (memT (memT (memT (memT (memT (memT (memT (memT memH))))))))) (subC (memT (memT (memT (memT (memT (memT (memT (memT (memT (memT memH)))))))))) (subC (memT (memT (memT (memT (memT (memT (memT (memT (memT (memT (memT memH))))))))))) (subC memH (subC (memT memH) (subC (memT (memT memH)) (subT (subT (subT (subT (subT (subT (subT (subT (subT (subT (subT (subT (subT (subT (subT (subT (subT subI)))))))))))))))))))))))))))))))))
theorem sort14 {a0 a1 a2 a3 a4 a5 a6 a7 a8 a9 b0 b1 b2 b3 : Nat} (h : a0 < a1 ∧ a1 < a2 ∧ a2 < a3 ∧ a3 < a4 ∧ a4 < a5 ∧ a5 < a6 ∧ a6 < a7 ∧ a7 < a8 ∧ a8 < a9 ∧ a9 < b0 ∧ b0 < b1 ∧ b1 < b2 ∧ b2 < b3) : List.Pairwise (· < ·) [a0, a1, a2, a3, a4, a5, a6, a7, a8, a9, b0, b1, b2, b3] :=
  (srtCons h.1 (srtCons h.2.1 (srtCons h.2.2.1 (srtCons h.2.2.2.1 (srtCons h.2.2.2.2.1 (srtCons h.2.2.2.2.2.1 (srtCons h.2.2.2.2.2.2.1 (srtCons h.2.2.2.2.2.2.2.1 (srtCons h.2.2.2.2.2.2.2.2.1 (srtCons h.2.2.2.2.2.2.2.2.2.1 (srtCons h.2.2.2.2.2.2.2.2.2.2.1 (srtCons h.2.2.2.2.2.2.2.2.2.2.2.1 (srtCons h.2.2.2.2.2.2.2.2.2.2.2.2 (List.pairwise_singleton _ _))))))))))))))
/-- what a turn of the law's first loop leaves -/
inductive JQ (w : World) (B : Str → Option Value) (Sc La Sg Td Tb H Du t0 t1 t2 Tl m0 m1 m2 Mk : Addr) (k0 : Tok) (sg : List (Str × Tok)) (yt : List Int) (tl : List (Addr × Obj)) (m' : Str → Option Value) (nw : List (Addr × Obj)) : Prop
  | mk (hs du : Array Value) (nh nd : Nat) (tvf mvf : Nat → Array Value) (ntf nmf : Nat → Nat) (ext : List (Addr × Obj))
    (e0 : (∀ z, ¬ junkA z → m' z = if z = Str.ofString "script" then some (.ref Sc) else if z = Str.ofString "lacking" then some (.ref La) else if z = Str.ofString "marks" then some (.ref Mk) else if z = Str.ofString "told" then some (.ref Tl) else if z = Str.ofString "due" then some (.ref Du) else if z = Str.ofString "table" then some (.ref Tb) else if z = Str.ofString "signs" then some (.ref Sg) else B z))
    (e1 : InvA yt hs du tvf mvf ext)
    (e2 : (∀ p ∈ ext, @LT.lt Nat _ Mk p.1))
    (e3 : nw = (Tb, instObj 220 Td) :: (Td, dictOf [{ hash := PyData.keyHash w.params (Str.ofString "_headers"), key := .str (Str.ofString "_headers") k0, val := .ref H }] 1) :: (H, PySem.W.listOf hs nh) :: (Du, PySem.W.listOf du nd) :: (t0, PySem.W.listOf (tvf 0) (ntf 0)) :: (t1, PySem.W.listOf (tvf 1) (ntf 1)) :: (t2, PySem.W.listOf (tvf 2) (ntf 2)) :: (m0, PySem.W.listOf (mvf 0) (nmf 0)) :: (m1, PySem.W.listOf (mvf 1) (nmf 1)) :: (m2, PySem.W.listOf (mvf 2) (nmf 2)) :: (Tl, PySem.W.listOf #[.ref t0, .ref t1, .ref t2] 0) :: (Mk, PySem.W.listOf #[.ref m0, .ref m1, .ref m2] 0) :: (Sg, PySem.W.listOf (strValues sg).toArray 0) :: (ext ++ tl)) : JQ w B Sc La Sg Td Tb H Du t0 t1 t2 Tl m0 m1 m2 Mk k0 sg yt tl m' nw
/-- what the law's first loop leaves -/
inductive RQ (w : World) (B : Str → Option Value) (Sc La Sg Td Tb H Du t0 t1 t2 Tl m0 m1 m2 Mk : Addr) (k0 : Tok) (sg : List (Str × Tok)) (yt : List Int) (tl : List (Addr × Obj)) (m' : Str → Option Value) (nw : List (Addr × Obj)) : Prop
  | mk (hs du : Array Value) (nh nd : Nat) (tvf mvf : Nat → Array Value) (ntf nmf : Nat → Nat) (ext : List (Addr × Obj)) (Li : Addr) (ws : List Value) (nw0 : Nat)
    (e0 : (∀ z, ¬ junkA z → m' z = if z = Str.ofString "script" then some (.ref Sc) else if z = Str.ofString "lacking" then some (.ref La) else if z = Str.ofString "marks" then some (.ref Mk) else if z = Str.ofString "told" then some (.ref Tl) else if z = Str.ofString "due" then some (.ref Du) else if z = Str.ofString "table" then some (.ref Tb) else if z = Str.ofString "signs" then some (.ref Sg) else B z))
    (e1 : InvA yt hs du tvf mvf ext)
    (e2 : (∀ p ∈ (Li, PySem.W.listOf ws.toArray nw0) :: ext, @LT.lt Nat _ Mk p.1))
    (e3 : nw = (Tb, instObj 220 Td) :: (Td, dictOf [{ hash := PyData.keyHash w.params (Str.ofString "_headers"), key := .str (Str.ofString "_headers") k0, val := .ref H }] 1) :: (H, PySem.W.listOf hs nh) :: (Du, PySem.W.listOf du nd) :: (t0, PySem.W.listOf (tvf 0) (ntf 0)) :: (t1, PySem.W.listOf (tvf 1) (ntf 1)) :: (t2, PySem.W.listOf (tvf 2) (ntf 2)) :: (m0, PySem.W.listOf (mvf 0) (nmf 0)) :: (m1, PySem.W.listOf (mvf 1) (nmf 1)) :: (m2, PySem.W.listOf (mvf 2) (nmf 2)) :: (Tl, PySem.W.listOf #[.ref t0, .ref t1, .ref t2] 0) :: (Mk, PySem.W.listOf #[.ref m0, .ref m1, .ref m2] 0) :: (Sg, PySem.W.listOf (strValues sg).toArray 0) :: (ext ++ (Li, PySem.W.listOf ws.toArray nw0) :: tl)) : RQ w B Sc La Sg Td Tb H Du t0 t1 t2 Tl m0 m1 m2 Mk k0 sg yt tl m' nw
theorem turnQ (w : World) (mean : ExcName → Option Value) (mg mb : Str → Option Value) (B : Str → Option Value) (rest0 : List (Addr × Obj)) (c1 c2 c3 Sc La Sg Td Tb H Du t0 t1 t2 Tl m0 m1 m2 Mk : Addr) (k0 : Tok) (sg : List (Str × Tok)) (vs ls : List Value) (xs : List Int) (nl : Nat) (hI : IntsAre vs xs) (hx : xs.length ≤ 63) (lk : List Int) (hlk : lk.length = 7) (hIl : IntsAre ls lk) (hsg : StrsAre (strValues sg) signs48)
    (ho : @LT.lt Nat _ Sg La ∧ @LT.lt Nat _ La Td ∧ @LT.lt Nat _ Td Tb ∧ @LT.lt Nat _ Tb H ∧ @LT.lt Nat _ H Du ∧ @LT.lt Nat _ Du t0 ∧ @LT.lt Nat _ t0 t1 ∧ @LT.lt Nat _ t1 t2 ∧ @LT.lt Nat _ t2 Tl ∧ @LT.lt Nat _ Tl m0 ∧ @LT.lt Nat _ m0 m1 ∧ @LT.lt Nat _ m1 m2 ∧ @LT.lt Nat _ m2 Mk) (hr : ∀ p ∈ rest0, @LT.lt Nat _ p.1 Sg) :
    SegH 60 w mean mg mb (cells3 c1 c2 c3) Sc vs [stAt lawD.body 3]
      (fun z => if z = Str.ofString "script" then some (.ref Sc) else if z = Str.ofString "lacking" then some (.ref La) else if z = Str.ofString "marks" then some (.ref Mk) else if z = Str.ofString "told" then some (.ref Tl) else if z = Str.ofString "due" then some (.ref Du) else if z = Str.ofString "table" then some (.ref Tb) else if z = Str.ofString "signs" then some (.ref Sg) else B z)
      ((Tb, instObj 220 Td) :: (Td, dictOf [{ hash := PyData.keyHash w.params (Str.ofString "_headers"), key := .str (Str.ofString "_headers") k0, val := .ref H }] 1) :: (H, PySem.W.listOf #[] 0) :: (Du, PySem.W.listOf #[] 0) :: (t0, PySem.W.listOf #[] 0) :: (t1, PySem.W.listOf #[] 0) :: (t2, PySem.W.listOf #[] 0) :: (m0, PySem.W.listOf #[] 0) :: (m1, PySem.W.listOf #[] 0) :: (m2, PySem.W.listOf #[] 0) :: (Tl, PySem.W.listOf #[.ref t0, .ref t1, .ref t2] 0) :: (Mk, PySem.W.listOf #[.ref m0, .ref m1, .ref m2] 0) :: (Sg, PySem.W.listOf (strValues sg).toArray 0) :: (La, PySem.W.listOf ls.toArray nl) :: rest0)
      (fun f m' nw => f = .next ∧ RQ w B Sc La Sg Td Tb H Du t0 t1 t2 Tl m0 m1 m2 Mk k0 sg (xs.take 7 ++ lk.drop (xs.take 7).length) ((La, PySem.W.listOf ls.toArray nl) :: rest0) m' nw) := by
  w_top off
  generalize hrest : (La, PySem.W.listOf ls.toArray nl) :: rest0 = rest at *
  have hLa : (La, PySem.W.listOf ls.toArray nl) ∈ rest := hrest ▸ .head _
  have hrr : ∀ p ∈ rest, @LT.lt Nat _ p.1 Td := by
    rw [← hrest]
    refine List.forall_mem_cons.mpr ⟨ho.2.1, fun p hp => Nat.lt_trans (hr p hp) (Nat.lt_trans ho.1 ho.2.1)⟩
  unfold SegH; k_fill
  intro dp un gd a' ccd outer A₀ base h₀ L s Q E hL B' F X N T hd hu hret
  unfold stAt lawD lawQ
  have N' : News h₀ L s.heap ((La, PySem.W.listOf ls.toArray nl) :: (Tb, instObj 220 Td) :: (Td, dictOf [{ hash := PyData.keyHash w.params (Str.ofString "_headers"), key := .str (Str.ofString "_headers") k0, val := .ref H }] 1) :: (H, PySem.W.listOf #[] 0) :: (Du, PySem.W.listOf #[] 0) :: (t0, PySem.W.listOf #[] 0) :: (t1, PySem.W.listOf #[] 0) :: (t2, PySem.W.listOf #[] 0) :: (m0, PySem.W.listOf #[] 0) :: (m1, PySem.W.listOf #[] 0) :: (m2, PySem.W.listOf #[] 0) :: (Tl, PySem.W.listOf #[.ref t0, .ref t1, .ref t2] 0) :: (Mk, PySem.W.listOf #[.ref m0, .ref m1, .ref m2] 0) :: (Sg, PySem.W.listOf (strValues sg).toArray 0) :: rest) := news_sub N (List.forall_mem_cons.mpr ⟨by repeat (first | exact hLa | refine List.Mem.tail _ ?_), fun p hp => hp⟩)
  clear N
  dsimp only [List.getD, List.getElem?_cons_succ, List.getElem?_cons_zero, Option.getD, forBody, cells3]
  repeat' ((fail_if_success (with_reducible show wpAny _ _ (subscriptTail _ (PySem.Expr.Slice (some _) none none _) (Value.ref _) (Value.ref _)) _ _ _)); first | (k_unfold; (try dsimp only)) | (first | with_reducible (k_here; (with_reducible show wpAny _ _ (call (Value.builtin _) [Value.ref _]) _ _ _); (with_unfolding_all refine' len_ints_fit ?k1 ?k2 ?k3 ?_; (case k1 => exact News.isList (by k_asm) (by k_mem)); (case k2 => with_reducible assumption); (case k3 => lia); k_whole)) | with_reducible ((with_reducible show wpAny _ _ (exec (Stmt.For (Expr.Name _ _) _ _ _ _) _) _ _ _); (k_here; k_dflt (refine wpAny_For ?_ (by intro _; with_unfolding_all rfl)))) | walk1) | (dsimp only; (first | with_reducible (k_here; (with_reducible show wpAny _ _ (call (Value.builtin _) [Value.ref _]) _ _ _); (with_unfolding_all refine' len_ints_fit ?k1 ?k2 ?k3 ?_; (case k1 => exact News.isList (by k_asm) (by k_mem)); (case k2 => with_reducible assumption); (case k3 => lia); k_whole)) | with_reducible ((with_reducible show wpAny _ _ (exec (Stmt.For (Expr.Name _ _) _ _ _ _) _) _ _ _); (k_here; k_dflt (refine wpAny_For ?_ (by intro _; with_unfolding_all rfl)))) | walk1)) | (leave1; try dsimp only))
  refine' kmk_slice_ints ?F ?N ?l ?ppp ?qqq ?i ?m ?c ?xx ?s ?t ?z
  case F => k_asm
  case N => k_asm
  case l => exact News.isList (by k_asm) (by k_mem)
  case ppp => kmk_part
  case qqq => kmk_part
  case i => with_reducible assumption
  case m => exact kmk_from (by with_reducible assumption) (by lia)
  case c => kmk_len
  case s => with_unfolding_all rfl
  case t => kmk_pure
  case z => (refine kmk_sz (by with_reducible assumption) ?_; rw [PySem.sizeLine_eq]; lia)
  case xx =>
    intro D1 ws1 h1 F1 N1 l1 hI1 hC1 hL1
    dsimp only
    repeat' ((fail_if_success (with_reducible show wpAny _ _ (pyIter _) _ _ _)); first | (k_unfold; (try dsimp only)) | (first | with_reducible (k_here; (with_reducible show wpAny _ _ (call (Value.builtin _) [Value.ref _]) _ _ _); (with_unfolding_all refine' len_ints_fit ?k1 ?k2 ?k3 ?_; (case k1 => exact News.isList (by k_asm) (by k_mem)); (case k2 => with_reducible assumption); (case k3 => lia); k_whole)) | with_reducible ((with_reducible show wpAny _ _ (exec (Stmt.For (Expr.Name _ _) _ _ _ _) _) _ _ _); (k_here; k_dflt (refine wpAny_For ?_ (by intro _; with_unfolding_all rfl)))) | walk1) | (dsimp only; (first | with_reducible (k_here; (with_reducible show wpAny _ _ (call (Value.builtin _) [Value.ref _]) _ _ _); (with_unfolding_all refine' len_ints_fit ?k1 ?k2 ?k3 ?_; (case k1 => exact News.isList (by k_asm) (by k_mem)); (case k2 => with_reducible assumption); (case k3 => lia); k_whole)) | with_reducible ((with_reducible show wpAny _ _ (exec (Stmt.For (Expr.Name _ _) _ _ _ _) _) _ _ _); (k_here; k_dflt (refine wpAny_For ?_ (by intro _; with_unfolding_all rfl)))) | walk1)) | (leave1; try dsimp only))
    rename Fr _ _ _ _ => F2
    rename News _ _ _ _ => N2
    rename (IntsAre _ (_ ++ _)) => hI2
    rename_i Li ws _ lL
    have lM : @LT.lt Nat _ Mk Li := by first | exact lL.1 | exact lL.2.1 | exact lL.2.2.1 | exact lL.2.2.2.1 | exact lL.2.2.2.2.1 | exact lL.2.2.2.2.2.1 | exact lL.2.2.2.2.2.2.1 | exact lL.2.2.2.2.2.2.2.1 | exact lL.2.2.2.2.2.2.2.2.1 | exact lL.2.2.2.2.2.2.2.2.2.1 | exact lL.2.2.2.2.2.2.2.2.2.2.1 | exact lL.2.2.2.2.2.2.2.2.2.2.2.1 | exact lL.2.2.2.2.2.2.2.2.2.2.2.2.1 | exact lL.2.2.2.2.2.2.2.2.2.2.2.2.2.1 | exact lL.2.2.2.2.2.2.2.2.2.2.2.2.2.2.1 | exact lL.2.2.2.2.2.2.2.2.2.2.2.2.2.2.2.1 | exact lL.2.2.2.2.2.2.2.2.2.2.2.2.2.2.2.2.1 | exact lL.2.2.2.2.2.2.2.2.2.2.2.2.2.2.2.2.2.1 | exact lL.2.2.2.2.2.2.2.2.2.2.2.2.2.2.2.2.2.2.1 | exact lL.2.2.2.2.2.2.2.2.2.2.2.2.2.2.2.2.2.2.2.1 | exact lL.2.2.2.2.2.2.2.2.2.2.2.2.2.2.2.2.2.2.2.2.1 | exact lL.2.2.2.2.2.2.2.2.2.2.2.2.2.2.2.2.2.2.2.2.2.1 | exact lL.2.2.2.2.2.2.2.2.2.2.2.2.2.2.2.2.2.2.2.2.2.2.1 | exact lL.2.2.2.2.2.2.2.2.2.2.2.2.2.2.2.2.2.2.2.2.2.2.2.1 | lia
    have hys : (xs.take 7 ++ lk.drop (xs.take 7).length).length = 7 := by
      exact seven xs lk (by assumption)
    rw [Int.toNat_natCast] at hI2
    generalize xs.take 7 ++ lk.drop (xs.take 7).length = ys at hI2 hys hret ⊢
    clear hI1 hC1 hL1 l1 lL
    dsimp only at F2 N2 ⊢
    refine loop_list (nn := 0) (items := ws.toArray) (by rfl) F2 (news := (Tb, instObj 220 Td) :: (Td, dictOf [{ hash := PyData.keyHash w.params (Str.ofString "_headers"), key := .str (Str.ofString "_headers") k0, val := .ref H }] 1) :: (H, PySem.W.listOf #[] 0) :: (Du, PySem.W.listOf #[] 0) :: (t0, PySem.W.listOf #[] 0) :: (t1, PySem.W.listOf #[] 0) :: (t2, PySem.W.listOf #[] 0) :: (m0, PySem.W.listOf #[] 0) :: (m1, PySem.W.listOf #[] 0) :: (m2, PySem.W.listOf #[] 0) :: (Tl, PySem.W.listOf #[.ref t0, .ref t1, .ref t2] 0) :: (Mk, PySem.W.listOf #[.ref m0, .ref m1, .ref m2] 0) :: (Sg, PySem.W.listOf (strValues sg).toArray 0) :: ([] ++ (Li, PySem.W.listOf ws.toArray 0) :: rest)) (news_sub N2 ?sub0) ?li (fun i m' nw => JQ w B Sc La Sg Td Tb H Du t0 t1 t2 Tl m0 m1 m2 Mk k0 sg (ys.take i) ((Li, PySem.W.listOf ws.toArray 0) :: rest) m' nw) ?h0 ?turn ?done
    case sub0 => rw [List.nil_append]; lcg_sub
    case li => rw [List.nil_append]; k_mem
    case h0 => exact ⟨#[], #[], 0, 0, fun _ => #[], fun _ => #[], fun _ => 0, fun _ => 0, [], fun z _ => rfl, InvA.nil, (fun p hp => by cases hp), rfl⟩
    case turn =>
      intro i v m₁ nw h tk₁ I oI hv J0 hli hIl' hn F3 N3
      k_fold
      obtain ⟨hs, du, nh, nd, tvf, mvf, ntf, nmf, ext, hm, inv, hext, rfl⟩ := J0
      obtain ⟨x, tx, rfl, hyx⟩ := hI2.at i v (by rw [← List.getElem?_toArray]; exact hv)
      have hi7 : i < ys.length := by
        rcases Nat.lt_or_ge i ys.length with q | q
        · exact q
        · rw [List.getElem?_eq_none q] at hyx; cases hyx
      have hMI : @LT.lt Nat _ Mk I := hIl' (Mk, PySem.W.listOf #[.ref m0, .ref m1, .ref m2] 0) (by rw [List.nil_append]; k_mem)
      have hpl : (ys.take i).length = i := by rw [List.length_take, Nat.min_eq_left (Nat.le_of_lt hi7)]
      have htk : ys.take (i + 1) = ys.take i ++ [x] := by rw [List.take_add_one, hyx]; rfl
      have zi : i ≤ 100 := Nat.le_trans (Nat.le_of_lt hi7) (by rw [hys]; decide)
      have zh : hs.size ≤ 100 := by rw [inv.h, hpl]; exact zi
      have zd : du.size ≤ 100 := by rw [inv.d, hpl]; exact zi
      have zf : ∀ k : Nat, (flX k (ys.take i)).length ≤ 7 := fun k => Nat.le_trans (List.length_filter_le ..) (by rw [hpl]; exact hys ▸ Nat.le_of_lt hi7)
      have zt : ∀ k, k < 3 → (tvf k).size ≤ 100 := fun k hk => by rw [inv.t k hk]; exact Nat.le_trans (zf k) (by decide)
      have zm : ∀ k, k < 3 → (mvf k).size ≤ 100 := fun k hk => by
        have q := (inv.m k hk).length
        rw [List.length_map, Array.length_toList] at q
        rw [q]; exact Nat.le_trans (zf k) (by decide)
      refine wpAny_assign_Name (wpAny_storeName_local (by rfl) F3.ns (fun h₂ hn₂ hs₂ => ?_) (by rfl))
      k_unfold
      dsimp only
      k_fold
      have F4' := F3.set hn₂ hs₂
      have N4 := N3.set hs₂
      clear F3 N3 hn₂ hs₂ F2 N2
      have F4 : Fr h₀ L h₂ (fun z => if z = Str.ofString "x" then some (.int x tx) else if z = Str.ofString "marks" then some (.ref Mk) else if z = Str.ofString "told" then some (.ref Tl) else if z = Str.ofString "due" then some (.ref Du) else if z = Str.ofString "table" then some (.ref Tb) else if z = Str.ofString "signs" then some (.ref Sg) else m₁ z) := by
        refine (congrArg (Fr h₀ L h₂) (funext fun z => ?_)).mp F4'
        by_cases w0 : z = Str.ofString "x"
        · subst w0; rfl
        by_cases w1 : z = Str.ofString "marks"
        · subst w1; exact hm _ (by unfold junkA; decide)
        by_cases w2 : z = Str.ofString "told"
        · subst w2; exact hm _ (by unfold junkA; decide)
        by_cases w3 : z = Str.ofString "due"
        · subst w3; exact hm _ (by unfold junkA; decide)
        by_cases w4 : z = Str.ofString "table"
        · subst w4; exact hm _ (by unfold junkA; decide)
        by_cases w5 : z = Str.ofString "signs"
        · subst w5; exact hm _ (by unfold junkA; decide)
        simp only [if_neg w0, if_neg w1, if_neg w2, if_neg w3, if_neg w4, if_neg w5]
      have bigE : ∀ p ∈ (I, oI) :: (ext ++ (Li, PySem.W.listOf ws.toArray 0) :: rest), @LT.lt Nat _ p.1 Td ∨ @LT.lt Nat _ Mk p.1 := by
        intro p hp
        simp only [List.mem_cons, List.mem_append] at hp
        rcases hp with rfl | hp | rfl | hp
        · exact .inr hMI
        · exact .inr (hext p hp)
        · exact .inr lM
        · exact .inl (hrr p hp)
      have b1 := stX_bd x
      have fin : ∀ (QR : Value → Shared → Prop) (QN : Shared → Prop) (s : Shared) (nw5 : List (Addr × Obj)) (h' : Heap) (m' : Str → Option Value) (tk' : Nat) (D1 D2 D3 : Addr) (a1 a2 a3 a4 a5 a6 a7 a8 : Tok) (nh' nd' : Nat) (ntf' nmf' : Nat → Nat), Fr h₀ L h' m' → (∀ z, ¬ junkA z → m' z = if z = Str.ofString "marks" then some (.ref Mk) else if z = Str.ofString "told" then some (.ref Tl) else if z = Str.ofString "due" then some (.ref Du) else if z = Str.ofString "table" then some (.ref Tb) else if z = Str.ofString "signs" then some (.ref Sg) else m₁ z) → @LT.lt Nat _ Mk D1 → @LT.lt Nat _ Mk D2 → @LT.lt Nat _ Mk D3 → (a3 ≠ 0 ∧ a4 ≠ 0 ∧ a5 ≠ 0) → News h₀ L h' nw5 → (I, oI) ∈ nw5 →
          (∀ p ∈ (Tb, instObj 220 Td) :: (Td, dictOf [{ hash := PyData.keyHash w.params (Str.ofString "_headers"), key := .str (Str.ofString "_headers") k0, val := .ref H }] 1) :: (H, PySem.W.listOf (hs.push (.ref D1)) nh') :: (Du, PySem.W.listOf (du.push (.ref D3)) nd') :: (t0, PySem.W.listOf ((fun k => if k = (stX x).toNat then (tvf k).push (.ref D2) else tvf k) 0) (ntf' 0)) :: (t1, PySem.W.listOf ((fun k => if k = (stX x).toNat then (tvf k).push (.ref D2) else tvf k) 1) (ntf' 1)) :: (t2, PySem.W.listOf ((fun k => if k = (stX x).toNat then (tvf k).push (.ref D2) else tvf k) 2) (ntf' 2)) :: (m0, PySem.W.listOf ((fun k => if k = (stX x).toNat then (mvf k).push (.int (mkX x) a8) else mvf k) 0) (nmf' 0)) :: (m1, PySem.W.listOf ((fun k => if k = (stX x).toNat then (mvf k).push (.int (mkX x) a8) else mvf k) 1) (nmf' 1)) :: (m2, PySem.W.listOf ((fun k => if k = (stX x).toNat then (mvf k).push (.int (mkX x) a8) else mvf k) 2) (nmf' 2)) :: (Tl, PySem.W.listOf #[.ref t0, .ref t1, .ref t2] 0) :: (Mk, PySem.W.listOf #[.ref m0, .ref m1, .ref m2] 0) :: (Sg, PySem.W.listOf (strValues sg).toArray 0) :: (((D3, tupS (nmX x) (txX x) a1 a2) :: (D2, tup3 (tldX x).1 (tldX x).2.1 (tldX x).2.2 a3 a4 a5) :: (D1, tupS (nmX x) (txX x) a6 a7) :: ext) ++ (Li, PySem.W.listOf ws.toArray 0) :: rest), p ∈ nw5) → (D1 ≠ I ∧ D2 ≠ I ∧ D3 ≠ I) → TurnEnd h₀ L I oI [(Li, PySem.W.listOf ws.toArray 0)] (fun m' nw => JQ w B Sc La Sg Td Tb H Du t0 t1 t2 Tl m0 m1 m2 Mk k0 sg (ys.take (i + 1)) ((Li, PySem.W.listOf ws.toArray 0) :: rest) m' nw) s (fun v s' => QR v s') (fun s' => QN s') .next { s with heap := h', toks := tk' } := by
        intro QR QN s nw5 h' m' tk' D1 D2 D3 a1 a2 a3 a4 a5 a6 a7 a8 nh' nd' ntf' nmf' F5 hm' d1 d2 d3 nz N5 hI5 hsub hD
        refine TurnEnd.mk (nw := (Tb, instObj 220 Td) :: (Td, dictOf [{ hash := PyData.keyHash w.params (Str.ofString "_headers"), key := .str (Str.ofString "_headers") k0, val := .ref H }] 1) :: (H, PySem.W.listOf (hs.push (.ref D1)) nh') :: (Du, PySem.W.listOf (du.push (.ref D3)) nd') :: (t0, PySem.W.listOf ((fun k => if k = (stX x).toNat then (tvf k).push (.ref D2) else tvf k) 0) (ntf' 0)) :: (t1, PySem.W.listOf ((fun k => if k = (stX x).toNat then (tvf k).push (.ref D2) else tvf k) 1) (ntf' 1)) :: (t2, PySem.W.listOf ((fun k => if k = (stX x).toNat then (tvf k).push (.ref D2) else tvf k) 2) (ntf' 2)) :: (m0, PySem.W.listOf ((fun k => if k = (stX x).toNat then (mvf k).push (.int (mkX x) a8) else mvf k) 0) (nmf' 0)) :: (m1, PySem.W.listOf ((fun k => if k = (stX x).toNat then (mvf k).push (.int (mkX x) a8) else mvf k) 1) (nmf' 1)) :: (m2, PySem.W.listOf ((fun k => if k = (stX x).toNat then (mvf k).push (.int (mkX x) a8) else mvf k) 2) (nmf' 2)) :: (Tl, PySem.W.listOf #[.ref t0, .ref t1, .ref t2] 0) :: (Mk, PySem.W.listOf #[.ref m0, .ref m1, .ref m2] 0) :: (Sg, PySem.W.listOf (strValues sg).toArray 0) :: (((D3, tupS (nmX x) (txX x) a1 a2) :: (D2, tup3 (tldX x).1 (tldX x).2.1 (tldX x).2.2 a3 a4 a5) :: (D1, tupS (nmX x) (txX x) a6 a7) :: ext) ++ (Li, PySem.W.listOf ws.toArray 0) :: rest)) F5 (news_sub N5 (List.forall_mem_cons.mpr ⟨hI5, hsub⟩)) (fun y hy => ?src) ?nI ⟨_, _, nh', nd', _, _, ntf', nmf', _, ?fr, htk ▸ inv.step x D1 D2 D3 a1 a2 a3 a4 a5 a6 a7 a8 nz, ?ex, rfl⟩
        case src => rw [List.mem_singleton.mp hy]; simp only [List.mem_cons, List.cons_append, List.mem_append, true_or, or_true]
        case nI =>
          intro y hy
          by_cases e1 : y = (D3, tupS (nmX x) (txX x) a1 a2)
          · subst e1; exact hD.2.2
          by_cases e2 : y = (D2, tup3 (tldX x).1 (tldX x).2.1 (tldX x).2.2 a3 a4 a5)
          · subst e2; exact hD.2.1
          by_cases e3 : y = (D1, tupS (nmX x) (txX x) a6 a7)
          · subst e3; exact hD.1
          have hlt : ∀ a : Addr, @LE.le Nat _ a Mk → a ≠ I := fun a q e => absurd hMI (Nat.not_lt.mpr (e ▸ q))
          by_cases e4 : @LE.le Nat _ y.1 Mk
          · exact hlt _ e4
          · simp only [List.cons_append, List.mem_cons, List.mem_append, e1, e2, e3, false_or] at hy
            rcases hy with rfl | rfl | rfl | rfl | rfl | rfl | rfl | rfl | rfl | rfl | rfl | rfl | rfl | hy
            all_goals first
              | (exfalso; (simp only at e4); lia)
              | exact hn y (by simp only [List.mem_cons, List.mem_append]; rcases hy with hy | hy | hy <;> simp only [hy, true_or, or_true])
        case fr =>
          intro z hz
          rw [hm' z hz]
          by_cases w1 : z = Str.ofString "marks"
          · subst w1; rfl
          by_cases w2 : z = Str.ofString "told"
          · subst w2; rfl
          by_cases w3 : z = Str.ofString "due"
          · subst w3; rfl
          by_cases w4 : z = Str.ofString "table"
          · subst w4; rfl
          by_cases w5 : z = Str.ofString "signs"
          · subst w5; rfl
          simp only [if_neg w1, if_neg w2, if_neg w3, if_neg w4, if_neg w5]
          rw [hm z hz]
          simp only [if_neg w1, if_neg w2, if_neg w3, if_neg w4, if_neg w5]
        case ex => exact List.forall_mem_cons.mpr ⟨d3, List.forall_mem_cons.mpr ⟨d2, List.forall_mem_cons.mpr ⟨d1, hext⟩⟩⟩
      have offs : ∀ (T9 : Addr) {e1 e2 e3 e4 : Addr} {o1 o2 o3 o4 : Obj}, @LE.le Nat _ Td T9 → @LE.le Nat _ T9 Mk → ((@Ne Nat e1 T9) ∧ (@Ne Nat e2 T9) ∧ (@Ne Nat e3 T9) ∧ (@Ne Nat e4 T9)) → ∀ p ∈ (e1, o1) :: (e2, o2) :: (e3, o3) :: (e4, o4) :: (I, oI) :: (ext ++ (Li, PySem.W.listOf ws.toArray 0) :: rest), p.1 ≠ T9 := by
        intro T9 e1 e2 e3 e4 o1 o2 o3 o4 q1 q2 ⟨n1, n2, n3, n4⟩
        refine List.forall_mem_cons.mpr ⟨n1, List.forall_mem_cons.mpr ⟨n2, List.forall_mem_cons.mpr ⟨n3, List.forall_mem_cons.mpr ⟨n4, fun p hp => ?_⟩⟩⟩⟩
        rcases bigE p hp with q | q
        · exact Nat.ne_of_lt (Nat.lt_of_lt_of_le q q1)
        · exact Nat.ne_of_gt (Nat.lt_of_le_of_lt q2 q)
      have hS : List.Pairwise (· < ·) ([Sg, La, Td, Tb, H, Du, t0, t1, t2, Tl, m0, m1, m2, Mk] : List Nat) := sort14 ho
      rcases int3 (stX_bd x) with e | e | e
      · have ek : (stX x).toNat = 0 := by rw [e]; rfl
        refine turnA w mean mg mb m₁ ((t1, PySem.W.listOf (tvf 1) (ntf 1)) :: (t2, PySem.W.listOf (tvf 2) (ntf 2)) :: (m1, PySem.W.listOf (mvf 1) (nmf 1)) :: (m2, PySem.W.listOf (mvf 2) (nmf 2)) :: (I, oI) :: (ext ++ (Li, PySem.W.listOf ws.toArray 0) :: rest)) Tb Td H Du Tl Mk Sg t0 t1 t2 t0 m0 m1 m2 m0 x tx k0 hs du (tvf 0) (mvf 0) nh nd (ntf 0) (nmf 0) sg (stX x) (shX x) (lvX x) (grX x) (siX x) (tuX x) rfl rfl rfl rfl rfl rfl
          b1 (shX_bd x) (lvX_bd x) (grX_bd x) (siX_bd x) (tuX_bd x) hsg (by rw [ek]; rfl) (by rw [ek]; rfl) zh zd (zt 0 (by decide)) (zm 0 (by decide)) (srtLt hS 0 2 rfl rfl (by decide)) (srtLt hS 2 3 rfl rfl (by decide)) (srtLt hS 3 4 rfl rfl (by decide)) (srtLt hS 4 5 rfl rfl (by decide)) (srtLt hS 5 6 rfl rfl (by decide)) (srtLt hS 6 9 rfl rfl (by decide)) (srtLt hS 9 10 rfl rfl (by decide)) (srtLt hS 10 13 rfl rfl (by decide)) ?_ ?_ ?_ ?_ _ _ _ _ _ _ _ _ _ _ _ _ _ _ B' F4 X (news_sub N4 (by lcg_sub)) T trivial (by ktr_room) (by ktr_units) ?_
        · exact offs H (srtLe hS 2 4 rfl rfl (by decide)) (srtLe hS 4 13 rfl rfl (by decide)) ⟨srtNe hS 7 4 rfl rfl (by decide), srtNe hS 8 4 rfl rfl (by decide), srtNe hS 11 4 rfl rfl (by decide), srtNe hS 12 4 rfl rfl (by decide)⟩
        · exact offs Du (srtLe hS 2 5 rfl rfl (by decide)) (srtLe hS 5 13 rfl rfl (by decide)) ⟨srtNe hS 7 5 rfl rfl (by decide), srtNe hS 8 5 rfl rfl (by decide), srtNe hS 11 5 rfl rfl (by decide), srtNe hS 12 5 rfl rfl (by decide)⟩
        · exact offs t0 (srtLe hS 2 6 rfl rfl (by decide)) (srtLe hS 6 13 rfl rfl (by decide)) ⟨srtNe hS 7 6 rfl rfl (by decide), srtNe hS 8 6 rfl rfl (by decide), srtNe hS 11 6 rfl rfl (by decide), srtNe hS 12 6 rfl rfl (by decide)⟩
        · exact offs m0 (srtLe hS 2 10 rfl rfl (by decide)) (srtLe hS 10 13 rfl rfl (by decide)) ⟨srtNe hS 7 10 rfl rfl (by decide), srtNe hS 8 10 rfl rfl (by decide), srtNe hS 11 10 rfl rfl (by decide), srtNe hS 12 10 rfl rfl (by decide)⟩
        · rintro f m' nw' h' tk' F5 N5 ⟨rfl, hm', D1, D2, D3, a1, a2, a3, a4, a5, a6, a7, a8, d1, d2, d3, nz, nr, rfl⟩
          have N6 : News h₀ L h' ((D3, tupS (nmX x) (txX x) a1 a2) :: (D2, tup3 (tldX x).1 (tldX x).2.1 (tldX x).2.2 a3 a4 a5) :: (D1, tupS (nmX x) (txX x) a6 a7) :: ledA w ((t1, PySem.W.listOf (tvf 1) (ntf 1)) :: (t2, PySem.W.listOf (tvf 2) (ntf 2)) :: (m1, PySem.W.listOf (mvf 1) (nmf 1)) :: (m2, PySem.W.listOf (mvf 2) (nmf 2)) :: (I, oI) :: (ext ++ (Li, PySem.W.listOf ws.toArray 0) :: rest)) Tb Td H Du Tl Mk Sg t0 t1 t2 t0 m0 m1 m2 m0 k0 (hs.push (.ref D1)) (du.push (.ref D3)) ((tvf 0).push (.ref D2)) ((mvf 0).push (.int (mkX x) a8)) (nh + 1) (nd + 1) (ntf 0 + 1) (nmf 0 + 1) sg) := N5
          refine fin _ _ _ _ _ _ _ D1 D2 D3 a1 a2 a3 a4 a5 a6 a7 a8 (nh + 1) (nd + 1) (fun j => if j = 0 then ntf 0 + 1 else ntf j) (fun j => if j = 0 then nmf 0 + 1 else nmf j) F5 (fun z hz => ?_) d1 d2 d3 nz N6 ?_ ?_ ⟨(nr (I, oI) ?_).1.symm, (nr (I, oI) ?_).2.1.symm, (nr (I, oI) ?_).2.2.symm⟩
          · unfold junkA at hz
            simp only [not_or] at hz
            obtain ⟨j1, j2, j3, j4, j5, j6, j7, j8⟩ := hz
            exact hm' z j1 j2 j3 j4 j5 j6 j7 j8
          · k_mem
          · rw [ek]
            simp (config := { decide := true }) only [if_true, if_false, List.cons_append]
            exact permQ0
          · k_mem
          · k_mem
          · k_mem
      · have ek : (stX x).toNat = 1 := by rw [e]; rfl
        refine turnA w mean mg mb m₁ ((t0, PySem.W.listOf (tvf 0) (ntf 0)) :: (t2, PySem.W.listOf (tvf 2) (ntf 2)) :: (m0, PySem.W.listOf (mvf 0) (nmf 0)) :: (m2, PySem.W.listOf (mvf 2) (nmf 2)) :: (I, oI) :: (ext ++ (Li, PySem.W.listOf ws.toArray 0) :: rest)) Tb Td H Du Tl Mk Sg t0 t1 t2 t1 m0 m1 m2 m1 x tx k0 hs du (tvf 1) (mvf 1) nh nd (ntf 1) (nmf 1) sg (stX x) (shX x) (lvX x) (grX x) (siX x) (tuX x) rfl rfl rfl rfl rfl rfl
          b1 (shX_bd x) (lvX_bd x) (grX_bd x) (siX_bd x) (tuX_bd x) hsg (by rw [ek]; rfl) (by rw [ek]; rfl) zh zd (zt 1 (by decide)) (zm 1 (by decide)) (srtLt hS 0 2 rfl rfl (by decide)) (srtLt hS 2 3 rfl rfl (by decide)) (srtLt hS 3 4 rfl rfl (by decide)) (srtLt hS 4 5 rfl rfl (by decide)) (srtLt hS 5 7 rfl rfl (by decide)) (srtLt hS 7 9 rfl rfl (by decide)) (srtLt hS 9 11 rfl rfl (by decide)) (srtLt hS 11 13 rfl rfl (by decide)) ?_ ?_ ?_ ?_ _ _ _ _ _ _ _ _ _ _ _ _ _ _ B' F4 X (news_sub N4 (by lcg_sub)) T trivial (by ktr_room) (by ktr_units) ?_
        · exact offs H (srtLe hS 2 4 rfl rfl (by decide)) (srtLe hS 4 13 rfl rfl (by decide)) ⟨srtNe hS 6 4 rfl rfl (by decide), srtNe hS 8 4 rfl rfl (by decide), srtNe hS 10 4 rfl rfl (by decide), srtNe hS 12 4 rfl rfl (by decide)⟩
        · exact offs Du (srtLe hS 2 5 rfl rfl (by decide)) (srtLe hS 5 13 rfl rfl (by decide)) ⟨srtNe hS 6 5 rfl rfl (by decide), srtNe hS 8 5 rfl rfl (by decide), srtNe hS 10 5 rfl rfl (by decide), srtNe hS 12 5 rfl rfl (by decide)⟩
        · exact offs t1 (srtLe hS 2 7 rfl rfl (by decide)) (srtLe hS 7 13 rfl rfl (by decide)) ⟨srtNe hS 6 7 rfl rfl (by decide), srtNe hS 8 7 rfl rfl (by decide), srtNe hS 10 7 rfl rfl (by decide), srtNe hS 12 7 rfl rfl (by decide)⟩
        · exact offs m1 (srtLe hS 2 11 rfl rfl (by decide)) (srtLe hS 11 13 rfl rfl (by decide)) ⟨srtNe hS 6 11 rfl rfl (by decide), srtNe hS 8 11 rfl rfl (by decide), srtNe hS 10 11 rfl rfl (by decide), srtNe hS 12 11 rfl rfl (by decide)⟩
        · rintro f m' nw' h' tk' F5 N5 ⟨rfl, hm', D1, D2, D3, a1, a2, a3, a4, a5, a6, a7, a8, d1, d2, d3, nz, nr, rfl⟩
          have N6 : News h₀ L h' ((D3, tupS (nmX x) (txX x) a1 a2) :: (D2, tup3 (tldX x).1 (tldX x).2.1 (tldX x).2.2 a3 a4 a5) :: (D1, tupS (nmX x) (txX x) a6 a7) :: ledA w ((t0, PySem.W.listOf (tvf 0) (ntf 0)) :: (t2, PySem.W.listOf (tvf 2) (ntf 2)) :: (m0, PySem.W.listOf (mvf 0) (nmf 0)) :: (m2, PySem.W.listOf (mvf 2) (nmf 2)) :: (I, oI) :: (ext ++ (Li, PySem.W.listOf ws.toArray 0) :: rest)) Tb Td H Du Tl Mk Sg t0 t1 t2 t1 m0 m1 m2 m1 k0 (hs.push (.ref D1)) (du.push (.ref D3)) ((tvf 1).push (.ref D2)) ((mvf 1).push (.int (mkX x) a8)) (nh + 1) (nd + 1) (ntf 1 + 1) (nmf 1 + 1) sg) := N5
          refine fin _ _ _ _ _ _ _ D1 D2 D3 a1 a2 a3 a4 a5 a6 a7 a8 (nh + 1) (nd + 1) (fun j => if j = 1 then ntf 1 + 1 else ntf j) (fun j => if j = 1 then nmf 1 + 1 else nmf j) F5 (fun z hz => ?_) d1 d2 d3 nz N6 ?_ ?_ ⟨(nr (I, oI) ?_).1.symm, (nr (I, oI) ?_).2.1.symm, (nr (I, oI) ?_).2.2.symm⟩
          · unfold junkA at hz
            simp only [not_or] at hz
            obtain ⟨j1, j2, j3, j4, j5, j6, j7, j8⟩ := hz
            exact hm' z j1 j2 j3 j4 j5 j6 j7 j8
          · k_mem
          · rw [ek]
            simp (config := { decide := true }) only [if_true, if_false, List.cons_append]
            exact permQ1
          · k_mem
          · k_mem
          · k_mem
      · have ek : (stX x).toNat = 2 := by rw [e]; rfl
        refine turnA w mean mg mb m₁ ((t0, PySem.W.listOf (tvf 0) (ntf 0)) :: (t1, PySem.W.listOf (tvf 1) (ntf 1)) :: (m0, PySem.W.listOf (mvf 0) (nmf 0)) :: (m1, PySem.W.listOf (mvf 1) (nmf 1)) :: (I, oI) :: (ext ++ (Li, PySem.W.listOf ws.toArray 0) :: rest)) Tb Td H Du Tl Mk Sg t0 t1 t2 t2 m0 m1 m2 m2 x tx k0 hs du (tvf 2) (mvf 2) nh nd (ntf 2) (nmf 2) sg (stX x) (shX x) (lvX x) (grX x) (siX x) (tuX x) rfl rfl rfl rfl rfl rfl
          b1 (shX_bd x) (lvX_bd x) (grX_bd x) (siX_bd x) (tuX_bd x) hsg (by rw [ek]; rfl) (by rw [ek]; rfl) zh zd (zt 2 (by decide)) (zm 2 (by decide)) (srtLt hS 0 2 rfl rfl (by decide)) (srtLt hS 2 3 rfl rfl (by decide)) (srtLt hS 3 4 rfl rfl (by decide)) (srtLt hS 4 5 rfl rfl (by decide)) (srtLt hS 5 8 rfl rfl (by decide)) (srtLt hS 8 9 rfl rfl (by decide)) (srtLt hS 9 12 rfl rfl (by decide)) (srtLt hS 12 13 rfl rfl (by decide)) ?_ ?_ ?_ ?_ _ _ _ _ _ _ _ _ _ _ _ _ _ _ B' F4 X (news_sub N4 (by lcg_sub)) T trivial (by ktr_room) (by ktr_units) ?_
        · exact offs H (srtLe hS 2 4 rfl rfl (by decide)) (srtLe hS 4 13 rfl rfl (by decide)) ⟨srtNe hS 6 4 rfl rfl (by decide), srtNe hS 7 4 rfl rfl (by decide), srtNe hS 10 4 rfl rfl (by decide), srtNe hS 11 4 rfl rfl (by decide)⟩
        · exact offs Du (srtLe hS 2 5 rfl rfl (by decide)) (srtLe hS 5 13 rfl rfl (by decide)) ⟨srtNe hS 6 5 rfl rfl (by decide), srtNe hS 7 5 rfl rfl (by decide), srtNe hS 10 5 rfl rfl (by decide), srtNe hS 11 5 rfl rfl (by decide)⟩
        · exact offs t2 (srtLe hS 2 8 rfl rfl (by decide)) (srtLe hS 8 13 rfl rfl (by decide)) ⟨srtNe hS 6 8 rfl rfl (by decide), srtNe hS 7 8 rfl rfl (by decide), srtNe hS 10 8 rfl rfl (by decide), srtNe hS 11 8 rfl rfl (by decide)⟩
        · exact offs m2 (srtLe hS 2 12 rfl rfl (by decide)) (srtLe hS 12 13 rfl rfl (by decide)) ⟨srtNe hS 6 12 rfl rfl (by decide), srtNe hS 7 12 rfl rfl (by decide), srtNe hS 10 12 rfl rfl (by decide), srtNe hS 11 12 rfl rfl (by decide)⟩
        · rintro f m' nw' h' tk' F5 N5 ⟨rfl, hm', D1, D2, D3, a1, a2, a3, a4, a5, a6, a7, a8, d1, d2, d3, nz, nr, rfl⟩
          have N6 : News h₀ L h' ((D3, tupS (nmX x) (txX x) a1 a2) :: (D2, tup3 (tldX x).1 (tldX x).2.1 (tldX x).2.2 a3 a4 a5) :: (D1, tupS (nmX x) (txX x) a6 a7) :: ledA w ((t0, PySem.W.listOf (tvf 0) (ntf 0)) :: (t1, PySem.W.listOf (tvf 1) (ntf 1)) :: (m0, PySem.W.listOf (mvf 0) (nmf 0)) :: (m1, PySem.W.listOf (mvf 1) (nmf 1)) :: (I, oI) :: (ext ++ (Li, PySem.W.listOf ws.toArray 0) :: rest)) Tb Td H Du Tl Mk Sg t0 t1 t2 t2 m0 m1 m2 m2 k0 (hs.push (.ref D1)) (du.push (.ref D3)) ((tvf 2).push (.ref D2)) ((mvf 2).push (.int (mkX x) a8)) (nh + 1) (nd + 1) (ntf 2 + 1) (nmf 2 + 1) sg) := N5
          refine fin _ _ _ _ _ _ _ D1 D2 D3 a1 a2 a3 a4 a5 a6 a7 a8 (nh + 1) (nd + 1) (fun j => if j = 2 then ntf 2 + 1 else ntf j) (fun j => if j = 2 then nmf 2 + 1 else nmf j) F5 (fun z hz => ?_) d1 d2 d3 nz N6 ?_ ?_ ⟨(nr (I, oI) ?_).1.symm, (nr (I, oI) ?_).2.1.symm, (nr (I, oI) ?_).2.2.symm⟩
          · unfold junkA at hz
            simp only [not_or] at hz
            obtain ⟨j1, j2, j3, j4, j5, j6, j7, j8⟩ := hz
            exact hm' z j1 j2 j3 j4 j5 j6 j7 j8
          · k_mem
          · rw [ek]
            simp (config := { decide := true }) only [if_true, if_false, List.cons_append]
            exact permQ2
          · k_mem
          · k_mem
          · k_mem
    case done =>
      rintro m' nw h' tk' ⟨hs, du, nh, nd, tvf, mvf, ntf, nmf, ext, hm, inv, hext, rfl⟩ _ F' N'
      rw [List.size_toArray, hI2.length, List.take_length] at inv
      dsimp only
      subst hrest
      exact wpAny_execs_nil (hret _ _ _ _ _ F' N' ⟨rfl, hs, du, nh, nd, tvf, mvf, ntf, nmf, ext, Li, ws, 0, hm, inv, List.forall_mem_cons.mpr ⟨lM, hext⟩, rfl⟩)
  all_goals first | exact Nat.le_refl _ | exact srtLe (sort14 ho) 0 13 rfl rfl (by decide) | exact srtLe (sort14 ho) 1 13 rfl rfl (by decide) | exact srtLe (sort14 ho) 2 13 rfl rfl (by decide) | exact srtLe (sort14 ho) 3 13 rfl rfl (by decide) | exact srtLe (sort14 ho) 4 13 rfl rfl (by decide) | exact srtLe (sort14 ho) 5 13 rfl rfl (by decide) | exact srtLe (sort14 ho) 6 13 rfl rfl (by decide) | exact srtLe (sort14 ho) 7 13 rfl rfl (by decide) | exact srtLe (sort14 ho) 8 13 rfl rfl (by decide) | exact srtLe (sort14 ho) 9 13 rfl rfl (by decide) | exact srtLe (sort14 ho) 10 13 rfl rfl (by decide) | exact srtLe (sort14 ho) 11 13 rfl rfl (by decide) | exact srtLe (sort14 ho) 12 13 rfl rfl (by decide) | exact srtLe (sort14 ho) 2 3 rfl rfl (by decide) | exact srtLe (sort14 ho) 2 4 rfl rfl (by decide) | exact srtLe (sort14 ho) 2 5 rfl rfl (by decide) | exact srtLe (sort14 ho) 2 6 rfl rfl (by decide) | exact srtLe (sort14 ho) 2 7 rfl rfl (by decide) | exact srtLe (sort14 ho) 2 8 rfl rfl (by decide) | exact srtLe (sort14 ho) 2 9 rfl rfl (by decide) | exact srtLe (sort14 ho) 2 10 rfl rfl (by decide) | exact srtLe (sort14 ho) 2 11 rfl rfl (by decide) | exact srtLe (sort14 ho) 2 12 rfl rfl (by decide) | exact srtLe (sort14 ho) 2 13 rfl rfl (by decide) | lia
end Mine
end

section
open PySem PySem.W PyProof.Rows PySem.Spec PySem.Calls
set_option maxRecDepth 100000
set_option maxHeartbeats 4000000
namespace Mine
theorem news_subP {h₀ h : Heap} {L : Addr} {a b : List (Addr × Obj)} (N : News h₀ L h a) (hs : ∀ p ∈ b, p ∈ a) : News h₀ L h b := fun p hp => N p (hs p hp)
theorem permP {h₀ h : Heap} {L D Sg La Td Tb H Du t0 t1 t2 Tl m0 m1 m2 Mk : Addr} {oD : Obj} {w : World} {k0 k1 k2 k3 k4 k5 k6 k7 : Tok} {sg : List (Str × Tok)} {rest : List (Addr × Obj)} (N : News h₀ L h ((D, oD) :: (Mk, PySem.W.listOf #[.ref m0, .ref m1, .ref m2] 0) :: (m2, PySem.W.listOf #[] 0) :: (m1, PySem.W.listOf #[] 0) :: (m0, PySem.W.listOf #[] 0) :: (Tl, PySem.W.listOf #[.ref t0, .ref t1, .ref t2] 0) :: (t2, PySem.W.listOf #[] 0) :: (t1, PySem.W.listOf #[] 0) :: (t0, PySem.W.listOf #[] 0) :: (Du, PySem.W.listOf #[] 0) :: (H, PySem.W.listOf #[] 0) :: (Tb, instObj 220 Td) :: (Td, dictOf [{ hash := PyData.keyHash w.params (Str.ofString "_headers"), key := .str (Str.ofString "_headers") k0, val := .ref H }] 1) :: (La, PySem.W.listOf #[.int 1562 k1, .int 4615 k2, .int 3548 k3, .int 3893 k4, .int 1389 k5, .int 5492 k6, .int 552 k7] 0) :: (Sg, PySem.W.listOf (strValues sg).toArray 0) :: rest)) : News h₀ L h ((Tb, instObj 220 Td) :: (Td, dictOf [{ hash := PyData.keyHash w.params (Str.ofString "_headers"), key := .str (Str.ofString "_headers") k0, val := .ref H }] 1) :: (H, PySem.W.listOf #[] 0) :: (Du, PySem.W.listOf #[] 0) :: (t0, PySem.W.listOf #[] 0) :: (t1, PySem.W.listOf #[] 0) :: (t2, PySem.W.listOf #[] 0) :: (m0, PySem.W.listOf #[] 0) :: (m1, PySem.W.listOf #[] 0) :: (m2, PySem.W.listOf #[] 0) :: (Tl, PySem.W.listOf #[.ref t0, .ref t1, .ref t2] 0) :: (Mk, PySem.W.listOf #[.ref m0, .ref m1, .ref m2] 0) :: (Sg, PySem.W.listOf (strValues sg).toArray 0) :: (La, PySem.W.listOf #[.int 1562 k1, .int 4615 k2, .int 3548 k3, .int 3893 k4, .int 1389 k5, .int 5492 k6, .int 552 k7] 0) :: rest) := news_subP N (by lcg_sub)
/-- what the law's first statements lay -/
inductive RP1 (w : World) (rest : List (Addr × Obj)) (B : Str → Option Value) (m' : Str → Option Value) (nw : List (Addr × Obj)) : Prop
  | mk (Sg La Td Tb H Du t0 t1 t2 Tl m0 m1 m2 Mk : Addr) (k0 k1 k2 k3 k4 k5 k6 k7 : Tok) (sg : List (Str × Tok))
    (e0 : (∀ z, m' z = if z = Str.ofString "marks" then some (.ref Mk) else if z = Str.ofString "told" then some (.ref Tl) else if z = Str.ofString "due" then some (.ref Du) else if z = Str.ofString "table" then some (.ref Tb) else if z = Str.ofString "lacking" then some (.ref La) else if z = Str.ofString "signs" then some (.ref Sg) else B z))
    (e1 : StrsAre (strValues sg) signs48)
    (e2 : (@LT.lt Nat _ Sg La ∧ @LT.lt Nat _ La Td ∧ @LT.lt Nat _ Td Tb ∧ @LT.lt Nat _ Tb H ∧ @LT.lt Nat _ H Du ∧ @LT.lt Nat _ Du t0 ∧ @LT.lt Nat _ t0 t1 ∧ @LT.lt Nat _ t1 t2 ∧ @LT.lt Nat _ t2 Tl ∧ @LT.lt Nat _ Tl m0 ∧ @LT.lt Nat _ m0 m1 ∧ @LT.lt Nat _ m1 m2 ∧ @LT.lt Nat _ m2 Mk))
    (e3 : (∀ p ∈ rest, @LT.lt Nat _ p.1 Sg))
    (e4 : nw = (Tb, instObj 220 Td) :: (Td, dictOf [{ hash := PyData.keyHash w.params (Str.ofString "_headers"), key := .str (Str.ofString "_headers") k0, val := .ref H }] 1) :: (H, PySem.W.listOf #[] 0) :: (Du, PySem.W.listOf #[] 0) :: (t0, PySem.W.listOf #[] 0) :: (t1, PySem.W.listOf #[] 0) :: (t2, PySem.W.listOf #[] 0) :: (m0, PySem.W.listOf #[] 0) :: (m1, PySem.W.listOf #[] 0) :: (m2, PySem.W.listOf #[] 0) :: (Tl, PySem.W.listOf #[.ref t0, .ref t1, .ref t2] 0) :: (Mk, PySem.W.listOf #[.ref m0, .ref m1, .ref m2] 0) :: (Sg, PySem.W.listOf (strValues sg).toArray 0) :: (La, PySem.W.listOf #[.int 1562 k1, .int 4615 k2, .int 3548 k3, .int 3893 k4, .int 1389 k5, .int 5492 k6, .int 552 k7] 0) :: rest) : RP1 w rest B m' nw
theorem turnP1 (w : World) (mean : ExcName → Option Value) (mg mb : Str → Option Value) (B : Str → Option Value) (rest : List (Addr × Obj)) (c1 c2 c3 : Addr) :
    SegC 60 w mean mg mb (cells3 c1 c2 c3) [stAt lawD.body 0, stAt lawD.body 1, stAt lawD.body 2] B rest
      (fun f m' nw => f = .next ∧ RP1 w rest B m' nw) := by
  w_top off
  unfold SegC; k_fill
  intro dp un gd a' ccd outer A₀ base h₀ L s Q E B' F X N T hd hu hret
  unfold stAt lawD lawQ
  dsimp only [List.getD, List.getElem?_cons_succ, List.getElem?_cons_zero, Option.getD, forBody, cells3]
  repeat' ((fail_if_success (with_reducible show wpAny _ _ (pyIter _) _ _ _)); first | (k_unfold; (try dsimp only)) | (first | with_reducible ((with_reducible show wpAny _ _ (exec (Stmt.For (Expr.Tuple _ _ _) _ _ _ _) _) _ _ _); (k_here; k_dflt (refine wpAny_For ?_ (by intro _; with_unfolding_all rfl)))) | walk1) | (dsimp only; (first | with_reducible ((with_reducible show wpAny _ _ (exec (Stmt.For (Expr.Tuple _ _ _) _ _ _ _) _) _ _ _); (k_here; k_dflt (refine wpAny_For ?_ (by intro _; with_unfolding_all rfl)))) | walk1)) | (leave1; try dsimp only))
  rename News _ _ _ _ => N5
  rename Fr _ _ _ _ => F5
  refine loop_empty (nn := 0) (by rfl) F5 N5 (.head _) ?_
  intro h' tk F6 N6
  clear F5 N5
  dsimp only
  repeat' (first | (k_unfold; (try dsimp only)) | (first | with_reducible ((with_reducible show wpAny _ _ (exec (Stmt.For (Expr.Tuple _ _ _) _ _ _ _) _) _ _ _); (k_here; k_dflt (refine wpAny_For ?_ (by intro _; with_unfolding_all rfl)))) | walk1) | (dsimp only; (first | with_reducible ((with_reducible show wpAny _ _ (exec (Stmt.For (Expr.Tuple _ _ _) _ _ _ _) _) _ _ _); (k_here; k_dflt (refine wpAny_For ?_ (by intro _; with_unfolding_all rfl)))) | walk1)) | (leave1; try dsimp only))
  rename News _ _ _ _ => N9
  rename Fr _ _ _ _ => F9
  rename (List.map _ _ = Txt.words _) => ew
  rename StrsAre _ _ => ea
  rw [ew, signs_words] at ea
  rename (∀ (p : Addr × Obj), p ∈ rest → _) => er
  refine hret _ _ _ _ _ F9 (permP N9) ⟨rfl, _, _, _, _, _, _, _, _, _, _, _, _, _, _, _, _, _, _, _, _, _, _, _, fun z => rfl, ea, ?ord, er, rfl⟩
  case ord => (repeat' apply And.intro) <;> first | assumption | (apply And.left; iterate 20 (try first | assumption | apply And.right); done)
end Mine
end

section
open PySem PySem.W PyProof.Rows PySem.Spec PySem.Calls
set_option maxRecDepth 100000
set_option maxHeartbeats 4000000
namespace Mine
theorem items_con (w : World) (mean : ExcName → Option Value) (mg mb : Str → Option Value) (rest : List (Addr × Obj)) (x d H : Addr) (hs : Array Value) (nv : Nat) (t0 : Tok)
   (hxH : @LT.lt Nat _ x H) (hdH : @LT.lt Nat _ d H) (hsz : hs.size ≤ 100) (hoff : ∀ p ∈ rest, p.1 ≠ H) :
    Con 5 w mean mg mb 184 (tbl w x d H t0 hs nv rest) [.ref x] [] (fun s => True) (fun r nw => ∃ D, r = .ref D ∧ nw = (D, PySem.W.listOf hs 0) :: tbl w x d H t0 hs nv rest) := by
  w_top off
  unfold Con; k_fill
  intro dp un gd cn cns cig cic cmo a' ccd cl outer A₀ base h₀ L m s Q E B F X N T hpre hd hu hret
  refine wpAny_call ?_
  k_dflt k_enter
  repeat' (first | (k_unfold; (try dsimp only)) | walk1 | (dsimp only; walk1) | (leave1; try dsimp only))
  rename Fr _ _ _ _ => F9
  rename News _ _ _ _ => N9
  rw [PySem.slicePick_all] at N9
  exact hret _ _ _ _ F9 N9 ⟨_, rfl, rfl⟩
end Mine
end

section
open PySem PySem.W PyProof.Rows PySem.Spec PySem.Calls PyProof.V PySem.SeqAt
set_option maxRecDepth 100000
set_option maxHeartbeats 4000000
namespace Mine
noncomputable def pdOf (p : Str × Str) : PyData := .tuple [.str p.1, .str p.2]
theorem reads_hdrs {h : Heap} : ∀ (vs : List Value) (data : List (Str × Str)), vs.length = data.length → (∀ (i : Nat) (v : Value), vs[i]? = some v → ∃ (a : Addr) (n T : PySem.Str) (t u : Tok), v = Value.ref a ∧ h.get? a = some (tupS n T t u) ∧ data[i]? = some (n, T)) → ReadsAll h vs (data.map pdOf) []
  | [], [], _, _ => .nil
  | v :: vs, d :: data, hl, f => by
    obtain ⟨a, n, T, t, u, rfl, e2, e3⟩ := f 0 v rfl
    obtain rfl : d = (n, T) := Option.some.inj e3
    have r1 : Reads h (.ref a) (pdOf (n, T)) [] := Reads.tuple e2 rfl rfl (ReadsAll.cons (Reads.str n t) (ReadsAll.cons (Reads.str T u) .nil))
    exact ReadsAll.cons r1 (reads_hdrs vs data (by simpa using hl) fun i v hv => f (i + 1) v hv)
theorem canLay_hdrs : ∀ data : List (Str × Str), (∀ p ∈ data, PyData.strOk p.1 = true ∧ PyData.strOk p.2 = true) → PyData.canLayAll0 (data.map pdOf) = true
  | [], _ => by simp [PyData.canLayAll0]
  | p :: r, h => by simp [PyData.canLayAll0, PyData.canLay0, pdOf, canLay_hdrs r fun q hq => h q (.tail _ hq), (h p (.head _)).1, (h p (.head _)).2]
theorem depth_hdrs : ∀ data : List (Str × Str), PyData.depthAll (data.map pdOf) ≤ 3
  | [] => by simp [PyData.depthAll]
  | p :: r => by
    have := depth_hdrs r
    simp only [List.map_cons, PyData.depthAll, PyData.depth, pdOf]
    lia
theorem shaped_hdrs (data : List (Str × Str)) (hok : ∀ p ∈ data, PyData.strOk p.1 = true ∧ PyData.strOk p.2 = true) : shaped (.list (data.map pdOf)) = true := by
  have h1 := depth_hdrs data
  have h2 : PyData.depth (.list (data.map pdOf)) ≤ 64 := by simp only [PyData.depth]; lia
  show (PyData.canLay0 (.list (data.map pdOf)) && decide (PyData.depth (.list (data.map pdOf)) ≤ 64)) = true
  rw [Bool.and_eq_true]
  exact ⟨by simp only [PyData.canLay0]; exact canLay_hdrs data hok, decide_eq_true h2⟩
theorem noMix_hdrs : ∀ data : List (Str × Str), noMixAll (data.map pdOf) (data.map pdOf) = true
  | [] => by simp [noMixAll]
  | p :: r => by simp [noMixAll, noMix, pdOf, noMix_hdrs r]
theorem same_hdrs : ∀ data : List (Str × Str), PySem.Spec.sameAll (data.map pdOf) (data.map pdOf) = true
  | [] => by simp [PySem.Spec.sameAll]
  | p :: r => by simp [PySem.Spec.sameAll, PySem.Spec.same, pdOf, same_hdrs r]
theorem strOk_app {a b : Str} (ha : PyData.strOk a = true) (hb : PyData.strOk b = true) : PyData.strOk (a ++ b) = true := by
  unfold PyData.strOk at *
  rw [PySem.Str.cps_append, Array.all_append, ha, hb]; rfl
theorem strOk_sign : signs48.all PyData.strOk = true := by decide +kernel
theorem strOk_name : names6.all PyData.strOk = true := by decide +kernel
theorem strOk_fig {n : Int} (h : 1 ≤ n ∧ n < 5) : PyData.strOk (Str.ofString (toString n)) = true := by
  have : n = 1 ∨ n = 2 ∨ n = 3 ∨ n = 4 := by lia
  rcases this with rfl | rfl | rfl | rfl <;> decide +kernel
theorem strOk_txT {i : Nat} {sh lv : Int} (hi : i < 48) (b2 : 0 ≤ sh ∧ sh < 5) (b3 : 1 ≤ lv ∧ lv < 5) : PyData.strOk (txT (signs48.getD i PySem.Str.empty) sh lv) = true := by
  have hs := getD_all (d := PySem.Str.empty) strOk_sign (i := i) hi
  have h0 : PyData.strOk (hdr0 (signs48.getD i PySem.Str.empty) (Str.ofString (toString lv))) = true := by
    unfold hdr0
    exact strOk_app (strOk_app (strOk_app hs (by decide +kernel)) (strOk_fig b3)) (by decide +kernel)
  unfold txT
  split
  · exact h0
  · unfold hdr
    exact strOk_app (strOk_app (strOk_app h0 (by decide +kernel)) (strOk_fig (by lia))) (by decide +kernel)
theorem turnI (w : World) (mean : ExcName → Option Value) (mg mb : Str → Option Value) (B : Str → Option Value) (rest : List (Addr × Obj)) (c1 c2 c3 Tb Td H Du : Addr) (k0 : Tok) (hs du : Array Value) (nh nd : Nat)
    (data : List (PySem.Str × PySem.Str)) (hdat : hs.size = data.length) (hdat2 : du.size = data.length)
    (hrel : ∀ (i : Nat) (v : Value), hs[i]? = some v → ∃ (a : Addr) (n T : PySem.Str) (t u : Tok), v = Value.ref a ∧ (a, tupS n T t u) ∈ rest ∧ data[i]? = some (n, T))
    (hrel2 : ∀ (i : Nat) (v : Value), du[i]? = some v → ∃ (a : Addr) (n T : PySem.Str) (t u : Tok), v = Value.ref a ∧ (a, tupS n T t u) ∈ rest ∧ data[i]? = some (n, T))
    (hdok : ∀ p ∈ data, PyData.strOk p.1 = true ∧ PyData.strOk p.2 = true) (hxH : @LT.lt Nat _ Tb H) (hdH : @LT.lt Nat _ Td H) (hsz : hs.size ≤ 100) (hoff : ∀ p ∈ (Du, PySem.W.listOf du nd) :: rest, p.1 ≠ H) :
    SegC 40 w mean mg mb (cells3 c1 c2 c3) [stAt lawD.body 4]
      (fun z => if z = Str.ofString "table" then some (.ref Tb) else if z = Str.ofString "due" then some (.ref Du) else B z)
      (tbl w Tb Td H k0 hs nh ((Du, PySem.W.listOf du nd) :: rest))
      (fun f m' nw => f = .next ∧ (∀ z, m' z = if z = Str.ofString "table" then some (.ref Tb) else if z = Str.ofString "due" then some (.ref Du) else B z) ∧ nw = tbl w Tb Td H k0 hs nh ((Du, PySem.W.listOf du nd) :: rest)) := by
  w_top off
  unfold SegC; k_fill
  intro dp un gd a' ccd outer A₀ base h₀ L s Q E B' F X N T hd hu hret
  unfold stAt lawD lawQ
  dsimp only [List.getD, List.getElem?_cons_succ, List.getElem?_cons_zero, Option.getD, forBody, cells3]
  repeat' ((fail_if_success (with_reducible show wpAny _ _ (call (Value.ref 184) _ _) _ _ _)); first | (k_unfold; (try dsimp only)) | walk1 | (dsimp only; walk1) | (leave1; try dsimp only))
  ((with_reducible show wpAny _ _ (call (Value.ref 184) _ _) _ _ _); k_dflt (refine' use (items_con _ _ _ _ _ _ _ _ _ _ _ ?h1 ?h2 ?h3 ?h4) ?hB ?hF ?hX ?hN ?hT ?hp ?hd ?hu ?_; (case h1 => assumption); (case h2 => assumption); (case h3 => assumption); (case h4 => assumption); (case hB => k_asm); (case hF => k_asm); (case hX => k_asm); (case hN => k_asm); (case hT => k_asm); (case hp => trivial); (case hd => ktr_room); (case hu => ktr_units); k_whole); intro r2 n2 h2 tk2 F2 N2 hR2; obtain ⟨D2, hr2, hn2⟩ := hR2; subst hr2 hn2; (try dsimp only); (try k_sweep))
  repeat' ((fail_if_success (with_reducible show wpAny _ _ (compareOp CmpOp.NotEq (Value.ref _) (Value.ref _)) _ _ _)); first | (k_unfold; (try dsimp only)) | walk1 | (dsimp only; walk1) | (leave1; try dsimp only))
  rename Fr _ _ _ _ => F1
  rename News _ _ _ _ => N1
  refine ne_dataH_same (Reads.list (N1 _ (.head _)).1 rfl rfl (reads_hdrs hs.toList data (by simpa using hdat) fun i v hv => ?r1)) (Reads.list (N1 (Du, PySem.W.listOf du nd) (by simp only [List.mem_cons, true_or, or_true])).1 rfl rfl (reads_hdrs du.toList data (by simpa using hdat2) fun i v hv => ?r2)) (shaped_hdrs data hdok) (shaped_hdrs data hdok) (by ktr_units) (by simp only [noMix]; exact noMix_hdrs data) ?_
  case r1 =>
    obtain ⟨a, n, T, t, u, e1, e2, e3⟩ := hrel i v (by rw [← Array.getElem?_toList]; exact hv)
    exact ⟨a, n, T, t, u, e1, (N1 _ (.tail _ (.tail _ (.tail _ (.tail _ (.tail _ e2)))))).1, e3⟩
  case r2 =>
    obtain ⟨a, n, T, t, u, e1, e2, e3⟩ := hrel2 i v (by rw [← Array.getElem?_toList]; exact hv)
    exact ⟨a, n, T, t, u, e1, (N1 _ (.tail _ (.tail _ (.tail _ (.tail _ (.tail _ e2)))))).1, e3⟩
  simp only [PySem.Spec.same, same_hdrs]
  repeat' (first | (k_unfold; (try dsimp only)) | walk1 | (dsimp only; walk1) | (leave1; try dsimp only))
  rename Fr _ _ _ _ => F9
  rename News _ _ _ _ => N9
  exact hret _ _ _ _ _ F9 (fun p hp => N9 p (.tail _ hp)) ⟨rfl, fun z => rfl, rfl⟩
end Mine
end

section
open PySem PySem.W PyProof.Rows PySem.Spec PySem.Calls
set_option maxRecDepth 100000
set_option maxHeartbeats 4000000
namespace Mine
noncomputable def tokOf : Option (Option Value) → Tok
  | some (some (.int _ t)) => t
  | _ => 0
theorem nums_in (w : World) : ∀ i, i < 48 → ∃ t, nsIn (thr.heap_1_1 w.params) 39 (signs48.getD i PySem.Str.empty) = some (some (.int ((i : Int) + 7) t)) := by
  intro i hi
  match i, hi with
  | 0, _ => exact ⟨tokOf (nsIn (thr.heap_1_1 w.params) 39 (signs48.getD 0 PySem.Str.empty)), by kernel_rfl!⟩
  | 1, _ => exact ⟨tokOf (nsIn (thr.heap_1_1 w.params) 39 (signs48.getD 1 PySem.Str.empty)), by kernel_rfl!⟩
  | 2, _ => exact ⟨tokOf (nsIn (thr.heap_1_1 w.params) 39 (signs48.getD 2 PySem.Str.empty)), by kernel_rfl!⟩
  | 3, _ => exact ⟨tokOf (nsIn (thr.heap_1_1 w.params) 39 (signs48.getD 3 PySem.Str.empty)), by kernel_rfl!⟩
  | 4, _ => exact ⟨tokOf (nsIn (thr.heap_1_1 w.params) 39 (signs48.getD 4 PySem.Str.empty)), by kernel_rfl!⟩
  | 5, _ => exact ⟨tokOf (nsIn (thr.heap_1_1 w.params) 39 (signs48.getD 5 PySem.Str.empty)), by kernel_rfl!⟩
  | 6, _ => exact ⟨tokOf (nsIn (thr.heap_1_1 w.params) 39 (signs48.getD 6 PySem.Str.empty)), by kernel_rfl!⟩
  | 7, _ => exact ⟨tokOf (nsIn (thr.heap_1_1 w.params) 39 (signs48.getD 7 PySem.Str.empty)), by kernel_rfl!⟩
  | 8, _ => exact ⟨tokOf (nsIn (thr.heap_1_1 w.params) 39 (signs48.getD 8 PySem.Str.empty)), by kernel_rfl!⟩
  | 9, _ => exact ⟨tokOf (nsIn (thr.heap_1_1 w.params) 39 (signs48.getD 9 PySem.Str.empty)), by kernel_rfl!⟩
  | 10, _ => exact ⟨tokOf (nsIn (thr.heap_1_1 w.params) 39 (signs48.getD 10 PySem.Str.empty)), by kernel_rfl!⟩
  | 11, _ => exact ⟨tokOf (nsIn (thr.heap_1_1 w.params) 39 (signs48.getD 11 PySem.Str.empty)), by kernel_rfl!⟩
  | 12, _ => exact ⟨tokOf (nsIn (thr.heap_1_1 w.params) 39 (signs48.getD 12 PySem.Str.empty)), by kernel_rfl!⟩
  | 13, _ => exact ⟨tokOf (nsIn (thr.heap_1_1 w.params) 39 (signs48.getD 13 PySem.Str.empty)), by kernel_rfl!⟩
  | 14, _ => exact ⟨tokOf (nsIn (thr.heap_1_1 w.params) 39 (signs48.getD 14 PySem.Str.empty)), by kernel_rfl!⟩
  | 15, _ => exact ⟨tokOf (nsIn (thr.heap_1_1 w.params) 39 (signs48.getD 15 PySem.Str.empty)), by kernel_rfl!⟩
  | 16, _ => exact ⟨tokOf (nsIn (thr.heap_1_1 w.params) 39 (signs48.getD 16 PySem.Str.empty)), by kernel_rfl!⟩
  | 17, _ => exact ⟨tokOf (nsIn (thr.heap_1_1 w.params) 39 (signs48.getD 17 PySem.Str.empty)), by kernel_rfl!⟩
  | 18, _ => exact ⟨tokOf (nsIn (thr.heap_1_1 w.params) 39 (signs48.getD 18 PySem.Str.empty)), by kernel_rfl!⟩
  | 19, _ => exact ⟨tokOf (nsIn (thr.heap_1_1 w.params) 39 (signs48.getD 19 PySem.Str.empty)), by kernel_rfl!⟩
  | 20, _ => exact ⟨tokOf (nsIn (thr.heap_1_1 w.params) 39 (signs48.getD 20 PySem.Str.empty)), by kernel_rfl!⟩
  | 21, _ => exact ⟨tokOf (nsIn (thr.heap_1_1 w.params) 39 (signs48.getD 21 PySem.Str.empty)), by kernel_rfl!⟩
  | 22, _ => exact ⟨tokOf (nsIn (thr.heap_1_1 w.params) 39 (signs48.getD 22 PySem.Str.empty)), by kernel_rfl!⟩
  | 23, _ => exact ⟨tokOf (nsIn (thr.heap_1_1 w.params) 39 (signs48.getD 23 PySem.Str.empty)), by kernel_rfl!⟩
  | 24, _ => exact ⟨tokOf (nsIn (thr.heap_1_1 w.params) 39 (signs48.getD 24 PySem.Str.empty)), by kernel_rfl!⟩
  | 25, _ => exact ⟨tokOf (nsIn (thr.heap_1_1 w.params) 39 (signs48.getD 25 PySem.Str.empty)), by kernel_rfl!⟩
  | 26, _ => exact ⟨tokOf (nsIn (thr.heap_1_1 w.params) 39 (signs48.getD 26 PySem.Str.empty)), by kernel_rfl!⟩
  | 27, _ => exact ⟨tokOf (nsIn (thr.heap_1_1 w.params) 39 (signs48.getD 27 PySem.Str.empty)), by kernel_rfl!⟩
  | 28, _ => exact ⟨tokOf (nsIn (thr.heap_1_1 w.params) 39 (signs48.getD 28 PySem.Str.empty)), by kernel_rfl!⟩
  | 29, _ => exact ⟨tokOf (nsIn (thr.heap_1_1 w.params) 39 (signs48.getD 29 PySem.Str.empty)), by kernel_rfl!⟩
  | 30, _ => exact ⟨tokOf (nsIn (thr.heap_1_1 w.params) 39 (signs48.getD 30 PySem.Str.empty)), by kernel_rfl!⟩
  | 31, _ => exact ⟨tokOf (nsIn (thr.heap_1_1 w.params) 39 (signs48.getD 31 PySem.Str.empty)), by kernel_rfl!⟩
  | 32, _ => exact ⟨tokOf (nsIn (thr.heap_1_1 w.params) 39 (signs48.getD 32 PySem.Str.empty)), by kernel_rfl!⟩
  | 33, _ => exact ⟨tokOf (nsIn (thr.heap_1_1 w.params) 39 (signs48.getD 33 PySem.Str.empty)), by kernel_rfl!⟩
  | 34, _ => exact ⟨tokOf (nsIn (thr.heap_1_1 w.params) 39 (signs48.getD 34 PySem.Str.empty)), by kernel_rfl!⟩
  | 35, _ => exact ⟨tokOf (nsIn (thr.heap_1_1 w.params) 39 (signs48.getD 35 PySem.Str.empty)), by kernel_rfl!⟩
  | 36, _ => exact ⟨tokOf (nsIn (thr.heap_1_1 w.params) 39 (signs48.getD 36 PySem.Str.empty)), by kernel_rfl!⟩
  | 37, _ => exact ⟨tokOf (nsIn (thr.heap_1_1 w.params) 39 (signs48.getD 37 PySem.Str.empty)), by kernel_rfl!⟩
  | 38, _ => exact ⟨tokOf (nsIn (thr.heap_1_1 w.params) 39 (signs48.getD 38 PySem.Str.empty)), by kernel_rfl!⟩
  | 39, _ => exact ⟨tokOf (nsIn (thr.heap_1_1 w.params) 39 (signs48.getD 39 PySem.Str.empty)), by kernel_rfl!⟩
  | 40, _ => exact ⟨tokOf (nsIn (thr.heap_1_1 w.params) 39 (signs48.getD 40 PySem.Str.empty)), by kernel_rfl!⟩
  | 41, _ => exact ⟨tokOf (nsIn (thr.heap_1_1 w.params) 39 (signs48.getD 41 PySem.Str.empty)), by kernel_rfl!⟩
  | 42, _ => exact ⟨tokOf (nsIn (thr.heap_1_1 w.params) 39 (signs48.getD 42 PySem.Str.empty)), by kernel_rfl!⟩
  | 43, _ => exact ⟨tokOf (nsIn (thr.heap_1_1 w.params) 39 (signs48.getD 43 PySem.Str.empty)), by kernel_rfl!⟩
  | 44, _ => exact ⟨tokOf (nsIn (thr.heap_1_1 w.params) 39 (signs48.getD 44 PySem.Str.empty)), by kernel_rfl!⟩
  | 45, _ => exact ⟨tokOf (nsIn (thr.heap_1_1 w.params) 39 (signs48.getD 45 PySem.Str.empty)), by kernel_rfl!⟩
  | 46, _ => exact ⟨tokOf (nsIn (thr.heap_1_1 w.params) 39 (signs48.getD 46 PySem.Str.empty)), by kernel_rfl!⟩
  | 47, _ => exact ⟨tokOf (nsIn (thr.heap_1_1 w.params) 39 (signs48.getD 47 PySem.Str.empty)), by kernel_rfl!⟩
  | n + 48, h => exact absurd h (by lia)
end Mine
end

section
open PySem PySem.W PyProof.Rows PySem.Spec PySem.Calls
set_option maxRecDepth 100000
set_option maxHeartbeats 4000000
namespace Mine
theorem at_arr {l : List Value} {i : Nat} {v : Value} (h : l[i]? = some v) : l.toArray[i]? = some v := by rw [List.getElem?_toArray]; exact h
structure Hide (p : Prop) : Prop where
  out : p
theorem news_drop3 {h₀ h : Heap} {L : Addr} {a b c : Addr × Obj} {r : List (Addr × Obj)} (N : News h₀ L h (a :: b :: c :: r)) : News h₀ L h r := fun p hp => N p (.tail _ (.tail _ (.tail _ hp)))
theorem slice_sign : ∀ i : _root_.Fin 48, Txt.slice (signs48.getD i.1 PySem.Str.empty ++ Str.ofString "; level-of=") none (some (-11)) = signs48.getD i.1 PySem.Str.empty := by decide +kernel
theorem turnC (w : World) (mean : ExcName → Option Value) (mg mb : Str → Option Value) (B : Str → Option Value) (rest : List (Addr × Obj)) (Ow Hv : Addr) (si sh lv : Int) (tt h1 h2 h3 : Tok) (ov : Array Value) (no : Nat) (q z : P3) (mk : Int)
    (b2 : 0 ≤ sh ∧ sh < 5) (b3 : 1 ≤ lv ∧ lv < 5) (b5 : 0 ≤ si ∧ si < 48) (nh : h1 ≠ 0 ∧ h2 ≠ 0 ∧ h3 ≠ 0)
    (okH : hsvOk (frac (11 * (si + 7)) 64) (if sh = 0 then 0 else frac sh 4) = true) (hq : hsvF (frac (11 * (si + 7)) 64) (if sh = 0 then 0 else frac sh 4) (frac lv 4) = q)
    (okR : rgbOk q.1 q.2.1 q.2.2 = true) (hz : rgbF q.1 q.2.1 q.2.2 = z) (c1 : (Float64.cmp z.1 z.1 == some Ordering.eq) = true) (c2 : (Float64.cmp z.2.1 z.2.1 == some Ordering.eq) = true) (c3 : (Float64.cmp z.2.2 z.2.2 == some Ordering.eq) = true)
    (hmk0 : b2i (Float64.cmp q.2.2 q.1 == some Ordering.gt) - b2i (Float64.cmp q.2.2 q.1 == some Ordering.lt) = mk)
    (zo : ov.size ≤ 100) (oOH : @LT.lt Nat _ Hv Ow) (r1 : ∀ p ∈ rest, p.1 ≠ Ow) :
    Seg 20 w mean mg mb (forBody (stAt (forBody (stAt lawD.body 6)) 2)) (fun y => if y = Str.ofString "text" then some (.str (txT (signs48.getD si.toNat PySem.Str.empty) sh lv) tt) else if y = Str.ofString "hsv" then some (.ref Hv) else if y = Str.ofString "owners" then some (.ref Ow) else B y)
      ((Ow, PySem.W.listOf ov no) :: (Hv, tup3 z.1 z.2.1 z.2.2 h1 h2 h3) :: rest)
      (fun _ _ _ => True) (fun f m' nw => f = .next ∧ (∀ y, y ≠ Str.ofString "parts" → y ≠ Str.ofString "share" → y ≠ Str.ofString "number" → y ≠ Str.ofString "r" → y ≠ Str.ofString "g" → y ≠ Str.ofString "b" → y ≠ Str.ofString "text" → y ≠ Str.ofString "hsv" →
          m' y = if y = Str.ofString "owners" then some (.ref Ow) else B y) ∧ ∃ a1, nw = (Ow, PySem.W.listOf (ov.push (.int mk a1)) (no + 1)) :: (Hv, tup3 z.1 z.2.1 z.2.2 h1 h2 h3) :: rest) := by
  w_top off
  unfold Seg; k_fill
  intro dp un gd a' ccd cl outer A₀ base h₀ L s Q E B' F X N T hpre hd hu hret
  unfold stAt lawD lawQ
  dsimp only [List.getD, List.getElem?_cons_succ, List.getElem?_cons_zero, Option.getD, forBody]
  obtain ⟨tn, hnum⟩ := nums_in w si.toNat (by lia)
  have hsn := sign_ok (i := si.toNat) (by lia)
  have hno := sign_no34 (i := si.toNat) (by lia)
  have hsl := slice_sign ⟨si.toNat, by lia⟩
  have hnu : ((si.toNat : Int) + 7) = si + 7 := by lia
  rw [hnu] at hnum
  simp only at hsl
  generalize signs48.getD si.toNat PySem.Str.empty = sn at *
  have Hsl : Hide _ := ⟨hsl⟩
  have Hnum : Hide _ := ⟨hnum⟩
  clear hsl hnum
  have lv34 := fig_no34 b3
  obtain ⟨lv1, lv2, lv3, lv4⟩ := fig_ok b3
  obtain ⟨sn1, sn2⟩ := hsn
  have Hmk : Hide _ := ⟨hmk0⟩
  clear hmk0
  by_cases hc : sh = 0
  · rw [if_pos hc] at okH hq
    rw [show txT sn sh lv = hdr0 sn (Str.ofString (toString lv)) from if_pos hc] at F
    repeat' ((fail_if_success (with_reducible show wpAny _ _ (call (Value.builtin "str.split") _) _ _ _)); first | (k_unfold; (try dsimp only)) | (first | with_reducible ((with_reducible show wpAny _ _ (subscriptTail (PySem.Expr.Subscript _ _ _) _ _ _) _ _ _); k_here; k_dflt (refine kba_turn (value' := PySem.Expr.Name (PySem.Str.ofString "_") ⟨0, 0, 0, 0⟩) (fun _ => rfl) ?_)) | with_reducible (k_here; (with_reducible show wpAny _ _ (call (Value.ref 62) [Value.int _ _] _) _ _ _); k_dflt (refine' use (is62 _ _ _ _ _ _ _) ?hB ?hF ?hX ?hN ?hT ?hp ?hd ?hu ?_; (case hB => k_asm); (case hF => k_asm); (case hX => k_asm); (case hN => k_asm); (case hT => k_asm); (case hp => trivial); (case hd => ktr_room); (case hu => ktr_units); k_whole); intro r2z9 n2z9 h2z9 tk2z9 F2z9 N2z9 hR2z9; obtain ⟨e21z9, e22z9⟩ := hR2z9; (try (first | rw [decide_eq_true (by lia)] at e21z9 | rw [decide_eq_false (by lia)] at e21z9)); subst e21z9; subst e22z9; (try dsimp only); (try k_sweep)) | with_reducible (k_here; (with_reducible show wpAny _ _ (call (Value.ref 55) [Value.int _ _] _) _ _ _); k_dflt (refine' use (is55 _ _ _ _ _ _ _) ?hB ?hF ?hX ?hN ?hT ?hp ?hd ?hu ?_; (case hB => k_asm); (case hF => k_asm); (case hX => k_asm); (case hN => k_asm); (case hT => k_asm); (case hp => trivial); (case hd => ktr_room); (case hu => ktr_units); k_whole); intro r2z9 n2z9 h2z9 tk2z9 F2z9 N2z9 hR2z9; obtain ⟨e21z9, e22z9⟩ := hR2z9; (try (first | rw [decide_eq_true (by lia)] at e21z9 | rw [decide_eq_false (by lia)] at e21z9)); subst e21z9; subst e22z9; (try dsimp only); (try k_sweep)) | with_reducible (k_here; (with_reducible show wpAny _ _ (call (Value.ref 48) [Value.int _ _] _) _ _ _); k_dflt (refine' use (is48 _ _ _ _ _ _ _) ?hB ?hF ?hX ?hN ?hT ?hp ?hd ?hu ?_; (case hB => k_asm); (case hF => k_asm); (case hX => k_asm); (case hN => k_asm); (case hT => k_asm); (case hp => trivial); (case hd => ktr_room); (case hu => ktr_units); k_whole); intro r2z9 n2z9 h2z9 tk2z9 F2z9 N2z9 hR2z9; obtain ⟨e21z9, e22z9⟩ := hR2z9; (try (first | rw [decide_eq_true (by lia)] at e21z9 | rw [decide_eq_false (by lia)] at e21z9)); subst e21z9; subst e22z9; (try dsimp only); (try k_sweep)) | with_reducible (k_here; (with_reducible show wpAny _ _ (call (Value.ref 69) _ _) _ _ _); k_dflt (refine' use (rgb_con' _ _ _ _ _ _ _ _ _ _ _ _ ?ok ?eq) ?hB ?hF ?hX ?hN ?hT ?hp ?hd ?hu ?_; (case hB => k_asm); (case hF => k_asm); (case hX => k_asm); (case hN => k_asm); (case hT => k_asm); (case hp => trivial); (case hd => ktr_room); (case hu => ktr_units); (case eq => assumption); (case ok => assumption); k_whole); intro r2z9 n2z9 h2z9 tk2z9 F2z9 N2z9 hR2z9; obtain ⟨D2z9, t21z9, t22z9, t23z9, e21z9, e22z9, l2z9, nz2z9⟩ := hR2z9; subst e21z9; subst e22z9; (try k_lt l2z9); (try dsimp only); (try k_sweep)) | with_reducible (k_here; (with_reducible show wpAny _ _ (call (Value.ref 76) _ _) _ _ _); k_dflt (refine' use (hsv_con' _ _ _ _ _ _ _ _ _ _ _ _ ?ok ?eq) ?hB ?hF ?hX ?hN ?hT ?hp ?hd ?hu ?_; (case hB => k_asm); (case hF => k_asm); (case hX => k_asm); (case hN => k_asm); (case hT => k_asm); (case hp => trivial); (case hd => ktr_room); (case hu => ktr_units); (case eq => assumption); (case ok => assumption); k_whole); intro r2z9 n2z9 h2z9 tk2z9 F2z9 N2z9 hR2z9; obtain ⟨D2z9, t21z9, t22z9, t23z9, e21z9, e22z9, l2z9, nz2z9⟩ := hR2z9; subst e21z9; subst e22z9; (try k_lt l2z9); (try dsimp only); (try k_sweep)) | with_reducible ((with_reducible show wpAny _ _ (execs [] _) _ _ _); ((with_reducible refine wpAny_execs_nil ?_); try dsimp only)) | with_reducible ((with_reducible show wpAny _ _ (execs (_ :: _) _) _ _ _); ((with_reducible refine cons_pos ?_); intro tkz9; try dsimp only)) | with_reducible ((with_reducible show wpAny _ _ (subscriptTail (Expr.Name _ _) (Expr.Constant _ _ _) (Value.ref _) (Value.int _ _)) _ _ _); (k_here; k_dflt (refine item_list ⟨_, News.get (by assumption) (by k_mem), rfl, _, rfl⟩ (by decide) (by decide) (at_arr (by rfl)) ?_))) | walk1) | (dsimp only; (first | with_reducible ((with_reducible show wpAny _ _ (subscriptTail (PySem.Expr.Subscript _ _ _) _ _ _) _ _ _); k_here; k_dflt (refine kba_turn (value' := PySem.Expr.Name (PySem.Str.ofString "_") ⟨0, 0, 0, 0⟩) (fun _ => rfl) ?_)) | with_reducible (k_here; (with_reducible show wpAny _ _ (call (Value.ref 62) [Value.int _ _] _) _ _ _); k_dflt (refine' use (is62 _ _ _ _ _ _ _) ?hB ?hF ?hX ?hN ?hT ?hp ?hd ?hu ?_; (case hB => k_asm); (case hF => k_asm); (case hX => k_asm); (case hN => k_asm); (case hT => k_asm); (case hp => trivial); (case hd => ktr_room); (case hu => ktr_units); k_whole); intro r2z9 n2z9 h2z9 tk2z9 F2z9 N2z9 hR2z9; obtain ⟨e21z9, e22z9⟩ := hR2z9; (try (first | rw [decide_eq_true (by lia)] at e21z9 | rw [decide_eq_false (by lia)] at e21z9)); subst e21z9; subst e22z9; (try dsimp only); (try k_sweep)) | with_reducible (k_here; (with_reducible show wpAny _ _ (call (Value.ref 55) [Value.int _ _] _) _ _ _); k_dflt (refine' use (is55 _ _ _ _ _ _ _) ?hB ?hF ?hX ?hN ?hT ?hp ?hd ?hu ?_; (case hB => k_asm); (case hF => k_asm); (case hX => k_asm); (case hN => k_asm); (case hT => k_asm); (case hp => trivial); (case hd => ktr_room); (case hu => ktr_units); k_whole); intro r2z9 n2z9 h2z9 tk2z9 F2z9 N2z9 hR2z9; obtain ⟨e21z9, e22z9⟩ := hR2z9; (try (first | rw [decide_eq_true (by lia)] at e21z9 | rw [decide_eq_false (by lia)] at e21z9)); subst e21z9; subst e22z9; (try dsimp only); (try k_sweep)) | with_reducible (k_here; (with_reducible show wpAny _ _ (call (Value.ref 48) [Value.int _ _] _) _ _ _); k_dflt (refine' use (is48 _ _ _ _ _ _ _) ?hB ?hF ?hX ?hN ?hT ?hp ?hd ?hu ?_; (case hB => k_asm); (case hF => k_asm); (case hX => k_asm); (case hN => k_asm); (case hT => k_asm); (case hp => trivial); (case hd => ktr_room); (case hu => ktr_units); k_whole); intro r2z9 n2z9 h2z9 tk2z9 F2z9 N2z9 hR2z9; obtain ⟨e21z9, e22z9⟩ := hR2z9; (try (first | rw [decide_eq_true (by lia)] at e21z9 | rw [decide_eq_false (by lia)] at e21z9)); subst e21z9; subst e22z9; (try dsimp only); (try k_sweep)) | with_reducible (k_here; (with_reducible show wpAny _ _ (call (Value.ref 69) _ _) _ _ _); k_dflt (refine' use (rgb_con' _ _ _ _ _ _ _ _ _ _ _ _ ?ok ?eq) ?hB ?hF ?hX ?hN ?hT ?hp ?hd ?hu ?_; (case hB => k_asm); (case hF => k_asm); (case hX => k_asm); (case hN => k_asm); (case hT => k_asm); (case hp => trivial); (case hd => ktr_room); (case hu => ktr_units); (case eq => assumption); (case ok => assumption); k_whole); intro r2z9 n2z9 h2z9 tk2z9 F2z9 N2z9 hR2z9; obtain ⟨D2z9, t21z9, t22z9, t23z9, e21z9, e22z9, l2z9, nz2z9⟩ := hR2z9; subst e21z9; subst e22z9; (try k_lt l2z9); (try dsimp only); (try k_sweep)) | with_reducible (k_here; (with_reducible show wpAny _ _ (call (Value.ref 76) _ _) _ _ _); k_dflt (refine' use (hsv_con' _ _ _ _ _ _ _ _ _ _ _ _ ?ok ?eq) ?hB ?hF ?hX ?hN ?hT ?hp ?hd ?hu ?_; (case hB => k_asm); (case hF => k_asm); (case hX => k_asm); (case hN => k_asm); (case hT => k_asm); (case hp => trivial); (case hd => ktr_room); (case hu => ktr_units); (case eq => assumption); (case ok => assumption); k_whole); intro r2z9 n2z9 h2z9 tk2z9 F2z9 N2z9 hR2z9; obtain ⟨D2z9, t21z9, t22z9, t23z9, e21z9, e22z9, l2z9, nz2z9⟩ := hR2z9; subst e21z9; subst e22z9; (try k_lt l2z9); (try dsimp only); (try k_sweep)) | with_reducible ((with_reducible show wpAny _ _ (execs [] _) _ _ _); ((with_reducible refine wpAny_execs_nil ?_); try dsimp only)) | with_reducible ((with_reducible show wpAny _ _ (execs (_ :: _) _) _ _ _); ((with_reducible refine cons_pos ?_); intro tkz9; try dsimp only)) | with_reducible ((with_reducible show wpAny _ _ (subscriptTail (Expr.Name _ _) (Expr.Constant _ _ _) (Value.ref _) (Value.int _ _)) _ _ _); (k_here; k_dflt (refine item_list ⟨_, News.get (by assumption) (by k_mem), rfl, _, rfl⟩ (by decide) (by decide) (at_arr (by rfl)) ?_))) | walk1)) | (leave1; try dsimp only))
    rename Fr _ _ _ _ => F1
    rename News _ _ _ _ => N1
    refine KSpl.split1 F1 N1 (by decide +kernel) ?_ ?hz
    case hz => (show (hdr0 _ _).length + 2 ≤ _; unfold hdr0; simp only [PySem.Str.length_append]; (have q1 : (PySem.Str.ofString "; level-of=\"").length = 12 := by decide +kernel); (have q2 : (PySem.Str.ofString "\"; share-of").length = 11 := by decide +kernel); rw [PySem.sizeLine_eq]; lia)
    intro D l2 h2' k2 e2 a2 F2 N2 l1
    rw [split0 hno lv34] at e2
    clear F1 N1
    kspl_open e2
    simp only [strValues, List.map_cons, List.map_nil] at N2 a2
    (try k_lt l1)
    dsimp only
    repeat' ((fail_if_success (with_reducible show wpAny _ _ (subscriptTail _ _ (Value.ref 39) _) _ _ _)); (fail_if_success (with_reducible show wpAny _ _ (compareOp CmpOp.NotEq (Value.ref _) (Value.ref _)) _ _ _)); first | (k_unfold; (try dsimp only)) | (first | with_reducible ((with_reducible show wpAny _ _ (subscriptTail (PySem.Expr.Subscript _ _ _) _ _ _) _ _ _); k_here; k_dflt (refine kba_turn (value' := PySem.Expr.Name (PySem.Str.ofString "_") ⟨0, 0, 0, 0⟩) (fun _ => rfl) ?_)) | with_reducible (k_here; (with_reducible show wpAny _ _ (call (Value.ref 62) [Value.int _ _] _) _ _ _); k_dflt (refine' use (is62 _ _ _ _ _ _ _) ?hB ?hF ?hX ?hN ?hT ?hp ?hd ?hu ?_; (case hB => k_asm); (case hF => k_asm); (case hX => k_asm); (case hN => k_asm); (case hT => k_asm); (case hp => trivial); (case hd => ktr_room); (case hu => ktr_units); k_whole); intro r2z9 n2z9 h2z9 tk2z9 F2z9 N2z9 hR2z9; obtain ⟨e21z9, e22z9⟩ := hR2z9; (try (first | rw [decide_eq_true (by lia)] at e21z9 | rw [decide_eq_false (by lia)] at e21z9)); subst e21z9; subst e22z9; (try dsimp only); (try k_sweep)) | with_reducible (k_here; (with_reducible show wpAny _ _ (call (Value.ref 55) [Value.int _ _] _) _ _ _); k_dflt (refine' use (is55 _ _ _ _ _ _ _) ?hB ?hF ?hX ?hN ?hT ?hp ?hd ?hu ?_; (case hB => k_asm); (case hF => k_asm); (case hX => k_asm); (case hN => k_asm); (case hT => k_asm); (case hp => trivial); (case hd => ktr_room); (case hu => ktr_units); k_whole); intro r2z9 n2z9 h2z9 tk2z9 F2z9 N2z9 hR2z9; obtain ⟨e21z9, e22z9⟩ := hR2z9; (try (first | rw [decide_eq_true (by lia)] at e21z9 | rw [decide_eq_false (by lia)] at e21z9)); subst e21z9; subst e22z9; (try dsimp only); (try k_sweep)) | with_reducible (k_here; (with_reducible show wpAny _ _ (call (Value.ref 48) [Value.int _ _] _) _ _ _); k_dflt (refine' use (is48 _ _ _ _ _ _ _) ?hB ?hF ?hX ?hN ?hT ?hp ?hd ?hu ?_; (case hB => k_asm); (case hF => k_asm); (case hX => k_asm); (case hN => k_asm); (case hT => k_asm); (case hp => trivial); (case hd => ktr_room); (case hu => ktr_units); k_whole); intro r2z9 n2z9 h2z9 tk2z9 F2z9 N2z9 hR2z9; obtain ⟨e21z9, e22z9⟩ := hR2z9; (try (first | rw [decide_eq_true (by lia)] at e21z9 | rw [decide_eq_false (by lia)] at e21z9)); subst e21z9; subst e22z9; (try dsimp only); (try k_sweep)) | with_reducible (k_here; (with_reducible show wpAny _ _ (call (Value.ref 69) _ _) _ _ _); k_dflt (refine' use (rgb_con' _ _ _ _ _ _ _ _ _ _ _ _ ?ok ?eq) ?hB ?hF ?hX ?hN ?hT ?hp ?hd ?hu ?_; (case hB => k_asm); (case hF => k_asm); (case hX => k_asm); (case hN => k_asm); (case hT => k_asm); (case hp => trivial); (case hd => ktr_room); (case hu => ktr_units); (case eq => assumption); (case ok => assumption); k_whole); intro r2z9 n2z9 h2z9 tk2z9 F2z9 N2z9 hR2z9; obtain ⟨D2z9, t21z9, t22z9, t23z9, e21z9, e22z9, l2z9, nz2z9⟩ := hR2z9; subst e21z9; subst e22z9; (try k_lt l2z9); (try dsimp only); (try k_sweep)) | with_reducible (k_here; (with_reducible show wpAny _ _ (call (Value.ref 76) _ _) _ _ _); k_dflt (refine' use (hsv_con' _ _ _ _ _ _ _ _ _ _ _ _ ?ok ?eq) ?hB ?hF ?hX ?hN ?hT ?hp ?hd ?hu ?_; (case hB => k_asm); (case hF => k_asm); (case hX => k_asm); (case hN => k_asm); (case hT => k_asm); (case hp => trivial); (case hd => ktr_room); (case hu => ktr_units); (case eq => assumption); (case ok => assumption); k_whole); intro r2z9 n2z9 h2z9 tk2z9 F2z9 N2z9 hR2z9; obtain ⟨D2z9, t21z9, t22z9, t23z9, e21z9, e22z9, l2z9, nz2z9⟩ := hR2z9; subst e21z9; subst e22z9; (try k_lt l2z9); (try dsimp only); (try k_sweep)) | with_reducible ((with_reducible show wpAny _ _ (execs [] _) _ _ _); ((with_reducible refine wpAny_execs_nil ?_); try dsimp only)) | with_reducible ((with_reducible show wpAny _ _ (execs (_ :: _) _) _ _ _); ((with_reducible refine cons_pos ?_); intro tkz9; try dsimp only)) | with_reducible ((with_reducible show wpAny _ _ (subscriptTail (Expr.Name _ _) (Expr.Constant _ _ _) (Value.ref _) (Value.int _ _)) _ _ _); (k_here; k_dflt (refine item_list ⟨_, News.get (by assumption) (by k_mem), rfl, _, rfl⟩ (by decide) (by decide) (at_arr (by rfl)) ?_))) | walk1) | (dsimp only; (first | with_reducible ((with_reducible show wpAny _ _ (subscriptTail (PySem.Expr.Subscript _ _ _) _ _ _) _ _ _); k_here; k_dflt (refine kba_turn (value' := PySem.Expr.Name (PySem.Str.ofString "_") ⟨0, 0, 0, 0⟩) (fun _ => rfl) ?_)) | with_reducible (k_here; (with_reducible show wpAny _ _ (call (Value.ref 62) [Value.int _ _] _) _ _ _); k_dflt (refine' use (is62 _ _ _ _ _ _ _) ?hB ?hF ?hX ?hN ?hT ?hp ?hd ?hu ?_; (case hB => k_asm); (case hF => k_asm); (case hX => k_asm); (case hN => k_asm); (case hT => k_asm); (case hp => trivial); (case hd => ktr_room); (case hu => ktr_units); k_whole); intro r2z9 n2z9 h2z9 tk2z9 F2z9 N2z9 hR2z9; obtain ⟨e21z9, e22z9⟩ := hR2z9; (try (first | rw [decide_eq_true (by lia)] at e21z9 | rw [decide_eq_false (by lia)] at e21z9)); subst e21z9; subst e22z9; (try dsimp only); (try k_sweep)) | with_reducible (k_here; (with_reducible show wpAny _ _ (call (Value.ref 55) [Value.int _ _] _) _ _ _); k_dflt (refine' use (is55 _ _ _ _ _ _ _) ?hB ?hF ?hX ?hN ?hT ?hp ?hd ?hu ?_; (case hB => k_asm); (case hF => k_asm); (case hX => k_asm); (case hN => k_asm); (case hT => k_asm); (case hp => trivial); (case hd => ktr_room); (case hu => ktr_units); k_whole); intro r2z9 n2z9 h2z9 tk2z9 F2z9 N2z9 hR2z9; obtain ⟨e21z9, e22z9⟩ := hR2z9; (try (first | rw [decide_eq_true (by lia)] at e21z9 | rw [decide_eq_false (by lia)] at e21z9)); subst e21z9; subst e22z9; (try dsimp only); (try k_sweep)) | with_reducible (k_here; (with_reducible show wpAny _ _ (call (Value.ref 48) [Value.int _ _] _) _ _ _); k_dflt (refine' use (is48 _ _ _ _ _ _ _) ?hB ?hF ?hX ?hN ?hT ?hp ?hd ?hu ?_; (case hB => k_asm); (case hF => k_asm); (case hX => k_asm); (case hN => k_asm); (case hT => k_asm); (case hp => trivial); (case hd => ktr_room); (case hu => ktr_units); k_whole); intro r2z9 n2z9 h2z9 tk2z9 F2z9 N2z9 hR2z9; obtain ⟨e21z9, e22z9⟩ := hR2z9; (try (first | rw [decide_eq_true (by lia)] at e21z9 | rw [decide_eq_false (by lia)] at e21z9)); subst e21z9; subst e22z9; (try dsimp only); (try k_sweep)) | with_reducible (k_here; (with_reducible show wpAny _ _ (call (Value.ref 69) _ _) _ _ _); k_dflt (refine' use (rgb_con' _ _ _ _ _ _ _ _ _ _ _ _ ?ok ?eq) ?hB ?hF ?hX ?hN ?hT ?hp ?hd ?hu ?_; (case hB => k_asm); (case hF => k_asm); (case hX => k_asm); (case hN => k_asm); (case hT => k_asm); (case hp => trivial); (case hd => ktr_room); (case hu => ktr_units); (case eq => assumption); (case ok => assumption); k_whole); intro r2z9 n2z9 h2z9 tk2z9 F2z9 N2z9 hR2z9; obtain ⟨D2z9, t21z9, t22z9, t23z9, e21z9, e22z9, l2z9, nz2z9⟩ := hR2z9; subst e21z9; subst e22z9; (try k_lt l2z9); (try dsimp only); (try k_sweep)) | with_reducible (k_here; (with_reducible show wpAny _ _ (call (Value.ref 76) _ _) _ _ _); k_dflt (refine' use (hsv_con' _ _ _ _ _ _ _ _ _ _ _ _ ?ok ?eq) ?hB ?hF ?hX ?hN ?hT ?hp ?hd ?hu ?_; (case hB => k_asm); (case hF => k_asm); (case hX => k_asm); (case hN => k_asm); (case hT => k_asm); (case hp => trivial); (case hd => ktr_room); (case hu => ktr_units); (case eq => assumption); (case ok => assumption); k_whole); intro r2z9 n2z9 h2z9 tk2z9 F2z9 N2z9 hR2z9; obtain ⟨D2z9, t21z9, t22z9, t23z9, e21z9, e22z9, l2z9, nz2z9⟩ := hR2z9; subst e21z9; subst e22z9; (try k_lt l2z9); (try dsimp only); (try k_sweep)) | with_reducible ((with_reducible show wpAny _ _ (execs [] _) _ _ _); ((with_reducible refine wpAny_execs_nil ?_); try dsimp only)) | with_reducible ((with_reducible show wpAny _ _ (execs (_ :: _) _) _ _ _); ((with_reducible refine cons_pos ?_); intro tkz9; try dsimp only)) | with_reducible ((with_reducible show wpAny _ _ (subscriptTail (Expr.Name _ _) (Expr.Constant _ _ _) (Value.ref _) (Value.int _ _)) _ _ _); (k_here; k_dflt (refine item_list ⟨_, News.get (by assumption) (by k_mem), rfl, _, rfl⟩ (by decide) (by decide) (at_arr (by rfl)) ?_))) | walk1)) | (leave1; try dsimp only))
    dsimp only
    rw [Hsl.out]
    refine look39 (by rename Fr _ _ _ _ => F5; exact F5) X Hnum.out ?_
    dsimp only
    repeat' ((fail_if_success (with_reducible show wpAny _ _ (compareOp CmpOp.NotEq (Value.ref _) (Value.ref _)) _ _ _)); first | (k_unfold; (try dsimp only)) | (first | with_reducible ((with_reducible show wpAny _ _ (subscriptTail (PySem.Expr.Subscript _ _ _) _ _ _) _ _ _); k_here; k_dflt (refine kba_turn (value' := PySem.Expr.Name (PySem.Str.ofString "_") ⟨0, 0, 0, 0⟩) (fun _ => rfl) ?_)) | with_reducible (k_here; (with_reducible show wpAny _ _ (call (Value.ref 62) [Value.int _ _] _) _ _ _); k_dflt (refine' use (is62 _ _ _ _ _ _ _) ?hB ?hF ?hX ?hN ?hT ?hp ?hd ?hu ?_; (case hB => k_asm); (case hF => k_asm); (case hX => k_asm); (case hN => k_asm); (case hT => k_asm); (case hp => trivial); (case hd => ktr_room); (case hu => ktr_units); k_whole); intro r2z9 n2z9 h2z9 tk2z9 F2z9 N2z9 hR2z9; obtain ⟨e21z9, e22z9⟩ := hR2z9; (try (first | rw [decide_eq_true (by lia)] at e21z9 | rw [decide_eq_false (by lia)] at e21z9)); subst e21z9; subst e22z9; (try dsimp only); (try k_sweep)) | with_reducible (k_here; (with_reducible show wpAny _ _ (call (Value.ref 55) [Value.int _ _] _) _ _ _); k_dflt (refine' use (is55 _ _ _ _ _ _ _) ?hB ?hF ?hX ?hN ?hT ?hp ?hd ?hu ?_; (case hB => k_asm); (case hF => k_asm); (case hX => k_asm); (case hN => k_asm); (case hT => k_asm); (case hp => trivial); (case hd => ktr_room); (case hu => ktr_units); k_whole); intro r2z9 n2z9 h2z9 tk2z9 F2z9 N2z9 hR2z9; obtain ⟨e21z9, e22z9⟩ := hR2z9; (try (first | rw [decide_eq_true (by lia)] at e21z9 | rw [decide_eq_false (by lia)] at e21z9)); subst e21z9; subst e22z9; (try dsimp only); (try k_sweep)) | with_reducible (k_here; (with_reducible show wpAny _ _ (call (Value.ref 48) [Value.int _ _] _) _ _ _); k_dflt (refine' use (is48 _ _ _ _ _ _ _) ?hB ?hF ?hX ?hN ?hT ?hp ?hd ?hu ?_; (case hB => k_asm); (case hF => k_asm); (case hX => k_asm); (case hN => k_asm); (case hT => k_asm); (case hp => trivial); (case hd => ktr_room); (case hu => ktr_units); k_whole); intro r2z9 n2z9 h2z9 tk2z9 F2z9 N2z9 hR2z9; obtain ⟨e21z9, e22z9⟩ := hR2z9; (try (first | rw [decide_eq_true (by lia)] at e21z9 | rw [decide_eq_false (by lia)] at e21z9)); subst e21z9; subst e22z9; (try dsimp only); (try k_sweep)) | with_reducible (k_here; (with_reducible show wpAny _ _ (call (Value.ref 69) _ _) _ _ _); k_dflt (refine' use (rgb_con' _ _ _ _ _ _ _ _ _ _ _ _ ?ok ?eq) ?hB ?hF ?hX ?hN ?hT ?hp ?hd ?hu ?_; (case hB => k_asm); (case hF => k_asm); (case hX => k_asm); (case hN => k_asm); (case hT => k_asm); (case hp => trivial); (case hd => ktr_room); (case hu => ktr_units); (case eq => assumption); (case ok => assumption); k_whole); intro r2z9 n2z9 h2z9 tk2z9 F2z9 N2z9 hR2z9; obtain ⟨D2z9, t21z9, t22z9, t23z9, e21z9, e22z9, l2z9, nz2z9⟩ := hR2z9; subst e21z9; subst e22z9; (try k_lt l2z9); (try dsimp only); (try k_sweep)) | with_reducible (k_here; (with_reducible show wpAny _ _ (call (Value.ref 76) _ _) _ _ _); k_dflt (refine' use (hsv_con' _ _ _ _ _ _ _ _ _ _ _ _ ?ok ?eq) ?hB ?hF ?hX ?hN ?hT ?hp ?hd ?hu ?_; (case hB => k_asm); (case hF => k_asm); (case hX => k_asm); (case hN => k_asm); (case hT => k_asm); (case hp => trivial); (case hd => ktr_room); (case hu => ktr_units); (case eq => assumption); (case ok => assumption); k_whole); intro r2z9 n2z9 h2z9 tk2z9 F2z9 N2z9 hR2z9; obtain ⟨D2z9, t21z9, t22z9, t23z9, e21z9, e22z9, l2z9, nz2z9⟩ := hR2z9; subst e21z9; subst e22z9; (try k_lt l2z9); (try dsimp only); (try k_sweep)) | with_reducible ((with_reducible show wpAny _ _ (execs [] _) _ _ _); ((with_reducible refine wpAny_execs_nil ?_); try dsimp only)) | with_reducible ((with_reducible show wpAny _ _ (execs (_ :: _) _) _ _ _); ((with_reducible refine cons_pos ?_); intro tkz9; try dsimp only)) | with_reducible ((with_reducible show wpAny _ _ (subscriptTail (Expr.Name _ _) (Expr.Constant _ _ _) (Value.ref _) (Value.int _ _)) _ _ _); (k_here; k_dflt (refine item_list ⟨_, News.get (by assumption) (by k_mem), rfl, _, rfl⟩ (by decide) (by decide) (at_arr (by rfl)) ?_))) | walk1) | (dsimp only; (first | with_reducible ((with_reducible show wpAny _ _ (subscriptTail (PySem.Expr.Subscript _ _ _) _ _ _) _ _ _); k_here; k_dflt (refine kba_turn (value' := PySem.Expr.Name (PySem.Str.ofString "_") ⟨0, 0, 0, 0⟩) (fun _ => rfl) ?_)) | with_reducible (k_here; (with_reducible show wpAny _ _ (call (Value.ref 62) [Value.int _ _] _) _ _ _); k_dflt (refine' use (is62 _ _ _ _ _ _ _) ?hB ?hF ?hX ?hN ?hT ?hp ?hd ?hu ?_; (case hB => k_asm); (case hF => k_asm); (case hX => k_asm); (case hN => k_asm); (case hT => k_asm); (case hp => trivial); (case hd => ktr_room); (case hu => ktr_units); k_whole); intro r2z9 n2z9 h2z9 tk2z9 F2z9 N2z9 hR2z9; obtain ⟨e21z9, e22z9⟩ := hR2z9; (try (first | rw [decide_eq_true (by lia)] at e21z9 | rw [decide_eq_false (by lia)] at e21z9)); subst e21z9; subst e22z9; (try dsimp only); (try k_sweep)) | with_reducible (k_here; (with_reducible show wpAny _ _ (call (Value.ref 55) [Value.int _ _] _) _ _ _); k_dflt (refine' use (is55 _ _ _ _ _ _ _) ?hB ?hF ?hX ?hN ?hT ?hp ?hd ?hu ?_; (case hB => k_asm); (case hF => k_asm); (case hX => k_asm); (case hN => k_asm); (case hT => k_asm); (case hp => trivial); (case hd => ktr_room); (case hu => ktr_units); k_whole); intro r2z9 n2z9 h2z9 tk2z9 F2z9 N2z9 hR2z9; obtain ⟨e21z9, e22z9⟩ := hR2z9; (try (first | rw [decide_eq_true (by lia)] at e21z9 | rw [decide_eq_false (by lia)] at e21z9)); subst e21z9; subst e22z9; (try dsimp only); (try k_sweep)) | with_reducible (k_here; (with_reducible show wpAny _ _ (call (Value.ref 48) [Value.int _ _] _) _ _ _); k_dflt (refine' use (is48 _ _ _ _ _ _ _) ?hB ?hF ?hX ?hN ?hT ?hp ?hd ?hu ?_; (case hB => k_asm); (case hF => k_asm); (case hX => k_asm); (case hN => k_asm); (case hT => k_asm); (case hp => trivial); (case hd => ktr_room); (case hu => ktr_units); k_whole); intro r2z9 n2z9 h2z9 tk2z9 F2z9 N2z9 hR2z9; obtain ⟨e21z9, e22z9⟩ := hR2z9; (try (first | rw [decide_eq_true (by lia)] at e21z9 | rw [decide_eq_false (by lia)] at e21z9)); subst e21z9; subst e22z9; (try dsimp only); (try k_sweep)) | with_reducible (k_here; (with_reducible show wpAny _ _ (call (Value.ref 69) _ _) _ _ _); k_dflt (refine' use (rgb_con' _ _ _ _ _ _ _ _ _ _ _ _ ?ok ?eq) ?hB ?hF ?hX ?hN ?hT ?hp ?hd ?hu ?_; (case hB => k_asm); (case hF => k_asm); (case hX => k_asm); (case hN => k_asm); (case hT => k_asm); (case hp => trivial); (case hd => ktr_room); (case hu => ktr_units); (case eq => assumption); (case ok => assumption); k_whole); intro r2z9 n2z9 h2z9 tk2z9 F2z9 N2z9 hR2z9; obtain ⟨D2z9, t21z9, t22z9, t23z9, e21z9, e22z9, l2z9, nz2z9⟩ := hR2z9; subst e21z9; subst e22z9; (try k_lt l2z9); (try dsimp only); (try k_sweep)) | with_reducible (k_here; (with_reducible show wpAny _ _ (call (Value.ref 76) _ _) _ _ _); k_dflt (refine' use (hsv_con' _ _ _ _ _ _ _ _ _ _ _ _ ?ok ?eq) ?hB ?hF ?hX ?hN ?hT ?hp ?hd ?hu ?_; (case hB => k_asm); (case hF => k_asm); (case hX => k_asm); (case hN => k_asm); (case hT => k_asm); (case hp => trivial); (case hd => ktr_room); (case hu => ktr_units); (case eq => assumption); (case ok => assumption); k_whole); intro r2z9 n2z9 h2z9 tk2z9 F2z9 N2z9 hR2z9; obtain ⟨D2z9, t21z9, t22z9, t23z9, e21z9, e22z9, l2z9, nz2z9⟩ := hR2z9; subst e21z9; subst e22z9; (try k_lt l2z9); (try dsimp only); (try k_sweep)) | with_reducible ((with_reducible show wpAny _ _ (execs [] _) _ _ _); ((with_reducible refine wpAny_execs_nil ?_); try dsimp only)) | with_reducible ((with_reducible show wpAny _ _ (execs (_ :: _) _) _ _ _); ((with_reducible refine cons_pos ?_); intro tkz9; try dsimp only)) | with_reducible ((with_reducible show wpAny _ _ (subscriptTail (Expr.Name _ _) (Expr.Constant _ _ _) (Value.ref _) (Value.int _ _)) _ _ _); (k_here; k_dflt (refine item_list ⟨_, News.get (by assumption) (by k_mem), rfl, _, rfl⟩ (by decide) (by decide) (at_arr (by rfl)) ?_))) | walk1)) | (leave1; try dsimp only))
    rename Fr _ _ _ _ => F8
    rename News _ _ _ _ => N8
    rename (_ ∧ _ ∧ _ → _ ∧ _ ∧ _) => nzR
    rename (_ ≠ 0 → _ ∧ _ ∧ _) => nzH
    refine ne_tup3 (N8 _ (.head _)).1 (N8 _ (.tail _ (.tail _ (.tail _ (.tail _ (.head _)))))).1 c1 c2 c3 (nzR (nzH (Nat.succ_ne_zero _))) nh (booked_none X F8) (by ktr_units) ?_
    clear okH hq okR hz c1 c2 c3 nzR nzH Hsl Hnum hno lv34
    repeat' ((fail_if_success (with_reducible show wpAny _ _ (spliced (backTo _ (starEach [] _))) _ _ _)); first | (k_unfold; (try dsimp only)) | (first | with_reducible ((with_reducible show wpAny _ _ (subscriptTail (PySem.Expr.Subscript _ _ _) _ _ _) _ _ _); k_here; k_dflt (refine kba_turn (value' := PySem.Expr.Name (PySem.Str.ofString "_") ⟨0, 0, 0, 0⟩) (fun _ => rfl) ?_)) | with_reducible (k_here; (with_reducible show wpAny _ _ (call (Value.ref 62) [Value.int _ _] _) _ _ _); k_dflt (refine' use (is62 _ _ _ _ _ _ _) ?hB ?hF ?hX ?hN ?hT ?hp ?hd ?hu ?_; (case hB => k_asm); (case hF => k_asm); (case hX => k_asm); (case hN => k_asm); (case hT => k_asm); (case hp => trivial); (case hd => ktr_room); (case hu => ktr_units); k_whole); intro r2z9 n2z9 h2z9 tk2z9 F2z9 N2z9 hR2z9; obtain ⟨e21z9, e22z9⟩ := hR2z9; (try (first | rw [decide_eq_true (by lia)] at e21z9 | rw [decide_eq_false (by lia)] at e21z9)); subst e21z9; subst e22z9; (try dsimp only); (try k_sweep)) | with_reducible (k_here; (with_reducible show wpAny _ _ (call (Value.ref 55) [Value.int _ _] _) _ _ _); k_dflt (refine' use (is55 _ _ _ _ _ _ _) ?hB ?hF ?hX ?hN ?hT ?hp ?hd ?hu ?_; (case hB => k_asm); (case hF => k_asm); (case hX => k_asm); (case hN => k_asm); (case hT => k_asm); (case hp => trivial); (case hd => ktr_room); (case hu => ktr_units); k_whole); intro r2z9 n2z9 h2z9 tk2z9 F2z9 N2z9 hR2z9; obtain ⟨e21z9, e22z9⟩ := hR2z9; (try (first | rw [decide_eq_true (by lia)] at e21z9 | rw [decide_eq_false (by lia)] at e21z9)); subst e21z9; subst e22z9; (try dsimp only); (try k_sweep)) | with_reducible (k_here; (with_reducible show wpAny _ _ (call (Value.ref 48) [Value.int _ _] _) _ _ _); k_dflt (refine' use (is48 _ _ _ _ _ _ _) ?hB ?hF ?hX ?hN ?hT ?hp ?hd ?hu ?_; (case hB => k_asm); (case hF => k_asm); (case hX => k_asm); (case hN => k_asm); (case hT => k_asm); (case hp => trivial); (case hd => ktr_room); (case hu => ktr_units); k_whole); intro r2z9 n2z9 h2z9 tk2z9 F2z9 N2z9 hR2z9; obtain ⟨e21z9, e22z9⟩ := hR2z9; (try (first | rw [decide_eq_true (by lia)] at e21z9 | rw [decide_eq_false (by lia)] at e21z9)); subst e21z9; subst e22z9; (try dsimp only); (try k_sweep)) | with_reducible (k_here; (with_reducible show wpAny _ _ (call (Value.ref 69) _ _) _ _ _); k_dflt (refine' use (rgb_con' _ _ _ _ _ _ _ _ _ _ _ _ ?ok ?eq) ?hB ?hF ?hX ?hN ?hT ?hp ?hd ?hu ?_; (case hB => k_asm); (case hF => k_asm); (case hX => k_asm); (case hN => k_asm); (case hT => k_asm); (case hp => trivial); (case hd => ktr_room); (case hu => ktr_units); (case eq => assumption); (case ok => assumption); k_whole); intro r2z9 n2z9 h2z9 tk2z9 F2z9 N2z9 hR2z9; obtain ⟨D2z9, t21z9, t22z9, t23z9, e21z9, e22z9, l2z9, nz2z9⟩ := hR2z9; subst e21z9; subst e22z9; (try k_lt l2z9); (try dsimp only); (try k_sweep)) | with_reducible (k_here; (with_reducible show wpAny _ _ (call (Value.ref 76) _ _) _ _ _); k_dflt (refine' use (hsv_con' _ _ _ _ _ _ _ _ _ _ _ _ ?ok ?eq) ?hB ?hF ?hX ?hN ?hT ?hp ?hd ?hu ?_; (case hB => k_asm); (case hF => k_asm); (case hX => k_asm); (case hN => k_asm); (case hT => k_asm); (case hp => trivial); (case hd => ktr_room); (case hu => ktr_units); (case eq => assumption); (case ok => assumption); k_whole); intro r2z9 n2z9 h2z9 tk2z9 F2z9 N2z9 hR2z9; obtain ⟨D2z9, t21z9, t22z9, t23z9, e21z9, e22z9, l2z9, nz2z9⟩ := hR2z9; subst e21z9; subst e22z9; (try k_lt l2z9); (try dsimp only); (try k_sweep)) | with_reducible ((with_reducible show wpAny _ _ (execs [] _) _ _ _); ((with_reducible refine wpAny_execs_nil ?_); try dsimp only)) | with_reducible ((with_reducible show wpAny _ _ (execs (_ :: _) _) _ _ _); ((with_reducible refine cons_pos ?_); intro tkz9; try dsimp only)) | with_reducible ((with_reducible show wpAny _ _ (subscriptTail (Expr.Name _ _) (Expr.Constant _ _ _) (Value.ref _) (Value.int _ _)) _ _ _); (k_here; k_dflt (refine item_list ⟨_, News.get (by assumption) (by k_mem), rfl, _, rfl⟩ (by decide) (by decide) (at_arr (by rfl)) ?_))) | walk1) | (dsimp only; (first | with_reducible ((with_reducible show wpAny _ _ (subscriptTail (PySem.Expr.Subscript _ _ _) _ _ _) _ _ _); k_here; k_dflt (refine kba_turn (value' := PySem.Expr.Name (PySem.Str.ofString "_") ⟨0, 0, 0, 0⟩) (fun _ => rfl) ?_)) | with_reducible (k_here; (with_reducible show wpAny _ _ (call (Value.ref 62) [Value.int _ _] _) _ _ _); k_dflt (refine' use (is62 _ _ _ _ _ _ _) ?hB ?hF ?hX ?hN ?hT ?hp ?hd ?hu ?_; (case hB => k_asm); (case hF => k_asm); (case hX => k_asm); (case hN => k_asm); (case hT => k_asm); (case hp => trivial); (case hd => ktr_room); (case hu => ktr_units); k_whole); intro r2z9 n2z9 h2z9 tk2z9 F2z9 N2z9 hR2z9; obtain ⟨e21z9, e22z9⟩ := hR2z9; (try (first | rw [decide_eq_true (by lia)] at e21z9 | rw [decide_eq_false (by lia)] at e21z9)); subst e21z9; subst e22z9; (try dsimp only); (try k_sweep)) | with_reducible (k_here; (with_reducible show wpAny _ _ (call (Value.ref 55) [Value.int _ _] _) _ _ _); k_dflt (refine' use (is55 _ _ _ _ _ _ _) ?hB ?hF ?hX ?hN ?hT ?hp ?hd ?hu ?_; (case hB => k_asm); (case hF => k_asm); (case hX => k_asm); (case hN => k_asm); (case hT => k_asm); (case hp => trivial); (case hd => ktr_room); (case hu => ktr_units); k_whole); intro r2z9 n2z9 h2z9 tk2z9 F2z9 N2z9 hR2z9; obtain ⟨e21z9, e22z9⟩ := hR2z9; (try (first | rw [decide_eq_true (by lia)] at e21z9 | rw [decide_eq_false (by lia)] at e21z9)); subst e21z9; subst e22z9; (try dsimp only); (try k_sweep)) | with_reducible (k_here; (with_reducible show wpAny _ _ (call (Value.ref 48) [Value.int _ _] _) _ _ _); k_dflt (refine' use (is48 _ _ _ _ _ _ _) ?hB ?hF ?hX ?hN ?hT ?hp ?hd ?hu ?_; (case hB => k_asm); (case hF => k_asm); (case hX => k_asm); (case hN => k_asm); (case hT => k_asm); (case hp => trivial); (case hd => ktr_room); (case hu => ktr_units); k_whole); intro r2z9 n2z9 h2z9 tk2z9 F2z9 N2z9 hR2z9; obtain ⟨e21z9, e22z9⟩ := hR2z9; (try (first | rw [decide_eq_true (by lia)] at e21z9 | rw [decide_eq_false (by lia)] at e21z9)); subst e21z9; subst e22z9; (try dsimp only); (try k_sweep)) | with_reducible (k_here; (with_reducible show wpAny _ _ (call (Value.ref 69) _ _) _ _ _); k_dflt (refine' use (rgb_con' _ _ _ _ _ _ _ _ _ _ _ _ ?ok ?eq) ?hB ?hF ?hX ?hN ?hT ?hp ?hd ?hu ?_; (case hB => k_asm); (case hF => k_asm); (case hX => k_asm); (case hN => k_asm); (case hT => k_asm); (case hp => trivial); (case hd => ktr_room); (case hu => ktr_units); (case eq => assumption); (case ok => assumption); k_whole); intro r2z9 n2z9 h2z9 tk2z9 F2z9 N2z9 hR2z9; obtain ⟨D2z9, t21z9, t22z9, t23z9, e21z9, e22z9, l2z9, nz2z9⟩ := hR2z9; subst e21z9; subst e22z9; (try k_lt l2z9); (try dsimp only); (try k_sweep)) | with_reducible (k_here; (with_reducible show wpAny _ _ (call (Value.ref 76) _ _) _ _ _); k_dflt (refine' use (hsv_con' _ _ _ _ _ _ _ _ _ _ _ _ ?ok ?eq) ?hB ?hF ?hX ?hN ?hT ?hp ?hd ?hu ?_; (case hB => k_asm); (case hF => k_asm); (case hX => k_asm); (case hN => k_asm); (case hT => k_asm); (case hp => trivial); (case hd => ktr_room); (case hu => ktr_units); (case eq => assumption); (case ok => assumption); k_whole); intro r2z9 n2z9 h2z9 tk2z9 F2z9 N2z9 hR2z9; obtain ⟨D2z9, t21z9, t22z9, t23z9, e21z9, e22z9, l2z9, nz2z9⟩ := hR2z9; subst e21z9; subst e22z9; (try k_lt l2z9); (try dsimp only); (try k_sweep)) | with_reducible ((with_reducible show wpAny _ _ (execs [] _) _ _ _); ((with_reducible refine wpAny_execs_nil ?_); try dsimp only)) | with_reducible ((with_reducible show wpAny _ _ (execs (_ :: _) _) _ _ _); ((with_reducible refine cons_pos ?_); intro tkz9; try dsimp only)) | with_reducible ((with_reducible show wpAny _ _ (subscriptTail (Expr.Name _ _) (Expr.Constant _ _ _) (Value.ref _) (Value.int _ _)) _ _ _); (k_here; k_dflt (refine item_list ⟨_, News.get (by assumption) (by k_mem), rfl, _, rfl⟩ (by decide) (by decide) (at_arr (by rfl)) ?_))) | walk1)) | (leave1; try dsimp only))
    rw [Hmk.out]
    repeat' (first | (k_unfold; (try dsimp only)) | (first | with_reducible ((with_reducible show wpAny _ _ (subscriptTail (PySem.Expr.Subscript _ _ _) _ _ _) _ _ _); k_here; k_dflt (refine kba_turn (value' := PySem.Expr.Name (PySem.Str.ofString "_") ⟨0, 0, 0, 0⟩) (fun _ => rfl) ?_)) | with_reducible (k_here; (with_reducible show wpAny _ _ (call (Value.ref 62) [Value.int _ _] _) _ _ _); k_dflt (refine' use (is62 _ _ _ _ _ _ _) ?hB ?hF ?hX ?hN ?hT ?hp ?hd ?hu ?_; (case hB => k_asm); (case hF => k_asm); (case hX => k_asm); (case hN => k_asm); (case hT => k_asm); (case hp => trivial); (case hd => ktr_room); (case hu => ktr_units); k_whole); intro r2z9 n2z9 h2z9 tk2z9 F2z9 N2z9 hR2z9; obtain ⟨e21z9, e22z9⟩ := hR2z9; (try (first | rw [decide_eq_true (by lia)] at e21z9 | rw [decide_eq_false (by lia)] at e21z9)); subst e21z9; subst e22z9; (try dsimp only); (try k_sweep)) | with_reducible (k_here; (with_reducible show wpAny _ _ (call (Value.ref 55) [Value.int _ _] _) _ _ _); k_dflt (refine' use (is55 _ _ _ _ _ _ _) ?hB ?hF ?hX ?hN ?hT ?hp ?hd ?hu ?_; (case hB => k_asm); (case hF => k_asm); (case hX => k_asm); (case hN => k_asm); (case hT => k_asm); (case hp => trivial); (case hd => ktr_room); (case hu => ktr_units); k_whole); intro r2z9 n2z9 h2z9 tk2z9 F2z9 N2z9 hR2z9; obtain ⟨e21z9, e22z9⟩ := hR2z9; (try (first | rw [decide_eq_true (by lia)] at e21z9 | rw [decide_eq_false (by lia)] at e21z9)); subst e21z9; subst e22z9; (try dsimp only); (try k_sweep)) | with_reducible (k_here; (with_reducible show wpAny _ _ (call (Value.ref 48) [Value.int _ _] _) _ _ _); k_dflt (refine' use (is48 _ _ _ _ _ _ _) ?hB ?hF ?hX ?hN ?hT ?hp ?hd ?hu ?_; (case hB => k_asm); (case hF => k_asm); (case hX => k_asm); (case hN => k_asm); (case hT => k_asm); (case hp => trivial); (case hd => ktr_room); (case hu => ktr_units); k_whole); intro r2z9 n2z9 h2z9 tk2z9 F2z9 N2z9 hR2z9; obtain ⟨e21z9, e22z9⟩ := hR2z9; (try (first | rw [decide_eq_true (by lia)] at e21z9 | rw [decide_eq_false (by lia)] at e21z9)); subst e21z9; subst e22z9; (try dsimp only); (try k_sweep)) | with_reducible (k_here; (with_reducible show wpAny _ _ (call (Value.ref 69) _ _) _ _ _); k_dflt (refine' use (rgb_con' _ _ _ _ _ _ _ _ _ _ _ _ ?ok ?eq) ?hB ?hF ?hX ?hN ?hT ?hp ?hd ?hu ?_; (case hB => k_asm); (case hF => k_asm); (case hX => k_asm); (case hN => k_asm); (case hT => k_asm); (case hp => trivial); (case hd => ktr_room); (case hu => ktr_units); (case eq => assumption); (case ok => assumption); k_whole); intro r2z9 n2z9 h2z9 tk2z9 F2z9 N2z9 hR2z9; obtain ⟨D2z9, t21z9, t22z9, t23z9, e21z9, e22z9, l2z9, nz2z9⟩ := hR2z9; subst e21z9; subst e22z9; (try k_lt l2z9); (try dsimp only); (try k_sweep)) | with_reducible (k_here; (with_reducible show wpAny _ _ (call (Value.ref 76) _ _) _ _ _); k_dflt (refine' use (hsv_con' _ _ _ _ _ _ _ _ _ _ _ _ ?ok ?eq) ?hB ?hF ?hX ?hN ?hT ?hp ?hd ?hu ?_; (case hB => k_asm); (case hF => k_asm); (case hX => k_asm); (case hN => k_asm); (case hT => k_asm); (case hp => trivial); (case hd => ktr_room); (case hu => ktr_units); (case eq => assumption); (case ok => assumption); k_whole); intro r2z9 n2z9 h2z9 tk2z9 F2z9 N2z9 hR2z9; obtain ⟨D2z9, t21z9, t22z9, t23z9, e21z9, e22z9, l2z9, nz2z9⟩ := hR2z9; subst e21z9; subst e22z9; (try k_lt l2z9); (try dsimp only); (try k_sweep)) | with_reducible ((with_reducible show wpAny _ _ (execs [] _) _ _ _); ((with_reducible refine wpAny_execs_nil ?_); try dsimp only)) | with_reducible ((with_reducible show wpAny _ _ (execs (_ :: _) _) _ _ _); ((with_reducible refine cons_pos ?_); intro tkz9; try dsimp only)) | with_reducible ((with_reducible show wpAny _ _ (subscriptTail (Expr.Name _ _) (Expr.Constant _ _ _) (Value.ref _) (Value.int _ _)) _ _ _); (k_here; k_dflt (refine item_list ⟨_, News.get (by assumption) (by k_mem), rfl, _, rfl⟩ (by decide) (by decide) (at_arr (by rfl)) ?_))) | walk1) | (dsimp only; (first | with_reducible ((with_reducible show wpAny _ _ (subscriptTail (PySem.Expr.Subscript _ _ _) _ _ _) _ _ _); k_here; k_dflt (refine kba_turn (value' := PySem.Expr.Name (PySem.Str.ofString "_") ⟨0, 0, 0, 0⟩) (fun _ => rfl) ?_)) | with_reducible (k_here; (with_reducible show wpAny _ _ (call (Value.ref 62) [Value.int _ _] _) _ _ _); k_dflt (refine' use (is62 _ _ _ _ _ _ _) ?hB ?hF ?hX ?hN ?hT ?hp ?hd ?hu ?_; (case hB => k_asm); (case hF => k_asm); (case hX => k_asm); (case hN => k_asm); (case hT => k_asm); (case hp => trivial); (case hd => ktr_room); (case hu => ktr_units); k_whole); intro r2z9 n2z9 h2z9 tk2z9 F2z9 N2z9 hR2z9; obtain ⟨e21z9, e22z9⟩ := hR2z9; (try (first | rw [decide_eq_true (by lia)] at e21z9 | rw [decide_eq_false (by lia)] at e21z9)); subst e21z9; subst e22z9; (try dsimp only); (try k_sweep)) | with_reducible (k_here; (with_reducible show wpAny _ _ (call (Value.ref 55) [Value.int _ _] _) _ _ _); k_dflt (refine' use (is55 _ _ _ _ _ _ _) ?hB ?hF ?hX ?hN ?hT ?hp ?hd ?hu ?_; (case hB => k_asm); (case hF => k_asm); (case hX => k_asm); (case hN => k_asm); (case hT => k_asm); (case hp => trivial); (case hd => ktr_room); (case hu => ktr_units); k_whole); intro r2z9 n2z9 h2z9 tk2z9 F2z9 N2z9 hR2z9; obtain ⟨e21z9, e22z9⟩ := hR2z9; (try (first | rw [decide_eq_true (by lia)] at e21z9 | rw [decide_eq_false (by lia)] at e21z9)); subst e21z9; subst e22z9; (try dsimp only); (try k_sweep)) | with_reducible (k_here; (with_reducible show wpAny _ _ (call (Value.ref 48) [Value.int _ _] _) _ _ _); k_dflt (refine' use (is48 _ _ _ _ _ _ _) ?hB ?hF ?hX ?hN ?hT ?hp ?hd ?hu ?_; (case hB => k_asm); (case hF => k_asm); (case hX => k_asm); (case hN => k_asm); (case hT => k_asm); (case hp => trivial); (case hd => ktr_room); (case hu => ktr_units); k_whole); intro r2z9 n2z9 h2z9 tk2z9 F2z9 N2z9 hR2z9; obtain ⟨e21z9, e22z9⟩ := hR2z9; (try (first | rw [decide_eq_true (by lia)] at e21z9 | rw [decide_eq_false (by lia)] at e21z9)); subst e21z9; subst e22z9; (try dsimp only); (try k_sweep)) | with_reducible (k_here; (with_reducible show wpAny _ _ (call (Value.ref 69) _ _) _ _ _); k_dflt (refine' use (rgb_con' _ _ _ _ _ _ _ _ _ _ _ _ ?ok ?eq) ?hB ?hF ?hX ?hN ?hT ?hp ?hd ?hu ?_; (case hB => k_asm); (case hF => k_asm); (case hX => k_asm); (case hN => k_asm); (case hT => k_asm); (case hp => trivial); (case hd => ktr_room); (case hu => ktr_units); (case eq => assumption); (case ok => assumption); k_whole); intro r2z9 n2z9 h2z9 tk2z9 F2z9 N2z9 hR2z9; obtain ⟨D2z9, t21z9, t22z9, t23z9, e21z9, e22z9, l2z9, nz2z9⟩ := hR2z9; subst e21z9; subst e22z9; (try k_lt l2z9); (try dsimp only); (try k_sweep)) | with_reducible (k_here; (with_reducible show wpAny _ _ (call (Value.ref 76) _ _) _ _ _); k_dflt (refine' use (hsv_con' _ _ _ _ _ _ _ _ _ _ _ _ ?ok ?eq) ?hB ?hF ?hX ?hN ?hT ?hp ?hd ?hu ?_; (case hB => k_asm); (case hF => k_asm); (case hX => k_asm); (case hN => k_asm); (case hT => k_asm); (case hp => trivial); (case hd => ktr_room); (case hu => ktr_units); (case eq => assumption); (case ok => assumption); k_whole); intro r2z9 n2z9 h2z9 tk2z9 F2z9 N2z9 hR2z9; obtain ⟨D2z9, t21z9, t22z9, t23z9, e21z9, e22z9, l2z9, nz2z9⟩ := hR2z9; subst e21z9; subst e22z9; (try k_lt l2z9); (try dsimp only); (try k_sweep)) | with_reducible ((with_reducible show wpAny _ _ (execs [] _) _ _ _); ((with_reducible refine wpAny_execs_nil ?_); try dsimp only)) | with_reducible ((with_reducible show wpAny _ _ (execs (_ :: _) _) _ _ _); ((with_reducible refine cons_pos ?_); intro tkz9; try dsimp only)) | with_reducible ((with_reducible show wpAny _ _ (subscriptTail (Expr.Name _ _) (Expr.Constant _ _ _) (Value.ref _) (Value.int _ _)) _ _ _); (k_here; k_dflt (refine item_list ⟨_, News.get (by assumption) (by k_mem), rfl, _, rfl⟩ (by decide) (by decide) (at_arr (by rfl)) ?_))) | walk1)) | (leave1; try dsimp only))
    rename Fr _ _ _ _ => F9
    rename News _ _ _ _ => N9
    exact hret _ _ _ _ _ F9 (news_drop3 N9) ⟨rfl, fun z h1 h2 h3 h4 h5 h6 h7 h8 => by (repeat (refine (if_neg (by assumption)).trans ?_)); rfl, _, rfl⟩
  · rw [if_neg hc] at okH hq
    rw [show txT sn sh lv = hdr sn (Str.ofString (toString lv)) (Str.ofString (toString sh)) from if_neg hc] at F
    have hsh1 : 1 ≤ sh ∧ sh < 5 := by lia
    have sh34 := fig_no34 hsh1
    obtain ⟨ss1, ss2, ss3, ss4⟩ := fig_ok hsh1
    repeat' ((fail_if_success (with_reducible show wpAny _ _ (call (Value.builtin "str.split") _) _ _ _)); first | (k_unfold; (try dsimp only)) | (first | with_reducible ((with_reducible show wpAny _ _ (subscriptTail (PySem.Expr.Subscript _ _ _) _ _ _) _ _ _); k_here; k_dflt (refine kba_turn (value' := PySem.Expr.Name (PySem.Str.ofString "_") ⟨0, 0, 0, 0⟩) (fun _ => rfl) ?_)) | with_reducible (k_here; (with_reducible show wpAny _ _ (call (Value.ref 62) [Value.int _ _] _) _ _ _); k_dflt (refine' use (is62 _ _ _ _ _ _ _) ?hB ?hF ?hX ?hN ?hT ?hp ?hd ?hu ?_; (case hB => k_asm); (case hF => k_asm); (case hX => k_asm); (case hN => k_asm); (case hT => k_asm); (case hp => trivial); (case hd => ktr_room); (case hu => ktr_units); k_whole); intro r2z9 n2z9 h2z9 tk2z9 F2z9 N2z9 hR2z9; obtain ⟨e21z9, e22z9⟩ := hR2z9; (try (first | rw [decide_eq_true (by lia)] at e21z9 | rw [decide_eq_false (by lia)] at e21z9)); subst e21z9; subst e22z9; (try dsimp only); (try k_sweep)) | with_reducible (k_here; (with_reducible show wpAny _ _ (call (Value.ref 55) [Value.int _ _] _) _ _ _); k_dflt (refine' use (is55 _ _ _ _ _ _ _) ?hB ?hF ?hX ?hN ?hT ?hp ?hd ?hu ?_; (case hB => k_asm); (case hF => k_asm); (case hX => k_asm); (case hN => k_asm); (case hT => k_asm); (case hp => trivial); (case hd => ktr_room); (case hu => ktr_units); k_whole); intro r2z9 n2z9 h2z9 tk2z9 F2z9 N2z9 hR2z9; obtain ⟨e21z9, e22z9⟩ := hR2z9; (try (first | rw [decide_eq_true (by lia)] at e21z9 | rw [decide_eq_false (by lia)] at e21z9)); subst e21z9; subst e22z9; (try dsimp only); (try k_sweep)) | with_reducible (k_here; (with_reducible show wpAny _ _ (call (Value.ref 48) [Value.int _ _] _) _ _ _); k_dflt (refine' use (is48 _ _ _ _ _ _ _) ?hB ?hF ?hX ?hN ?hT ?hp ?hd ?hu ?_; (case hB => k_asm); (case hF => k_asm); (case hX => k_asm); (case hN => k_asm); (case hT => k_asm); (case hp => trivial); (case hd => ktr_room); (case hu => ktr_units); k_whole); intro r2z9 n2z9 h2z9 tk2z9 F2z9 N2z9 hR2z9; obtain ⟨e21z9, e22z9⟩ := hR2z9; (try (first | rw [decide_eq_true (by lia)] at e21z9 | rw [decide_eq_false (by lia)] at e21z9)); subst e21z9; subst e22z9; (try dsimp only); (try k_sweep)) | with_reducible (k_here; (with_reducible show wpAny _ _ (call (Value.ref 69) _ _) _ _ _); k_dflt (refine' use (rgb_con' _ _ _ _ _ _ _ _ _ _ _ _ ?ok ?eq) ?hB ?hF ?hX ?hN ?hT ?hp ?hd ?hu ?_; (case hB => k_asm); (case hF => k_asm); (case hX => k_asm); (case hN => k_asm); (case hT => k_asm); (case hp => trivial); (case hd => ktr_room); (case hu => ktr_units); (case eq => assumption); (case ok => assumption); k_whole); intro r2z9 n2z9 h2z9 tk2z9 F2z9 N2z9 hR2z9; obtain ⟨D2z9, t21z9, t22z9, t23z9, e21z9, e22z9, l2z9, nz2z9⟩ := hR2z9; subst e21z9; subst e22z9; (try k_lt l2z9); (try dsimp only); (try k_sweep)) | with_reducible (k_here; (with_reducible show wpAny _ _ (call (Value.ref 76) _ _) _ _ _); k_dflt (refine' use (hsv_con' _ _ _ _ _ _ _ _ _ _ _ _ ?ok ?eq) ?hB ?hF ?hX ?hN ?hT ?hp ?hd ?hu ?_; (case hB => k_asm); (case hF => k_asm); (case hX => k_asm); (case hN => k_asm); (case hT => k_asm); (case hp => trivial); (case hd => ktr_room); (case hu => ktr_units); (case eq => assumption); (case ok => assumption); k_whole); intro r2z9 n2z9 h2z9 tk2z9 F2z9 N2z9 hR2z9; obtain ⟨D2z9, t21z9, t22z9, t23z9, e21z9, e22z9, l2z9, nz2z9⟩ := hR2z9; subst e21z9; subst e22z9; (try k_lt l2z9); (try dsimp only); (try k_sweep)) | with_reducible ((with_reducible show wpAny _ _ (execs [] _) _ _ _); ((with_reducible refine wpAny_execs_nil ?_); try dsimp only)) | with_reducible ((with_reducible show wpAny _ _ (execs (_ :: _) _) _ _ _); ((with_reducible refine cons_pos ?_); intro tkz9; try dsimp only)) | with_reducible ((with_reducible show wpAny _ _ (subscriptTail (Expr.Name _ _) (Expr.Constant _ _ _) (Value.ref _) (Value.int _ _)) _ _ _); (k_here; k_dflt (refine item_list ⟨_, News.get (by assumption) (by k_mem), rfl, _, rfl⟩ (by decide) (by decide) (at_arr (by rfl)) ?_))) | walk1) | (dsimp only; (first | with_reducible ((with_reducible show wpAny _ _ (subscriptTail (PySem.Expr.Subscript _ _ _) _ _ _) _ _ _); k_here; k_dflt (refine kba_turn (value' := PySem.Expr.Name (PySem.Str.ofString "_") ⟨0, 0, 0, 0⟩) (fun _ => rfl) ?_)) | with_reducible (k_here; (with_reducible show wpAny _ _ (call (Value.ref 62) [Value.int _ _] _) _ _ _); k_dflt (refine' use (is62 _ _ _ _ _ _ _) ?hB ?hF ?hX ?hN ?hT ?hp ?hd ?hu ?_; (case hB => k_asm); (case hF => k_asm); (case hX => k_asm); (case hN => k_asm); (case hT => k_asm); (case hp => trivial); (case hd => ktr_room); (case hu => ktr_units); k_whole); intro r2z9 n2z9 h2z9 tk2z9 F2z9 N2z9 hR2z9; obtain ⟨e21z9, e22z9⟩ := hR2z9; (try (first | rw [decide_eq_true (by lia)] at e21z9 | rw [decide_eq_false (by lia)] at e21z9)); subst e21z9; subst e22z9; (try dsimp only); (try k_sweep)) | with_reducible (k_here; (with_reducible show wpAny _ _ (call (Value.ref 55) [Value.int _ _] _) _ _ _); k_dflt (refine' use (is55 _ _ _ _ _ _ _) ?hB ?hF ?hX ?hN ?hT ?hp ?hd ?hu ?_; (case hB => k_asm); (case hF => k_asm); (case hX => k_asm); (case hN => k_asm); (case hT => k_asm); (case hp => trivial); (case hd => ktr_room); (case hu => ktr_units); k_whole); intro r2z9 n2z9 h2z9 tk2z9 F2z9 N2z9 hR2z9; obtain ⟨e21z9, e22z9⟩ := hR2z9; (try (first | rw [decide_eq_true (by lia)] at e21z9 | rw [decide_eq_false (by lia)] at e21z9)); subst e21z9; subst e22z9; (try dsimp only); (try k_sweep)) | with_reducible (k_here; (with_reducible show wpAny _ _ (call (Value.ref 48) [Value.int _ _] _) _ _ _); k_dflt (refine' use (is48 _ _ _ _ _ _ _) ?hB ?hF ?hX ?hN ?hT ?hp ?hd ?hu ?_; (case hB => k_asm); (case hF => k_asm); (case hX => k_asm); (case hN => k_asm); (case hT => k_asm); (case hp => trivial); (case hd => ktr_room); (case hu => ktr_units); k_whole); intro r2z9 n2z9 h2z9 tk2z9 F2z9 N2z9 hR2z9; obtain ⟨e21z9, e22z9⟩ := hR2z9; (try (first | rw [decide_eq_true (by lia)] at e21z9 | rw [decide_eq_false (by lia)] at e21z9)); subst e21z9; subst e22z9; (try dsimp only); (try k_sweep)) | with_reducible (k_here; (with_reducible show wpAny _ _ (call (Value.ref 69) _ _) _ _ _); k_dflt (refine' use (rgb_con' _ _ _ _ _ _ _ _ _ _ _ _ ?ok ?eq) ?hB ?hF ?hX ?hN ?hT ?hp ?hd ?hu ?_; (case hB => k_asm); (case hF => k_asm); (case hX => k_asm); (case hN => k_asm); (case hT => k_asm); (case hp => trivial); (case hd => ktr_room); (case hu => ktr_units); (case eq => assumption); (case ok => assumption); k_whole); intro r2z9 n2z9 h2z9 tk2z9 F2z9 N2z9 hR2z9; obtain ⟨D2z9, t21z9, t22z9, t23z9, e21z9, e22z9, l2z9, nz2z9⟩ := hR2z9; subst e21z9; subst e22z9; (try k_lt l2z9); (try dsimp only); (try k_sweep)) | with_reducible (k_here; (with_reducible show wpAny _ _ (call (Value.ref 76) _ _) _ _ _); k_dflt (refine' use (hsv_con' _ _ _ _ _ _ _ _ _ _ _ _ ?ok ?eq) ?hB ?hF ?hX ?hN ?hT ?hp ?hd ?hu ?_; (case hB => k_asm); (case hF => k_asm); (case hX => k_asm); (case hN => k_asm); (case hT => k_asm); (case hp => trivial); (case hd => ktr_room); (case hu => ktr_units); (case eq => assumption); (case ok => assumption); k_whole); intro r2z9 n2z9 h2z9 tk2z9 F2z9 N2z9 hR2z9; obtain ⟨D2z9, t21z9, t22z9, t23z9, e21z9, e22z9, l2z9, nz2z9⟩ := hR2z9; subst e21z9; subst e22z9; (try k_lt l2z9); (try dsimp only); (try k_sweep)) | with_reducible ((with_reducible show wpAny _ _ (execs [] _) _ _ _); ((with_reducible refine wpAny_execs_nil ?_); try dsimp only)) | with_reducible ((with_reducible show wpAny _ _ (execs (_ :: _) _) _ _ _); ((with_reducible refine cons_pos ?_); intro tkz9; try dsimp only)) | with_reducible ((with_reducible show wpAny _ _ (subscriptTail (Expr.Name _ _) (Expr.Constant _ _ _) (Value.ref _) (Value.int _ _)) _ _ _); (k_here; k_dflt (refine item_list ⟨_, News.get (by assumption) (by k_mem), rfl, _, rfl⟩ (by decide) (by decide) (at_arr (by rfl)) ?_))) | walk1)) | (leave1; try dsimp only))
    rename Fr _ _ _ _ => F1
    rename News _ _ _ _ => N1
    refine KSpl.split1 F1 N1 (by decide +kernel) ?_ ?hz
    case hz => (show (hdr _ _ _).length + 2 ≤ _; unfold hdr hdr0; simp only [PySem.Str.length_append]; (have q1 : (PySem.Str.ofString "; level-of=\"").length = 12 := by decide +kernel); (have q2 : (PySem.Str.ofString "\"; share-of").length = 11 := by decide +kernel); (have q3 : (PySem.Str.ofString "=\"").length = 2 := by decide +kernel); (have q4 : (PySem.Str.ofString "\"").length = 1 := by decide +kernel); rw [PySem.sizeLine_eq]; lia)
    intro D l2 h2' k2 e2 a2 F2 N2 l1
    rw [split1 hno lv34 sh34] at e2
    clear F1 N1
    kspl_open e2
    simp only [strValues, List.map_cons, List.map_nil] at N2 a2
    (try k_lt l1)
    dsimp only
    repeat' ((fail_if_success (with_reducible show wpAny _ _ (subscriptTail _ _ (Value.ref 39) _) _ _ _)); (fail_if_success (with_reducible show wpAny _ _ (compareOp CmpOp.NotEq (Value.ref _) (Value.ref _)) _ _ _)); first | (k_unfold; (try dsimp only)) | (first | with_reducible ((with_reducible show wpAny _ _ (subscriptTail (PySem.Expr.Subscript _ _ _) _ _ _) _ _ _); k_here; k_dflt (refine kba_turn (value' := PySem.Expr.Name (PySem.Str.ofString "_") ⟨0, 0, 0, 0⟩) (fun _ => rfl) ?_)) | with_reducible (k_here; (with_reducible show wpAny _ _ (call (Value.ref 62) [Value.int _ _] _) _ _ _); k_dflt (refine' use (is62 _ _ _ _ _ _ _) ?hB ?hF ?hX ?hN ?hT ?hp ?hd ?hu ?_; (case hB => k_asm); (case hF => k_asm); (case hX => k_asm); (case hN => k_asm); (case hT => k_asm); (case hp => trivial); (case hd => ktr_room); (case hu => ktr_units); k_whole); intro r2z9 n2z9 h2z9 tk2z9 F2z9 N2z9 hR2z9; obtain ⟨e21z9, e22z9⟩ := hR2z9; (try (first | rw [decide_eq_true (by lia)] at e21z9 | rw [decide_eq_false (by lia)] at e21z9)); subst e21z9; subst e22z9; (try dsimp only); (try k_sweep)) | with_reducible (k_here; (with_reducible show wpAny _ _ (call (Value.ref 55) [Value.int _ _] _) _ _ _); k_dflt (refine' use (is55 _ _ _ _ _ _ _) ?hB ?hF ?hX ?hN ?hT ?hp ?hd ?hu ?_; (case hB => k_asm); (case hF => k_asm); (case hX => k_asm); (case hN => k_asm); (case hT => k_asm); (case hp => trivial); (case hd => ktr_room); (case hu => ktr_units); k_whole); intro r2z9 n2z9 h2z9 tk2z9 F2z9 N2z9 hR2z9; obtain ⟨e21z9, e22z9⟩ := hR2z9; (try (first | rw [decide_eq_true (by lia)] at e21z9 | rw [decide_eq_false (by lia)] at e21z9)); subst e21z9; subst e22z9; (try dsimp only); (try k_sweep)) | with_reducible (k_here; (with_reducible show wpAny _ _ (call (Value.ref 48) [Value.int _ _] _) _ _ _); k_dflt (refine' use (is48 _ _ _ _ _ _ _) ?hB ?hF ?hX ?hN ?hT ?hp ?hd ?hu ?_; (case hB => k_asm); (case hF => k_asm); (case hX => k_asm); (case hN => k_asm); (case hT => k_asm); (case hp => trivial); (case hd => ktr_room); (case hu => ktr_units); k_whole); intro r2z9 n2z9 h2z9 tk2z9 F2z9 N2z9 hR2z9; obtain ⟨e21z9, e22z9⟩ := hR2z9; (try (first | rw [decide_eq_true (by lia)] at e21z9 | rw [decide_eq_false (by lia)] at e21z9)); subst e21z9; subst e22z9; (try dsimp only); (try k_sweep)) | with_reducible (k_here; (with_reducible show wpAny _ _ (call (Value.ref 69) _ _) _ _ _); k_dflt (refine' use (rgb_con' _ _ _ _ _ _ _ _ _ _ _ _ ?ok ?eq) ?hB ?hF ?hX ?hN ?hT ?hp ?hd ?hu ?_; (case hB => k_asm); (case hF => k_asm); (case hX => k_asm); (case hN => k_asm); (case hT => k_asm); (case hp => trivial); (case hd => ktr_room); (case hu => ktr_units); (case eq => assumption); (case ok => assumption); k_whole); intro r2z9 n2z9 h2z9 tk2z9 F2z9 N2z9 hR2z9; obtain ⟨D2z9, t21z9, t22z9, t23z9, e21z9, e22z9, l2z9, nz2z9⟩ := hR2z9; subst e21z9; subst e22z9; (try k_lt l2z9); (try dsimp only); (try k_sweep)) | with_reducible (k_here; (with_reducible show wpAny _ _ (call (Value.ref 76) _ _) _ _ _); k_dflt (refine' use (hsv_con' _ _ _ _ _ _ _ _ _ _ _ _ ?ok ?eq) ?hB ?hF ?hX ?hN ?hT ?hp ?hd ?hu ?_; (case hB => k_asm); (case hF => k_asm); (case hX => k_asm); (case hN => k_asm); (case hT => k_asm); (case hp => trivial); (case hd => ktr_room); (case hu => ktr_units); (case eq => assumption); (case ok => assumption); k_whole); intro r2z9 n2z9 h2z9 tk2z9 F2z9 N2z9 hR2z9; obtain ⟨D2z9, t21z9, t22z9, t23z9, e21z9, e22z9, l2z9, nz2z9⟩ := hR2z9; subst e21z9; subst e22z9; (try k_lt l2z9); (try dsimp only); (try k_sweep)) | with_reducible ((with_reducible show wpAny _ _ (execs [] _) _ _ _); ((with_reducible refine wpAny_execs_nil ?_); try dsimp only)) | with_reducible ((with_reducible show wpAny _ _ (execs (_ :: _) _) _ _ _); ((with_reducible refine cons_pos ?_); intro tkz9; try dsimp only)) | with_reducible ((with_reducible show wpAny _ _ (subscriptTail (Expr.Name _ _) (Expr.Constant _ _ _) (Value.ref _) (Value.int _ _)) _ _ _); (k_here; k_dflt (refine item_list ⟨_, News.get (by assumption) (by k_mem), rfl, _, rfl⟩ (by decide) (by decide) (at_arr (by rfl)) ?_))) | walk1) | (dsimp only; (first | with_reducible ((with_reducible show wpAny _ _ (subscriptTail (PySem.Expr.Subscript _ _ _) _ _ _) _ _ _); k_here; k_dflt (refine kba_turn (value' := PySem.Expr.Name (PySem.Str.ofString "_") ⟨0, 0, 0, 0⟩) (fun _ => rfl) ?_)) | with_reducible (k_here; (with_reducible show wpAny _ _ (call (Value.ref 62) [Value.int _ _] _) _ _ _); k_dflt (refine' use (is62 _ _ _ _ _ _ _) ?hB ?hF ?hX ?hN ?hT ?hp ?hd ?hu ?_; (case hB => k_asm); (case hF => k_asm); (case hX => k_asm); (case hN => k_asm); (case hT => k_asm); (case hp => trivial); (case hd => ktr_room); (case hu => ktr_units); k_whole); intro r2z9 n2z9 h2z9 tk2z9 F2z9 N2z9 hR2z9; obtain ⟨e21z9, e22z9⟩ := hR2z9; (try (first | rw [decide_eq_true (by lia)] at e21z9 | rw [decide_eq_false (by lia)] at e21z9)); subst e21z9; subst e22z9; (try dsimp only); (try k_sweep)) | with_reducible (k_here; (with_reducible show wpAny _ _ (call (Value.ref 55) [Value.int _ _] _) _ _ _); k_dflt (refine' use (is55 _ _ _ _ _ _ _) ?hB ?hF ?hX ?hN ?hT ?hp ?hd ?hu ?_; (case hB => k_asm); (case hF => k_asm); (case hX => k_asm); (case hN => k_asm); (case hT => k_asm); (case hp => trivial); (case hd => ktr_room); (case hu => ktr_units); k_whole); intro r2z9 n2z9 h2z9 tk2z9 F2z9 N2z9 hR2z9; obtain ⟨e21z9, e22z9⟩ := hR2z9; (try (first | rw [decide_eq_true (by lia)] at e21z9 | rw [decide_eq_false (by lia)] at e21z9)); subst e21z9; subst e22z9; (try dsimp only); (try k_sweep)) | with_reducible (k_here; (with_reducible show wpAny _ _ (call (Value.ref 48) [Value.int _ _] _) _ _ _); k_dflt (refine' use (is48 _ _ _ _ _ _ _) ?hB ?hF ?hX ?hN ?hT ?hp ?hd ?hu ?_; (case hB => k_asm); (case hF => k_asm); (case hX => k_asm); (case hN => k_asm); (case hT => k_asm); (case hp => trivial); (case hd => ktr_room); (case hu => ktr_units); k_whole); intro r2z9 n2z9 h2z9 tk2z9 F2z9 N2z9 hR2z9; obtain ⟨e21z9, e22z9⟩ := hR2z9; (try (first | rw [decide_eq_true (by lia)] at e21z9 | rw [decide_eq_false (by lia)] at e21z9)); subst e21z9; subst e22z9; (try dsimp only); (try k_sweep)) | with_reducible (k_here; (with_reducible show wpAny _ _ (call (Value.ref 69) _ _) _ _ _); k_dflt (refine' use (rgb_con' _ _ _ _ _ _ _ _ _ _ _ _ ?ok ?eq) ?hB ?hF ?hX ?hN ?hT ?hp ?hd ?hu ?_; (case hB => k_asm); (case hF => k_asm); (case hX => k_asm); (case hN => k_asm); (case hT => k_asm); (case hp => trivial); (case hd => ktr_room); (case hu => ktr_units); (case eq => assumption); (case ok => assumption); k_whole); intro r2z9 n2z9 h2z9 tk2z9 F2z9 N2z9 hR2z9; obtain ⟨D2z9, t21z9, t22z9, t23z9, e21z9, e22z9, l2z9, nz2z9⟩ := hR2z9; subst e21z9; subst e22z9; (try k_lt l2z9); (try dsimp only); (try k_sweep)) | with_reducible (k_here; (with_reducible show wpAny _ _ (call (Value.ref 76) _ _) _ _ _); k_dflt (refine' use (hsv_con' _ _ _ _ _ _ _ _ _ _ _ _ ?ok ?eq) ?hB ?hF ?hX ?hN ?hT ?hp ?hd ?hu ?_; (case hB => k_asm); (case hF => k_asm); (case hX => k_asm); (case hN => k_asm); (case hT => k_asm); (case hp => trivial); (case hd => ktr_room); (case hu => ktr_units); (case eq => assumption); (case ok => assumption); k_whole); intro r2z9 n2z9 h2z9 tk2z9 F2z9 N2z9 hR2z9; obtain ⟨D2z9, t21z9, t22z9, t23z9, e21z9, e22z9, l2z9, nz2z9⟩ := hR2z9; subst e21z9; subst e22z9; (try k_lt l2z9); (try dsimp only); (try k_sweep)) | with_reducible ((with_reducible show wpAny _ _ (execs [] _) _ _ _); ((with_reducible refine wpAny_execs_nil ?_); try dsimp only)) | with_reducible ((with_reducible show wpAny _ _ (execs (_ :: _) _) _ _ _); ((with_reducible refine cons_pos ?_); intro tkz9; try dsimp only)) | with_reducible ((with_reducible show wpAny _ _ (subscriptTail (Expr.Name _ _) (Expr.Constant _ _ _) (Value.ref _) (Value.int _ _)) _ _ _); (k_here; k_dflt (refine item_list ⟨_, News.get (by assumption) (by k_mem), rfl, _, rfl⟩ (by decide) (by decide) (at_arr (by rfl)) ?_))) | walk1)) | (leave1; try dsimp only))
    dsimp only
    rw [Hsl.out]
    refine look39 (by rename Fr _ _ _ _ => F5; exact F5) X Hnum.out ?_
    dsimp only
    repeat' ((fail_if_success (with_reducible show wpAny _ _ (compareOp CmpOp.NotEq (Value.ref _) (Value.ref _)) _ _ _)); first | (k_unfold; (try dsimp only)) | (first | with_reducible ((with_reducible show wpAny _ _ (subscriptTail (PySem.Expr.Subscript _ _ _) _ _ _) _ _ _); k_here; k_dflt (refine kba_turn (value' := PySem.Expr.Name (PySem.Str.ofString "_") ⟨0, 0, 0, 0⟩) (fun _ => rfl) ?_)) | with_reducible (k_here; (with_reducible show wpAny _ _ (call (Value.ref 62) [Value.int _ _] _) _ _ _); k_dflt (refine' use (is62 _ _ _ _ _ _ _) ?hB ?hF ?hX ?hN ?hT ?hp ?hd ?hu ?_; (case hB => k_asm); (case hF => k_asm); (case hX => k_asm); (case hN => k_asm); (case hT => k_asm); (case hp => trivial); (case hd => ktr_room); (case hu => ktr_units); k_whole); intro r2z9 n2z9 h2z9 tk2z9 F2z9 N2z9 hR2z9; obtain ⟨e21z9, e22z9⟩ := hR2z9; (try (first | rw [decide_eq_true (by lia)] at e21z9 | rw [decide_eq_false (by lia)] at e21z9)); subst e21z9; subst e22z9; (try dsimp only); (try k_sweep)) | with_reducible (k_here; (with_reducible show wpAny _ _ (call (Value.ref 55) [Value.int _ _] _) _ _ _); k_dflt (refine' use (is55 _ _ _ _ _ _ _) ?hB ?hF ?hX ?hN ?hT ?hp ?hd ?hu ?_; (case hB => k_asm); (case hF => k_asm); (case hX => k_asm); (case hN => k_asm); (case hT => k_asm); (case hp => trivial); (case hd => ktr_room); (case hu => ktr_units); k_whole); intro r2z9 n2z9 h2z9 tk2z9 F2z9 N2z9 hR2z9; obtain ⟨e21z9, e22z9⟩ := hR2z9; (try (first | rw [decide_eq_true (by lia)] at e21z9 | rw [decide_eq_false (by lia)] at e21z9)); subst e21z9; subst e22z9; (try dsimp only); (try k_sweep)) | with_reducible (k_here; (with_reducible show wpAny _ _ (call (Value.ref 48) [Value.int _ _] _) _ _ _); k_dflt (refine' use (is48 _ _ _ _ _ _ _) ?hB ?hF ?hX ?hN ?hT ?hp ?hd ?hu ?_; (case hB => k_asm); (case hF => k_asm); (case hX => k_asm); (case hN => k_asm); (case hT => k_asm); (case hp => trivial); (case hd => ktr_room); (case hu => ktr_units); k_whole); intro r2z9 n2z9 h2z9 tk2z9 F2z9 N2z9 hR2z9; obtain ⟨e21z9, e22z9⟩ := hR2z9; (try (first | rw [decide_eq_true (by lia)] at e21z9 | rw [decide_eq_false (by lia)] at e21z9)); subst e21z9; subst e22z9; (try dsimp only); (try k_sweep)) | with_reducible (k_here; (with_reducible show wpAny _ _ (call (Value.ref 69) _ _) _ _ _); k_dflt (refine' use (rgb_con' _ _ _ _ _ _ _ _ _ _ _ _ ?ok ?eq) ?hB ?hF ?hX ?hN ?hT ?hp ?hd ?hu ?_; (case hB => k_asm); (case hF => k_asm); (case hX => k_asm); (case hN => k_asm); (case hT => k_asm); (case hp => trivial); (case hd => ktr_room); (case hu => ktr_units); (case eq => assumption); (case ok => assumption); k_whole); intro r2z9 n2z9 h2z9 tk2z9 F2z9 N2z9 hR2z9; obtain ⟨D2z9, t21z9, t22z9, t23z9, e21z9, e22z9, l2z9, nz2z9⟩ := hR2z9; subst e21z9; subst e22z9; (try k_lt l2z9); (try dsimp only); (try k_sweep)) | with_reducible (k_here; (with_reducible show wpAny _ _ (call (Value.ref 76) _ _) _ _ _); k_dflt (refine' use (hsv_con' _ _ _ _ _ _ _ _ _ _ _ _ ?ok ?eq) ?hB ?hF ?hX ?hN ?hT ?hp ?hd ?hu ?_; (case hB => k_asm); (case hF => k_asm); (case hX => k_asm); (case hN => k_asm); (case hT => k_asm); (case hp => trivial); (case hd => ktr_room); (case hu => ktr_units); (case eq => assumption); (case ok => assumption); k_whole); intro r2z9 n2z9 h2z9 tk2z9 F2z9 N2z9 hR2z9; obtain ⟨D2z9, t21z9, t22z9, t23z9, e21z9, e22z9, l2z9, nz2z9⟩ := hR2z9; subst e21z9; subst e22z9; (try k_lt l2z9); (try dsimp only); (try k_sweep)) | with_reducible ((with_reducible show wpAny _ _ (execs [] _) _ _ _); ((with_reducible refine wpAny_execs_nil ?_); try dsimp only)) | with_reducible ((with_reducible show wpAny _ _ (execs (_ :: _) _) _ _ _); ((with_reducible refine cons_pos ?_); intro tkz9; try dsimp only)) | with_reducible ((with_reducible show wpAny _ _ (subscriptTail (Expr.Name _ _) (Expr.Constant _ _ _) (Value.ref _) (Value.int _ _)) _ _ _); (k_here; k_dflt (refine item_list ⟨_, News.get (by assumption) (by k_mem), rfl, _, rfl⟩ (by decide) (by decide) (at_arr (by rfl)) ?_))) | walk1) | (dsimp only; (first | with_reducible ((with_reducible show wpAny _ _ (subscriptTail (PySem.Expr.Subscript _ _ _) _ _ _) _ _ _); k_here; k_dflt (refine kba_turn (value' := PySem.Expr.Name (PySem.Str.ofString "_") ⟨0, 0, 0, 0⟩) (fun _ => rfl) ?_)) | with_reducible (k_here; (with_reducible show wpAny _ _ (call (Value.ref 62) [Value.int _ _] _) _ _ _); k_dflt (refine' use (is62 _ _ _ _ _ _ _) ?hB ?hF ?hX ?hN ?hT ?hp ?hd ?hu ?_; (case hB => k_asm); (case hF => k_asm); (case hX => k_asm); (case hN => k_asm); (case hT => k_asm); (case hp => trivial); (case hd => ktr_room); (case hu => ktr_units); k_whole); intro r2z9 n2z9 h2z9 tk2z9 F2z9 N2z9 hR2z9; obtain ⟨e21z9, e22z9⟩ := hR2z9; (try (first | rw [decide_eq_true (by lia)] at e21z9 | rw [decide_eq_false (by lia)] at e21z9)); subst e21z9; subst e22z9; (try dsimp only); (try k_sweep)) | with_reducible (k_here; (with_reducible show wpAny _ _ (call (Value.ref 55) [Value.int _ _] _) _ _ _); k_dflt (refine' use (is55 _ _ _ _ _ _ _) ?hB ?hF ?hX ?hN ?hT ?hp ?hd ?hu ?_; (case hB => k_asm); (case hF => k_asm); (case hX => k_asm); (case hN => k_asm); (case hT => k_asm); (case hp => trivial); (case hd => ktr_room); (case hu => ktr_units); k_whole); intro r2z9 n2z9 h2z9 tk2z9 F2z9 N2z9 hR2z9; obtain ⟨e21z9, e22z9⟩ := hR2z9; (try (first | rw [decide_eq_true (by lia)] at e21z9 | rw [decide_eq_false (by lia)] at e21z9)); subst e21z9; subst e22z9; (try dsimp only); (try k_sweep)) | with_reducible (k_here; (with_reducible show wpAny _ _ (call (Value.ref 48) [Value.int _ _] _) _ _ _); k_dflt (refine' use (is48 _ _ _ _ _ _ _) ?hB ?hF ?hX ?hN ?hT ?hp ?hd ?hu ?_; (case hB => k_asm); (case hF => k_asm); (case hX => k_asm); (case hN => k_asm); (case hT => k_asm); (case hp => trivial); (case hd => ktr_room); (case hu => ktr_units); k_whole); intro r2z9 n2z9 h2z9 tk2z9 F2z9 N2z9 hR2z9; obtain ⟨e21z9, e22z9⟩ := hR2z9; (try (first | rw [decide_eq_true (by lia)] at e21z9 | rw [decide_eq_false (by lia)] at e21z9)); subst e21z9; subst e22z9; (try dsimp only); (try k_sweep)) | with_reducible (k_here; (with_reducible show wpAny _ _ (call (Value.ref 69) _ _) _ _ _); k_dflt (refine' use (rgb_con' _ _ _ _ _ _ _ _ _ _ _ _ ?ok ?eq) ?hB ?hF ?hX ?hN ?hT ?hp ?hd ?hu ?_; (case hB => k_asm); (case hF => k_asm); (case hX => k_asm); (case hN => k_asm); (case hT => k_asm); (case hp => trivial); (case hd => ktr_room); (case hu => ktr_units); (case eq => assumption); (case ok => assumption); k_whole); intro r2z9 n2z9 h2z9 tk2z9 F2z9 N2z9 hR2z9; obtain ⟨D2z9, t21z9, t22z9, t23z9, e21z9, e22z9, l2z9, nz2z9⟩ := hR2z9; subst e21z9; subst e22z9; (try k_lt l2z9); (try dsimp only); (try k_sweep)) | with_reducible (k_here; (with_reducible show wpAny _ _ (call (Value.ref 76) _ _) _ _ _); k_dflt (refine' use (hsv_con' _ _ _ _ _ _ _ _ _ _ _ _ ?ok ?eq) ?hB ?hF ?hX ?hN ?hT ?hp ?hd ?hu ?_; (case hB => k_asm); (case hF => k_asm); (case hX => k_asm); (case hN => k_asm); (case hT => k_asm); (case hp => trivial); (case hd => ktr_room); (case hu => ktr_units); (case eq => assumption); (case ok => assumption); k_whole); intro r2z9 n2z9 h2z9 tk2z9 F2z9 N2z9 hR2z9; obtain ⟨D2z9, t21z9, t22z9, t23z9, e21z9, e22z9, l2z9, nz2z9⟩ := hR2z9; subst e21z9; subst e22z9; (try k_lt l2z9); (try dsimp only); (try k_sweep)) | with_reducible ((with_reducible show wpAny _ _ (execs [] _) _ _ _); ((with_reducible refine wpAny_execs_nil ?_); try dsimp only)) | with_reducible ((with_reducible show wpAny _ _ (execs (_ :: _) _) _ _ _); ((with_reducible refine cons_pos ?_); intro tkz9; try dsimp only)) | with_reducible ((with_reducible show wpAny _ _ (subscriptTail (Expr.Name _ _) (Expr.Constant _ _ _) (Value.ref _) (Value.int _ _)) _ _ _); (k_here; k_dflt (refine item_list ⟨_, News.get (by assumption) (by k_mem), rfl, _, rfl⟩ (by decide) (by decide) (at_arr (by rfl)) ?_))) | walk1)) | (leave1; try dsimp only))
    rename Fr _ _ _ _ => F8
    rename News _ _ _ _ => N8
    rename (_ ∧ _ ∧ _ → _ ∧ _ ∧ _) => nzR
    rename (_ ≠ 0 → _ ∧ _ ∧ _) => nzH
    refine ne_tup3 (N8 _ (.head _)).1 (N8 _ (.tail _ (.tail _ (.tail _ (.tail _ (.head _)))))).1 c1 c2 c3 (nzR (nzH (Nat.succ_ne_zero _))) nh (booked_none X F8) (by ktr_units) ?_
    clear okH hq okR hz c1 c2 c3 nzR nzH Hsl Hnum hno lv34
    repeat' ((fail_if_success (with_reducible show wpAny _ _ (spliced (backTo _ (starEach [] _))) _ _ _)); first | (k_unfold; (try dsimp only)) | (first | with_reducible ((with_reducible show wpAny _ _ (subscriptTail (PySem.Expr.Subscript _ _ _) _ _ _) _ _ _); k_here; k_dflt (refine kba_turn (value' := PySem.Expr.Name (PySem.Str.ofString "_") ⟨0, 0, 0, 0⟩) (fun _ => rfl) ?_)) | with_reducible (k_here; (with_reducible show wpAny _ _ (call (Value.ref 62) [Value.int _ _] _) _ _ _); k_dflt (refine' use (is62 _ _ _ _ _ _ _) ?hB ?hF ?hX ?hN ?hT ?hp ?hd ?hu ?_; (case hB => k_asm); (case hF => k_asm); (case hX => k_asm); (case hN => k_asm); (case hT => k_asm); (case hp => trivial); (case hd => ktr_room); (case hu => ktr_units); k_whole); intro r2z9 n2z9 h2z9 tk2z9 F2z9 N2z9 hR2z9; obtain ⟨e21z9, e22z9⟩ := hR2z9; (try (first | rw [decide_eq_true (by lia)] at e21z9 | rw [decide_eq_false (by lia)] at e21z9)); subst e21z9; subst e22z9; (try dsimp only); (try k_sweep)) | with_reducible (k_here; (with_reducible show wpAny _ _ (call (Value.ref 55) [Value.int _ _] _) _ _ _); k_dflt (refine' use (is55 _ _ _ _ _ _ _) ?hB ?hF ?hX ?hN ?hT ?hp ?hd ?hu ?_; (case hB => k_asm); (case hF => k_asm); (case hX => k_asm); (case hN => k_asm); (case hT => k_asm); (case hp => trivial); (case hd => ktr_room); (case hu => ktr_units); k_whole); intro r2z9 n2z9 h2z9 tk2z9 F2z9 N2z9 hR2z9; obtain ⟨e21z9, e22z9⟩ := hR2z9; (try (first | rw [decide_eq_true (by lia)] at e21z9 | rw [decide_eq_false (by lia)] at e21z9)); subst e21z9; subst e22z9; (try dsimp only); (try k_sweep)) | with_reducible (k_here; (with_reducible show wpAny _ _ (call (Value.ref 48) [Value.int _ _] _) _ _ _); k_dflt (refine' use (is48 _ _ _ _ _ _ _) ?hB ?hF ?hX ?hN ?hT ?hp ?hd ?hu ?_; (case hB => k_asm); (case hF => k_asm); (case hX => k_asm); (case hN => k_asm); (case hT => k_asm); (case hp => trivial); (case hd => ktr_room); (case hu => ktr_units); k_whole); intro r2z9 n2z9 h2z9 tk2z9 F2z9 N2z9 hR2z9; obtain ⟨e21z9, e22z9⟩ := hR2z9; (try (first | rw [decide_eq_true (by lia)] at e21z9 | rw [decide_eq_false (by lia)] at e21z9)); subst e21z9; subst e22z9; (try dsimp only); (try k_sweep)) | with_reducible (k_here; (with_reducible show wpAny _ _ (call (Value.ref 69) _ _) _ _ _); k_dflt (refine' use (rgb_con' _ _ _ _ _ _ _ _ _ _ _ _ ?ok ?eq) ?hB ?hF ?hX ?hN ?hT ?hp ?hd ?hu ?_; (case hB => k_asm); (case hF => k_asm); (case hX => k_asm); (case hN => k_asm); (case hT => k_asm); (case hp => trivial); (case hd => ktr_room); (case hu => ktr_units); (case eq => assumption); (case ok => assumption); k_whole); intro r2z9 n2z9 h2z9 tk2z9 F2z9 N2z9 hR2z9; obtain ⟨D2z9, t21z9, t22z9, t23z9, e21z9, e22z9, l2z9, nz2z9⟩ := hR2z9; subst e21z9; subst e22z9; (try k_lt l2z9); (try dsimp only); (try k_sweep)) | with_reducible (k_here; (with_reducible show wpAny _ _ (call (Value.ref 76) _ _) _ _ _); k_dflt (refine' use (hsv_con' _ _ _ _ _ _ _ _ _ _ _ _ ?ok ?eq) ?hB ?hF ?hX ?hN ?hT ?hp ?hd ?hu ?_; (case hB => k_asm); (case hF => k_asm); (case hX => k_asm); (case hN => k_asm); (case hT => k_asm); (case hp => trivial); (case hd => ktr_room); (case hu => ktr_units); (case eq => assumption); (case ok => assumption); k_whole); intro r2z9 n2z9 h2z9 tk2z9 F2z9 N2z9 hR2z9; obtain ⟨D2z9, t21z9, t22z9, t23z9, e21z9, e22z9, l2z9, nz2z9⟩ := hR2z9; subst e21z9; subst e22z9; (try k_lt l2z9); (try dsimp only); (try k_sweep)) | with_reducible ((with_reducible show wpAny _ _ (execs [] _) _ _ _); ((with_reducible refine wpAny_execs_nil ?_); try dsimp only)) | with_reducible ((with_reducible show wpAny _ _ (execs (_ :: _) _) _ _ _); ((with_reducible refine cons_pos ?_); intro tkz9; try dsimp only)) | with_reducible ((with_reducible show wpAny _ _ (subscriptTail (Expr.Name _ _) (Expr.Constant _ _ _) (Value.ref _) (Value.int _ _)) _ _ _); (k_here; k_dflt (refine item_list ⟨_, News.get (by assumption) (by k_mem), rfl, _, rfl⟩ (by decide) (by decide) (at_arr (by rfl)) ?_))) | walk1) | (dsimp only; (first | with_reducible ((with_reducible show wpAny _ _ (subscriptTail (PySem.Expr.Subscript _ _ _) _ _ _) _ _ _); k_here; k_dflt (refine kba_turn (value' := PySem.Expr.Name (PySem.Str.ofString "_") ⟨0, 0, 0, 0⟩) (fun _ => rfl) ?_)) | with_reducible (k_here; (with_reducible show wpAny _ _ (call (Value.ref 62) [Value.int _ _] _) _ _ _); k_dflt (refine' use (is62 _ _ _ _ _ _ _) ?hB ?hF ?hX ?hN ?hT ?hp ?hd ?hu ?_; (case hB => k_asm); (case hF => k_asm); (case hX => k_asm); (case hN => k_asm); (case hT => k_asm); (case hp => trivial); (case hd => ktr_room); (case hu => ktr_units); k_whole); intro r2z9 n2z9 h2z9 tk2z9 F2z9 N2z9 hR2z9; obtain ⟨e21z9, e22z9⟩ := hR2z9; (try (first | rw [decide_eq_true (by lia)] at e21z9 | rw [decide_eq_false (by lia)] at e21z9)); subst e21z9; subst e22z9; (try dsimp only); (try k_sweep)) | with_reducible (k_here; (with_reducible show wpAny _ _ (call (Value.ref 55) [Value.int _ _] _) _ _ _); k_dflt (refine' use (is55 _ _ _ _ _ _ _) ?hB ?hF ?hX ?hN ?hT ?hp ?hd ?hu ?_; (case hB => k_asm); (case hF => k_asm); (case hX => k_asm); (case hN => k_asm); (case hT => k_asm); (case hp => trivial); (case hd => ktr_room); (case hu => ktr_units); k_whole); intro r2z9 n2z9 h2z9 tk2z9 F2z9 N2z9 hR2z9; obtain ⟨e21z9, e22z9⟩ := hR2z9; (try (first | rw [decide_eq_true (by lia)] at e21z9 | rw [decide_eq_false (by lia)] at e21z9)); subst e21z9; subst e22z9; (try dsimp only); (try k_sweep)) | with_reducible (k_here; (with_reducible show wpAny _ _ (call (Value.ref 48) [Value.int _ _] _) _ _ _); k_dflt (refine' use (is48 _ _ _ _ _ _ _) ?hB ?hF ?hX ?hN ?hT ?hp ?hd ?hu ?_; (case hB => k_asm); (case hF => k_asm); (case hX => k_asm); (case hN => k_asm); (case hT => k_asm); (case hp => trivial); (case hd => ktr_room); (case hu => ktr_units); k_whole); intro r2z9 n2z9 h2z9 tk2z9 F2z9 N2z9 hR2z9; obtain ⟨e21z9, e22z9⟩ := hR2z9; (try (first | rw [decide_eq_true (by lia)] at e21z9 | rw [decide_eq_false (by lia)] at e21z9)); subst e21z9; subst e22z9; (try dsimp only); (try k_sweep)) | with_reducible (k_here; (with_reducible show wpAny _ _ (call (Value.ref 69) _ _) _ _ _); k_dflt (refine' use (rgb_con' _ _ _ _ _ _ _ _ _ _ _ _ ?ok ?eq) ?hB ?hF ?hX ?hN ?hT ?hp ?hd ?hu ?_; (case hB => k_asm); (case hF => k_asm); (case hX => k_asm); (case hN => k_asm); (case hT => k_asm); (case hp => trivial); (case hd => ktr_room); (case hu => ktr_units); (case eq => assumption); (case ok => assumption); k_whole); intro r2z9 n2z9 h2z9 tk2z9 F2z9 N2z9 hR2z9; obtain ⟨D2z9, t21z9, t22z9, t23z9, e21z9, e22z9, l2z9, nz2z9⟩ := hR2z9; subst e21z9; subst e22z9; (try k_lt l2z9); (try dsimp only); (try k_sweep)) | with_reducible (k_here; (with_reducible show wpAny _ _ (call (Value.ref 76) _ _) _ _ _); k_dflt (refine' use (hsv_con' _ _ _ _ _ _ _ _ _ _ _ _ ?ok ?eq) ?hB ?hF ?hX ?hN ?hT ?hp ?hd ?hu ?_; (case hB => k_asm); (case hF => k_asm); (case hX => k_asm); (case hN => k_asm); (case hT => k_asm); (case hp => trivial); (case hd => ktr_room); (case hu => ktr_units); (case eq => assumption); (case ok => assumption); k_whole); intro r2z9 n2z9 h2z9 tk2z9 F2z9 N2z9 hR2z9; obtain ⟨D2z9, t21z9, t22z9, t23z9, e21z9, e22z9, l2z9, nz2z9⟩ := hR2z9; subst e21z9; subst e22z9; (try k_lt l2z9); (try dsimp only); (try k_sweep)) | with_reducible ((with_reducible show wpAny _ _ (execs [] _) _ _ _); ((with_reducible refine wpAny_execs_nil ?_); try dsimp only)) | with_reducible ((with_reducible show wpAny _ _ (execs (_ :: _) _) _ _ _); ((with_reducible refine cons_pos ?_); intro tkz9; try dsimp only)) | with_reducible ((with_reducible show wpAny _ _ (subscriptTail (Expr.Name _ _) (Expr.Constant _ _ _) (Value.ref _) (Value.int _ _)) _ _ _); (k_here; k_dflt (refine item_list ⟨_, News.get (by assumption) (by k_mem), rfl, _, rfl⟩ (by decide) (by decide) (at_arr (by rfl)) ?_))) | walk1)) | (leave1; try dsimp only))
    rw [Hmk.out]
    repeat' (first | (k_unfold; (try dsimp only)) | (first | with_reducible ((with_reducible show wpAny _ _ (subscriptTail (PySem.Expr.Subscript _ _ _) _ _ _) _ _ _); k_here; k_dflt (refine kba_turn (value' := PySem.Expr.Name (PySem.Str.ofString "_") ⟨0, 0, 0, 0⟩) (fun _ => rfl) ?_)) | with_reducible (k_here; (with_reducible show wpAny _ _ (call (Value.ref 62) [Value.int _ _] _) _ _ _); k_dflt (refine' use (is62 _ _ _ _ _ _ _) ?hB ?hF ?hX ?hN ?hT ?hp ?hd ?hu ?_; (case hB => k_asm); (case hF => k_asm); (case hX => k_asm); (case hN => k_asm); (case hT => k_asm); (case hp => trivial); (case hd => ktr_room); (case hu => ktr_units); k_whole); intro r2z9 n2z9 h2z9 tk2z9 F2z9 N2z9 hR2z9; obtain ⟨e21z9, e22z9⟩ := hR2z9; (try (first | rw [decide_eq_true (by lia)] at e21z9 | rw [decide_eq_false (by lia)] at e21z9)); subst e21z9; subst e22z9; (try dsimp only); (try k_sweep)) | with_reducible (k_here; (with_reducible show wpAny _ _ (call (Value.ref 55) [Value.int _ _] _) _ _ _); k_dflt (refine' use (is55 _ _ _ _ _ _ _) ?hB ?hF ?hX ?hN ?hT ?hp ?hd ?hu ?_; (case hB => k_asm); (case hF => k_asm); (case hX => k_asm); (case hN => k_asm); (case hT => k_asm); (case hp => trivial); (case hd => ktr_room); (case hu => ktr_units); k_whole); intro r2z9 n2z9 h2z9 tk2z9 F2z9 N2z9 hR2z9; obtain ⟨e21z9, e22z9⟩ := hR2z9; (try (first | rw [decide_eq_true (by lia)] at e21z9 | rw [decide_eq_false (by lia)] at e21z9)); subst e21z9; subst e22z9; (try dsimp only); (try k_sweep)) | with_reducible (k_here; (with_reducible show wpAny _ _ (call (Value.ref 48) [Value.int _ _] _) _ _ _); k_dflt (refine' use (is48 _ _ _ _ _ _ _) ?hB ?hF ?hX ?hN ?hT ?hp ?hd ?hu ?_; (case hB => k_asm); (case hF => k_asm); (case hX => k_asm); (case hN => k_asm); (case hT => k_asm); (case hp => trivial); (case hd => ktr_room); (case hu => ktr_units); k_whole); intro r2z9 n2z9 h2z9 tk2z9 F2z9 N2z9 hR2z9; obtain ⟨e21z9, e22z9⟩ := hR2z9; (try (first | rw [decide_eq_true (by lia)] at e21z9 | rw [decide_eq_false (by lia)] at e21z9)); subst e21z9; subst e22z9; (try dsimp only); (try k_sweep)) | with_reducible (k_here; (with_reducible show wpAny _ _ (call (Value.ref 69) _ _) _ _ _); k_dflt (refine' use (rgb_con' _ _ _ _ _ _ _ _ _ _ _ _ ?ok ?eq) ?hB ?hF ?hX ?hN ?hT ?hp ?hd ?hu ?_; (case hB => k_asm); (case hF => k_asm); (case hX => k_asm); (case hN => k_asm); (case hT => k_asm); (case hp => trivial); (case hd => ktr_room); (case hu => ktr_units); (case eq => assumption); (case ok => assumption); k_whole); intro r2z9 n2z9 h2z9 tk2z9 F2z9 N2z9 hR2z9; obtain ⟨D2z9, t21z9, t22z9, t23z9, e21z9, e22z9, l2z9, nz2z9⟩ := hR2z9; subst e21z9; subst e22z9; (try k_lt l2z9); (try dsimp only); (try k_sweep)) | with_reducible (k_here; (with_reducible show wpAny _ _ (call (Value.ref 76) _ _) _ _ _); k_dflt (refine' use (hsv_con' _ _ _ _ _ _ _ _ _ _ _ _ ?ok ?eq) ?hB ?hF ?hX ?hN ?hT ?hp ?hd ?hu ?_; (case hB => k_asm); (case hF => k_asm); (case hX => k_asm); (case hN => k_asm); (case hT => k_asm); (case hp => trivial); (case hd => ktr_room); (case hu => ktr_units); (case eq => assumption); (case ok => assumption); k_whole); intro r2z9 n2z9 h2z9 tk2z9 F2z9 N2z9 hR2z9; obtain ⟨D2z9, t21z9, t22z9, t23z9, e21z9, e22z9, l2z9, nz2z9⟩ := hR2z9; subst e21z9; subst e22z9; (try k_lt l2z9); (try dsimp only); (try k_sweep)) | with_reducible ((with_reducible show wpAny _ _ (execs [] _) _ _ _); ((with_reducible refine wpAny_execs_nil ?_); try dsimp only)) | with_reducible ((with_reducible show wpAny _ _ (execs (_ :: _) _) _ _ _); ((with_reducible refine cons_pos ?_); intro tkz9; try dsimp only)) | with_reducible ((with_reducible show wpAny _ _ (subscriptTail (Expr.Name _ _) (Expr.Constant _ _ _) (Value.ref _) (Value.int _ _)) _ _ _); (k_here; k_dflt (refine item_list ⟨_, News.get (by assumption) (by k_mem), rfl, _, rfl⟩ (by decide) (by decide) (at_arr (by rfl)) ?_))) | walk1) | (dsimp only; (first | with_reducible ((with_reducible show wpAny _ _ (subscriptTail (PySem.Expr.Subscript _ _ _) _ _ _) _ _ _); k_here; k_dflt (refine kba_turn (value' := PySem.Expr.Name (PySem.Str.ofString "_") ⟨0, 0, 0, 0⟩) (fun _ => rfl) ?_)) | with_reducible (k_here; (with_reducible show wpAny _ _ (call (Value.ref 62) [Value.int _ _] _) _ _ _); k_dflt (refine' use (is62 _ _ _ _ _ _ _) ?hB ?hF ?hX ?hN ?hT ?hp ?hd ?hu ?_; (case hB => k_asm); (case hF => k_asm); (case hX => k_asm); (case hN => k_asm); (case hT => k_asm); (case hp => trivial); (case hd => ktr_room); (case hu => ktr_units); k_whole); intro r2z9 n2z9 h2z9 tk2z9 F2z9 N2z9 hR2z9; obtain ⟨e21z9, e22z9⟩ := hR2z9; (try (first | rw [decide_eq_true (by lia)] at e21z9 | rw [decide_eq_false (by lia)] at e21z9)); subst e21z9; subst e22z9; (try dsimp only); (try k_sweep)) | with_reducible (k_here; (with_reducible show wpAny _ _ (call (Value.ref 55) [Value.int _ _] _) _ _ _); k_dflt (refine' use (is55 _ _ _ _ _ _ _) ?hB ?hF ?hX ?hN ?hT ?hp ?hd ?hu ?_; (case hB => k_asm); (case hF => k_asm); (case hX => k_asm); (case hN => k_asm); (case hT => k_asm); (case hp => trivial); (case hd => ktr_room); (case hu => ktr_units); k_whole); intro r2z9 n2z9 h2z9 tk2z9 F2z9 N2z9 hR2z9; obtain ⟨e21z9, e22z9⟩ := hR2z9; (try (first | rw [decide_eq_true (by lia)] at e21z9 | rw [decide_eq_false (by lia)] at e21z9)); subst e21z9; subst e22z9; (try dsimp only); (try k_sweep)) | with_reducible (k_here; (with_reducible show wpAny _ _ (call (Value.ref 48) [Value.int _ _] _) _ _ _); k_dflt (refine' use (is48 _ _ _ _ _ _ _) ?hB ?hF ?hX ?hN ?hT ?hp ?hd ?hu ?_; (case hB => k_asm); (case hF => k_asm); (case hX => k_asm); (case hN => k_asm); (case hT => k_asm); (case hp => trivial); (case hd => ktr_room); (case hu => ktr_units); k_whole); intro r2z9 n2z9 h2z9 tk2z9 F2z9 N2z9 hR2z9; obtain ⟨e21z9, e22z9⟩ := hR2z9; (try (first | rw [decide_eq_true (by lia)] at e21z9 | rw [decide_eq_false (by lia)] at e21z9)); subst e21z9; subst e22z9; (try dsimp only); (try k_sweep)) | with_reducible (k_here; (with_reducible show wpAny _ _ (call (Value.ref 69) _ _) _ _ _); k_dflt (refine' use (rgb_con' _ _ _ _ _ _ _ _ _ _ _ _ ?ok ?eq) ?hB ?hF ?hX ?hN ?hT ?hp ?hd ?hu ?_; (case hB => k_asm); (case hF => k_asm); (case hX => k_asm); (case hN => k_asm); (case hT => k_asm); (case hp => trivial); (case hd => ktr_room); (case hu => ktr_units); (case eq => assumption); (case ok => assumption); k_whole); intro r2z9 n2z9 h2z9 tk2z9 F2z9 N2z9 hR2z9; obtain ⟨D2z9, t21z9, t22z9, t23z9, e21z9, e22z9, l2z9, nz2z9⟩ := hR2z9; subst e21z9; subst e22z9; (try k_lt l2z9); (try dsimp only); (try k_sweep)) | with_reducible (k_here; (with_reducible show wpAny _ _ (call (Value.ref 76) _ _) _ _ _); k_dflt (refine' use (hsv_con' _ _ _ _ _ _ _ _ _ _ _ _ ?ok ?eq) ?hB ?hF ?hX ?hN ?hT ?hp ?hd ?hu ?_; (case hB => k_asm); (case hF => k_asm); (case hX => k_asm); (case hN => k_asm); (case hT => k_asm); (case hp => trivial); (case hd => ktr_room); (case hu => ktr_units); (case eq => assumption); (case ok => assumption); k_whole); intro r2z9 n2z9 h2z9 tk2z9 F2z9 N2z9 hR2z9; obtain ⟨D2z9, t21z9, t22z9, t23z9, e21z9, e22z9, l2z9, nz2z9⟩ := hR2z9; subst e21z9; subst e22z9; (try k_lt l2z9); (try dsimp only); (try k_sweep)) | with_reducible ((with_reducible show wpAny _ _ (execs [] _) _ _ _); ((with_reducible refine wpAny_execs_nil ?_); try dsimp only)) | with_reducible ((with_reducible show wpAny _ _ (execs (_ :: _) _) _ _ _); ((with_reducible refine cons_pos ?_); intro tkz9; try dsimp only)) | with_reducible ((with_reducible show wpAny _ _ (subscriptTail (Expr.Name _ _) (Expr.Constant _ _ _) (Value.ref _) (Value.int _ _)) _ _ _); (k_here; k_dflt (refine item_list ⟨_, News.get (by assumption) (by k_mem), rfl, _, rfl⟩ (by decide) (by decide) (at_arr (by rfl)) ?_))) | walk1)) | (leave1; try dsimp only))
    rename Fr _ _ _ _ => F9
    rename News _ _ _ _ => N9
    exact hret _ _ _ _ _ F9 (news_drop3 N9) ⟨rfl, fun z h1 h2 h3 h4 h5 h6 h7 h8 => by (repeat (refine (if_neg (by assumption)).trans ?_)); rfl, _, rfl⟩
end Mine
end

section
open PySem PySem.W PyProof.Rows PySem.Spec PySem.Calls
set_option maxRecDepth 100000
set_option maxHeartbeats 4000000
namespace Mine
/-- all that the floats of one edge must answer -/
noncomputable def edgeOk (si sh lv : Int) : Bool :=
  let f := if sh = 0 then 0 else frac sh 4
  let q := hsvF (frac (11 * (si + 7)) 64) f (frac lv 4)
  let z := tldT sh lv (((si + 7) * 11).fmod 64)
  hsvOk (frac (11 * (si + 7)) 64) f && rgbOk q.1 q.2.1 q.2.2 && (rgbF q.1 q.2.1 q.2.2 == z) && (Float64.cmp z.1 z.1 == some Ordering.eq) && (Float64.cmp z.2.1 z.2.1 == some Ordering.eq) && (Float64.cmp z.2.2 z.2.2 == some Ordering.eq) &&
  (b2i (Float64.cmp q.2.2 q.1 == some Ordering.gt) - b2i (Float64.cmp q.2.2 q.1 == some Ordering.lt) == mkT sh (((si + 7) * 11).fmod 64))
theorem edge_a : ∀ i : _root_.Fin 6, ∀ sh : _root_.Fin 5, ∀ lv : _root_.Fin 4, edgeOk (i.1 + 0) sh.1 (lv.1 + 1) = true := by decide +kernel
theorem edge_b : ∀ i : _root_.Fin 6, ∀ sh : _root_.Fin 5, ∀ lv : _root_.Fin 4, edgeOk (i.1 + 6) sh.1 (lv.1 + 1) = true := by decide +kernel
theorem edge_c : ∀ i : _root_.Fin 6, ∀ sh : _root_.Fin 5, ∀ lv : _root_.Fin 4, edgeOk (i.1 + 12) sh.1 (lv.1 + 1) = true := by decide +kernel
theorem edge_d : ∀ i : _root_.Fin 6, ∀ sh : _root_.Fin 5, ∀ lv : _root_.Fin 4, edgeOk (i.1 + 18) sh.1 (lv.1 + 1) = true := by decide +kernel
theorem edge_e : ∀ i : _root_.Fin 6, ∀ sh : _root_.Fin 5, ∀ lv : _root_.Fin 4, edgeOk (i.1 + 24) sh.1 (lv.1 + 1) = true := by decide +kernel
theorem edge_f : ∀ i : _root_.Fin 6, ∀ sh : _root_.Fin 5, ∀ lv : _root_.Fin 4, edgeOk (i.1 + 30) sh.1 (lv.1 + 1) = true := by decide +kernel
theorem edge_g : ∀ i : _root_.Fin 6, ∀ sh : _root_.Fin 5, ∀ lv : _root_.Fin 4, edgeOk (i.1 + 36) sh.1 (lv.1 + 1) = true := by decide +kernel
theorem edge_h : ∀ i : _root_.Fin 6, ∀ sh : _root_.Fin 5, ∀ lv : _root_.Fin 4, edgeOk (i.1 + 42) sh.1 (lv.1 + 1) = true := by decide +kernel
theorem edge_all {si sh lv : Int} (b5 : 0 ≤ si ∧ si < 48) (b2 : 0 ≤ sh ∧ sh < 5) (b3 : 1 ≤ lv ∧ lv < 5) : edgeOk si sh lv = true := by
  have hs : ((sh.toNat : Nat) : Int) = sh := Int.toNat_of_nonneg b2.1
  have hl : (((lv - 1).toNat : Nat) : Int) + 1 = lv := by rw [Int.toNat_of_nonneg (Int.sub_nonneg_of_le b3.1)]; exact Int.sub_add_cancel lv 1
  have key : ∀ (k : Int) (h : ∀ i : _root_.Fin 6, ∀ sh : _root_.Fin 5, ∀ lv : _root_.Fin 4, edgeOk (i.1 + k) sh.1 (lv.1 + 1) = true), k ≤ si → si < k + 6 → edgeOk si sh lv = true := fun k h h1 h2 => by
    have q := h ⟨(si - k).toNat, (Int.toNat_lt (Int.sub_nonneg_of_le h1)).mpr (Int.sub_left_lt_of_lt_add h2)⟩ ⟨sh.toNat, (Int.toNat_lt b2.1).mpr b2.2⟩ ⟨(lv - 1).toNat, (Int.toNat_lt (Int.sub_nonneg_of_le b3.1)).mpr (Int.sub_left_lt_of_lt_add b3.2)⟩
    simp only [hs, hl, show (((si - k).toNat : Nat) : Int) + k = si by rw [Int.toNat_of_nonneg (Int.sub_nonneg_of_le h1)]; exact Int.sub_add_cancel si k] at q
    exact q
  rcases Int.lt_or_le si 6 with h | h6
  · exact key 0 edge_a b5.1 h
  rcases Int.lt_or_le si 12 with h | h12
  · exact key 6 edge_b h6 h
  rcases Int.lt_or_le si 18 with h | h18
  · exact key 12 edge_c h12 h
  rcases Int.lt_or_le si 24 with h | h24
  · exact key 18 edge_d h18 h
  rcases Int.lt_or_le si 30 with h | h30
  · exact key 24 edge_e h24 h
  rcases Int.lt_or_le si 36 with h | h36
  · exact key 30 edge_f h30 h
  rcases Int.lt_or_le si 42 with h | h42
  · exact key 36 edge_g h36 h
  exact key 42 edge_h h42 b5.2
end Mine
end

section
open PySem PySem.W PyProof.Rows PySem.Spec PySem.Calls
set_option maxRecDepth 100000
set_option maxHeartbeats 4000000
namespace Mine
/-- turnC with its floats' facts filled in -/
theorem turnC' (w : World) (mean : ExcName → Option Value) (mg mb : Str → Option Value) (B : Str → Option Value) (rest : List (Addr × Obj)) (cl : List (Str × Addr)) (Ow Hv : Addr) (si sh lv : Int) (tt h1 h2 h3 : Tok) (ov : Array Value) (no : Nat)
    (b2 : 0 ≤ sh ∧ sh < 5) (b3 : 1 ≤ lv ∧ lv < 5) (b5 : 0 ≤ si ∧ si < 48) (nh : h1 ≠ 0 ∧ h2 ≠ 0 ∧ h3 ≠ 0) (zo : ov.size ≤ 100) (oOH : @LT.lt Nat _ Hv Ow) (r1 : ∀ p ∈ rest, p.1 ≠ Ow) :
    SegC 20 w mean mg mb cl (forBody (stAt (forBody (stAt lawD.body 6)) 2)) (fun y => if y = Str.ofString "text" then some (.str (txT (signs48.getD si.toNat PySem.Str.empty) sh lv) tt) else if y = Str.ofString "hsv" then some (.ref Hv) else if y = Str.ofString "owners" then some (.ref Ow) else B y)
      ((Ow, PySem.W.listOf ov no) :: (Hv, tup3 (tldT sh lv (((si + 7) * 11).fmod 64)).1 (tldT sh lv (((si + 7) * 11).fmod 64)).2.1 (tldT sh lv (((si + 7) * 11).fmod 64)).2.2 h1 h2 h3) :: rest)
      (fun f m' nw => f = .next ∧ (∀ y, y ≠ Str.ofString "parts" → y ≠ Str.ofString "share" → y ≠ Str.ofString "number" → y ≠ Str.ofString "r" → y ≠ Str.ofString "g" → y ≠ Str.ofString "b" → y ≠ Str.ofString "text" → y ≠ Str.ofString "hsv" →
          m' y = if y = Str.ofString "owners" then some (.ref Ow) else B y) ∧ ∃ a1, nw = (Ow, PySem.W.listOf (ov.push (.int (mkT sh (((si + 7) * 11).fmod 64)) a1)) (no + 1)) :: (Hv, tup3 (tldT sh lv (((si + 7) * 11).fmod 64)).1 (tldT sh lv (((si + 7) * 11).fmod 64)).2.1 (tldT sh lv (((si + 7) * 11).fmod 64)).2.2 h1 h2 h3) :: rest) := by
  have h := edge_all b5 b2 b3
  unfold edgeOk at h
  simp only [Bool.and_eq_true, beq_iff_eq] at h
  obtain ⟨⟨⟨⟨⟨⟨e1, e2⟩, e3⟩, e4⟩, e5⟩, e6⟩, e7⟩ := h
  have C := turnC w mean mg mb B rest Ow Hv si sh lv tt h1 h2 h3 ov no _ (tldT sh lv (((si + 7) * 11).fmod 64)) (mkT sh (((si + 7) * 11).fmod 64)) b2 b3 b5 nh e1 rfl e2 e3 (by rw [e4]; rfl) (by rw [e5]; rfl) (by rw [e6]; rfl) e7 zo oOH r1
  intro dp un gd a ccd outer A₀ base h₀ L s Q E B' F X N T hd hu hret
  exact C dp un gd a ccd cl outer A₀ base h₀ L s Q E B' F X N T trivial hd hu hret
theorem turnB2 (w : World) (mean : ExcName → Option Value) (mg mb : Str → Option Value) (B : Str → Option Value) (rest : List (Addr × Obj)) (c1 c2 c3 Tl tk Tx Ow : Addr) (st : Int) (tst : Tok) (tlv tv tx : Array Value) (nt nl nx no : Nat)
    (si sh lv : Nat → Int) (tt h1 h2 h3 : Nat → Tok) (Hv : Nat → Addr)
    (b1 : 0 ≤ st ∧ st < 3) (hT : tlv[st.toNat]? = some (.ref tk)) (zt : tv.size ≤ 100) (zx : tx.size = tv.size)
    (he : ∀ i, i < tv.size → ((0 ≤ si i ∧ si i < 48) ∧ (0 ≤ sh i ∧ sh i < 5) ∧ (1 ≤ lv i ∧ lv i < 5) ∧ (h1 i ≠ 0 ∧ h2 i ≠ 0 ∧ h3 i ≠ 0)) ∧ tx[i]? = some (.str (txT (signs48.getD (si i).toNat PySem.Str.empty) (sh i) (lv i)) (tt i)) ∧ tv[i]? = some (.ref (Hv i)) ∧
      (Hv i, tup3 (tldT (sh i) (lv i) (((si i + 7) * 11).fmod 64)).1 (tldT (sh i) (lv i) (((si i + 7) * 11).fmod 64)).2.1 (tldT (sh i) (lv i) (((si i + 7) * 11).fmod 64)).2.2 (h1 i) (h2 i) (h3 i)) ∈ rest)
    (hO : ∀ y ∈ (Tx, PySem.W.listOf tx nx) :: (Tl, PySem.W.listOf tlv nl) :: (tk, PySem.W.listOf tv nt) :: rest, @LT.lt Nat _ y.1 Ow) :
    SegC 40 w mean mg mb (cells3 c1 c2 c3) [stAt (forBody (stAt lawD.body 6)) 2]
      (fun z => if z = Str.ofString "texts" then some (.ref Tx) else if z = Str.ofString "owners" then some (.ref Ow) else if z = Str.ofString "stalk" then some (.int st tst) else if z = Str.ofString "told" then some (.ref Tl) else B z)
      ((Ow, PySem.W.listOf #[] no) :: (Tx, PySem.W.listOf tx nx) :: (Tl, PySem.W.listOf tlv nl) :: (tk, PySem.W.listOf tv nt) :: rest)
      (fun f m' nw => f = .next ∧ (∀ z, z ≠ Str.ofString "parts" → z ≠ Str.ofString "share" → z ≠ Str.ofString "number" → z ≠ Str.ofString "r" → z ≠ Str.ofString "g" → z ≠ Str.ofString "b" → z ≠ Str.ofString "text" → z ≠ Str.ofString "hsv" →
          m' z = if z = Str.ofString "texts" then some (.ref Tx) else if z = Str.ofString "owners" then some (.ref Ow) else if z = Str.ofString "stalk" then some (.int st tst) else if z = Str.ofString "told" then some (.ref Tl) else B z) ∧
        ∃ ov no', ov.size = tv.size ∧ (∀ i, i < tv.size → ∃ t, ov[i]? = some (.int (mkT (sh i) (((si i + 7) * 11).fmod 64)) t)) ∧
          nw = (Ow, PySem.W.listOf ov no') :: (Tx, PySem.W.listOf tx nx) :: (Tl, PySem.W.listOf tlv nl) :: (tk, PySem.W.listOf tv nt) :: rest) := by
  w_top off
  unfold SegC; k_fill
  intro dp un gd a' ccd outer A₀ base h₀ L s Q E B' F X N T hd hu hret
  unfold stAt lawD lawQ
  dsimp only [List.getD, List.getElem?_cons_succ, List.getElem?_cons_zero, Option.getD, forBody, cells3]
  repeat' ((fail_if_success (with_reducible show wpAny _ _ (call (Value.type "zip") _) _ _ _)); (fail_if_success (with_reducible show wpAny _ _ (pyIter _) _ _ _)); first | (k_unfold; (try dsimp only)) | (first | with_reducible ((with_reducible show wpAny _ _ (exec (Stmt.For (Expr.Tuple _ _ _) _ _ _ _) _) _ _ _); (k_here; k_dflt (refine wpAny_For ?_ (by intro _; with_unfolding_all rfl)))) | with_reducible (k_here; (with_reducible show wpAny _ _ (subscriptTail _ (Expr.Name _ _) (Value.ref _) (Value.int _ _)) _ _ _); k_dflt (refine item_list ⟨_, News.get (by assumption) (by k_mem), rfl, _, rfl⟩ (by lia) (by lia) (by with_reducible assumption) ?_)) | walk1) | (dsimp only; (first | with_reducible ((with_reducible show wpAny _ _ (exec (Stmt.For (Expr.Tuple _ _ _) _ _ _ _) _) _ _ _); (k_here; k_dflt (refine wpAny_For ?_ (by intro _; with_unfolding_all rfl)))) | with_reducible (k_here; (with_reducible show wpAny _ _ (subscriptTail _ (Expr.Name _ _) (Value.ref _) (Value.int _ _)) _ _ _); k_dflt (refine item_list ⟨_, News.get (by assumption) (by k_mem), rfl, _, rfl⟩ (by lia) (by lia) (by with_reducible assumption) ?_)) | walk1)) | (leave1; try dsimp only))
  obtain ⟨fpTx, xTx⟩ : ∃ o, s.heap.get? Tx = some o := ⟨_, (N (Tx, PySem.W.listOf tx nx) (by k_mem)).1⟩
  have nmT : (Tx, PySem.W.listOf tx nx) ∈ (Ow, PySem.W.listOf #[] no) :: (Tx, PySem.W.listOf tx nx) :: (Tl, PySem.W.listOf tlv nl) :: (tk, PySem.W.listOf tv nt) :: rest := by k_mem
  have nmt : (tk, PySem.W.listOf tv nt) ∈ (Ow, PySem.W.listOf #[] no) :: (Tx, PySem.W.listOf tx nx) :: (Tl, PySem.W.listOf tlv nl) :: (tk, PySem.W.listOf tv nt) :: rest := by k_mem
  refine call_zipS (p := false) (q := false) (xs := tx) (ys := tv) ⟨_, (N _ nmT).1, rfl, _, rfl⟩ ⟨_, (N _ nmt).1, rfl, _, rfl⟩ fun h' z TI TO i j D Z hge hlt up => ?_
  refine wpAny_pyIter_zip Z.z ?_
  have F1 := F.keeps up
  have N1 := N.grown up
  have hTIO : @Ne Nat TI Ow := fun e => by
    have q1 := (N1 _ (.head _)).1
    have q2 : h'.get? TI = some _ := Z.ti
    rw [e] at q2
    exact absurd (Value.type.inj (congrArg Obj.cls (Option.some.inj (q1.symm.trans q2)))) (by decide)
  have hTIL : @Ne Nat TI L := fun e => by
    obtain ⟨o, es, ep, q1, q3, _⟩ := F1.ns
    have q2 : h'.get? TI = some _ := Z.ti
    rw [e] at q2
    have q4 := q1.symm.trans q2
    cases q4
    cases q3
  have hLt : @LT.lt Nat _ L s.heap.objs.size := F.ns.lt
  have hOt : @LT.lt Nat _ Ow s.heap.objs.size := Heap.lt_size (N _ (.head _)).1
  have apart : ∀ c ∈ [z, TI, TO, i, j, Tx, tk], @Ne Nat c L ∧ @Ne Nat c Ow := by
    intro c hc
    have big : ∀ c ∈ [z, TO, i, j], @Ne Nat c L ∧ @Ne Nat c Ow := fun c hc => ⟨Nat.ne_of_gt (Nat.lt_of_lt_of_le hLt (hge c hc)), Nat.ne_of_gt (Nat.lt_of_lt_of_le hOt (hge c hc))⟩
    simp only [List.mem_cons, List.not_mem_nil, or_false] at hc
    rcases hc with rfl | rfl | rfl | rfl | rfl | rfl | rfl
    · exact big _ (by k_mem)
    · exact ⟨hTIL, hTIO⟩
    · exact big _ (by k_mem)
    · exact big _ (by k_mem)
    · exact big _ (by k_mem)
    · exact ⟨(N _ nmT).2.1, Nat.ne_of_lt (hO (_, PySem.W.listOf tx nx) (by k_mem))⟩
    · exact ⟨(N _ nmt).2.1, Nat.ne_of_lt (hO (_, PySem.W.listOf tv nt) (by k_mem))⟩
  refine codeAny_forLoop_frT (by rfl) (walkZ (by rfl) false false z TI TO i j Tx tk D tx tv zx) (P2 := fun k v0 v1 => tx[k]? = some v0 ∧ tv[k]? = some v1) (fun k vals ⟨x, y, e1, e2, e3⟩ => ⟨x, y, e3, e1, e2⟩) (by rfl) (by rfl) (by rfl)
    (fun hm => (apart _ hm).1 rfl) (fun c hc => ?hwr) (fun p hp hm => absurd (Heap.lt_size (N p hp).1) (Nat.not_lt.mpr (hge _ hm))) Z F1 N1
    (fun k m' nw => (∀ z, z ≠ Str.ofString "parts" → z ≠ Str.ofString "share" → z ≠ Str.ofString "number" → z ≠ Str.ofString "r" → z ≠ Str.ofString "g" → z ≠ Str.ofString "b" → z ≠ Str.ofString "text" → z ≠ Str.ofString "hsv" →
          m' z = if z = Str.ofString "texts" then some (.ref Tx) else if z = Str.ofString "owners" then some (.ref Ow) else if z = Str.ofString "stalk" then some (.int st tst) else if z = Str.ofString "told" then some (.ref Tl) else B z) ∧
        ∃ ov no', ov.size = k ∧ (∀ i, i < k → ∃ t, ov[i]? = some (.int (mkT (sh i) (((si i + 7) * 11).fmod 64)) t)) ∧
          nw = (Ow, PySem.W.listOf ov no') :: (Tx, PySem.W.listOf tx nx) :: (Tl, PySem.W.listOf tlv nl) :: (tk, PySem.W.listOf tv nt) :: rest)
    ⟨fun z _ _ _ _ _ _ _ _ => rfl, #[], no, rfl, fun i hi => absurd hi (by lia), rfl⟩ ?step ?done
  case hwr =>
    cases e : h₀.get? c with
    | none => rfl
    | some o' => exact absurd (Heap.lt_size (F.keep c o' e)) (Nat.not_lt.mpr (hge c hc))
  case step =>
    rintro k v0 v1 m₁ nw s₁ own ⟨h, tk₁, rfl⟩ hk ⟨p0, p1⟩ ⟨hm, ov, no', hsz, hov, rfl⟩ hmap hown F2 N2
    have hk' : k < tv.size := by lia
    obtain ⟨⟨q1, q2, q3, q4⟩, q5, q6, q7⟩ := he k hk'
    obtain rfl : v0 = _ := Option.some.inj (p0.symm.trans q5)
    obtain rfl : v1 = _ := Option.some.inj (p1.symm.trans q6)
    have F3 : Fr h₀ L h (fun y => if y = Str.ofString "text" then some (.str (txT (signs48.getD (si k).toNat PySem.Str.empty) (sh k) (lv k)) (tt k)) else if y = Str.ofString "hsv" then some (.ref (Hv k)) else if y = Str.ofString "owners" then some (.ref Ow) else m₁ y) := by
      refine (congrArg (Fr h₀ L h) (funext fun y => ?_)).mp F2
      by_cases q1 : y = Str.ofString "text"
      · subst q1; rfl
      by_cases q2 : y = Str.ofString "hsv"
      · subst q2; rfl
      by_cases q3 : y = Str.ofString "owners"
      · subst q3; exact hm _ (by decide) (by decide) (by decide) (by decide) (by decide) (by decide) (by decide) (by decide)
      simp only [if_neg q1, if_neg q2, if_neg q3]
    refine wpAny_mono (turnC' w mean mg mb m₁ (own ++ ((Tx, PySem.W.listOf tx nx) :: (Tl, PySem.W.listOf tlv nl) :: (tk, PySem.W.listOf tv nt) :: rest)) (cells3 c1 c2 c3) Ow (Hv k) (si k) (sh k) (lv k) (tt k) (h1 k) (h2 k) (h3 k) ov no' q2 q3 q1 q4 (by lia) (hO _ (.tail _ (.tail _ (.tail _ q7)))) ?r1 _ _ _ _ _ _ _ _ _ _ _ _ (fun _ _ => False) B' F3 X (fun y hy => N2 y ?mem) T ?d ?u ?_) (fun _ _ e => e) (fun _ _ e => e.elim)
    case r1 =>
      intro p hp
      rcases List.mem_append.mp hp with hp | hp
      · exact (apart _ (hown p hp)).2
      · exact Nat.ne_of_lt (hO p hp)
    case mem =>
      simp only [List.mem_cons, List.mem_append] at hy ⊢
      rcases hy with rfl | rfl | hy | hy
      · simp
      · simp [q7]
      · simp [hy]
      · simp [hy]
    case d => ktr_room
    case u => ktr_units
    rintro f m' nw' h' tk' F5 N5 ⟨rfl, hm', a1, rfl⟩
    refine LoopStep3.next (LoopStep2.intro (news₂ := (Ow, PySem.W.listOf (ov.push (.int (mkT (sh k) (((si k + 7) * 11).fmod 64)) a1)) (no' + 1)) :: (Tx, PySem.W.listOf tx nx) :: (Tl, PySem.W.listOf tlv nl) :: (tk, PySem.W.listOf tv nt) :: rest) F5 (fun y hy => N5 y ?mem2) rfl ⟨?fr, _, _, ?sz, ?ent, rfl⟩)
    case mem2 =>
      simp only [List.mem_cons, List.mem_append] at hy ⊢
      rcases hy with hy | rfl | hy
      · simp [hy]
      · simp
      · simp [hy]
    case fr =>
      intro z j1 j2 j3 j4 j5 j6 j7 j8
      rw [hm' z j1 j2 j3 j4 j5 j6 j7 j8, hm z j1 j2 j3 j4 j5 j6 j7 j8]
      by_cases w1 : z = Str.ofString "owners"
      · subst w1; rfl
      simp only [if_neg w1]
    case sz => rw [Array.size_push, hsz]
    case ent =>
      intro t ht
      by_cases hh : t = k
      · subst hh
        refine ⟨a1, ?_⟩
        rw [← hsz, Array.getElem?_push_size]
      · obtain ⟨t', e⟩ := hov t (by lia)
        exact ⟨t', by rw [Array.getElem?_push, if_neg (by lia)]; exact e⟩
  case done =>
    rintro h' tk' m' nw' F' N' hmap ⟨hm, ov, no', hsz, hov, rfl⟩
    dsimp only
    exact wpAny_execs_nil (hret _ _ _ _ _ F' N' ⟨rfl, hm, ov, no', by lia, fun i hi => hov i (by lia), rfl⟩)
end Mine
end

section
open PySem PySem.W PyProof.Rows PySem.Spec PySem.Calls
set_option maxRecDepth 100000
set_option maxHeartbeats 4000000
namespace Mine
open PyProof.Rows.LCg PyProof.Rows.LCt
theorem news_sub5 {h₀ h : Heap} {L : Addr} {a b : List (Addr × Obj)} (N : News h₀ L h a) (hs : ∀ p ∈ b, p ∈ a) : News h₀ L h b := fun p hp => N p (hs p hp)
theorem turnB5 (w : World) (mean : ExcName → Option Value) (mg mb : Str → Option Value) (B : Str → Option Value) (rest : List (Addr × Obj)) (c1 c2 c3 Pc Pl Mk mk : Addr) (st : Int) (tst : Tok) (pv mkv : Array Value) (pls vs : List Value) (n1 np nm nn : Nat) (ms : List Int)
    (hms : IntsAre vs ms) (hpl : IntsAre pls (pSt (0 :: ms)).out) (hlen : ms.length ≤ 7) (hmk : ∀ k ∈ ms, k = -1 ∨ k = 0 ∨ k = 1) (b1 : 0 ≤ st ∧ st < 3) (hP : pv[st.toNat]? = some (.ref Pl)) (hM : mkv[st.toNat]? = some (.ref mk)) :
    SegC 40 w mean mg mb (cells3 c1 c2 c3) [stAt (forBody (stAt lawD.body 6)) 5]
      (fun z => if z = Str.ofString "stalk" then some (.int st tst) else if z = Str.ofString "places" then some (.ref Pc) else if z = Str.ofString "marks" then some (.ref Mk) else B z)
      ((Pc, PySem.W.listOf pv n1) :: (Pl, PySem.W.listOf pls.toArray np) :: (Mk, PySem.W.listOf mkv nm) :: (mk, PySem.W.listOf vs.toArray nn) :: rest)
      (fun f m' nw => f = .next ∧ (∀ z, m' z = if z = Str.ofString "stalk" then some (.int st tst) else if z = Str.ofString "places" then some (.ref Pc) else if z = Str.ofString "marks" then some (.ref Mk) else B z) ∧
        nw = (Pc, PySem.W.listOf pv n1) :: (Pl, PySem.W.listOf pls.toArray np) :: (Mk, PySem.W.listOf mkv nm) :: (mk, PySem.W.listOf vs.toArray nn) :: rest) := by
  w_top off
  unfold SegC; k_fill
  intro dp un gd a' ccd outer A₀ base h₀ L s Q E B' F X N T hd hu hret
  unfold stAt lawD lawQ
  dsimp only [List.getD, List.getElem?_cons_succ, List.getElem?_cons_zero, Option.getD, forBody, cells3]
  generalize hpla : pls.toArray = pla at N hret
  repeat' ((fail_if_success (with_reducible show wpAny _ _ (call (Value.ref 231) _) _ _ _)); first | (k_unfold; (try dsimp only)) | (first | with_reducible ((with_reducible show wpAny _ _ (eval (Expr.ListComp _ _ _ _) _) _ _ _); (k_here; k_dflt (refine LCg.ListComp_U (F₀ := by k_asm) (by rfl) (by decide) (by rfl) (by decide) (by rfl) ?_))) | with_reducible (k_here; (with_reducible show wpAny _ _ (subscriptTail _ (Expr.Name _ _) (Value.ref _) (Value.int _ _)) _ _ _); k_dflt (refine item_list ⟨_, News.get (by assumption) (by k_mem), rfl, _, rfl⟩ (by lia) (by lia) (by with_reducible assumption) ?_)) | walk1) | (dsimp only; (first | with_reducible ((with_reducible show wpAny _ _ (eval (Expr.ListComp _ _ _ _) _) _ _ _); (k_here; k_dflt (refine LCg.ListComp_U (F₀ := by k_asm) (by rfl) (by decide) (by rfl) (by decide) (by rfl) ?_))) | with_reducible (k_here; (with_reducible show wpAny _ _ (subscriptTail _ (Expr.Name _ _) (Value.ref _) (Value.int _ _)) _ _ _); k_dflt (refine item_list ⟨_, News.get (by assumption) (by k_mem), rfl, _, rfl⟩ (by lia) (by lia) (by with_reducible assumption) ?_)) | walk1)) | (leave1; try dsimp only))
  rename Fr _ _ _ _ => F3
  rename News _ _ _ _ => N3
  have N3' : News h₀ L _ ((mk, PySem.W.listOf vs.toArray nn) :: (Pc, PySem.W.listOf pv n1) :: (Pl, PySem.W.listOf pla np) :: (Mk, PySem.W.listOf mkv nm) :: rest) := news_sub5 N3 (by lcg_sub)
  refine' use (worths_con w mean mg mb ((Pc, PySem.W.listOf pv n1) :: (Pl, PySem.W.listOf pla np) :: (Mk, PySem.W.listOf mkv nm) :: rest) mk vs nn ms hms hlen (fun k hk => by have := hmk k hk; lia)) ?hB F3 ?hX N3' ?hT ?hp ?hd ?hu ?_
  case hB => k_asm
  case hX => k_asm
  case hT => k_asm
  case hp => trivial
  case hd => ktr_room
  case hu => ktr_units
  intro r2 nw2 h2 tk2 F4 N4 hR2
  obtain ⟨W, ws, nw', rfl, hI, ⟨l1, l2⟩, rfl⟩ := hR2
  clear F3 N3 N3'
  have hwl := (wSt_len ms).1
  have hwsz : ws.length = ms.length + 1 := by rw [hI.length, hwl]
  (try dsimp only)
  refine LCg.CompSrc.ledger (k := nw') (its := ws.toArray) (by rfl) F4 N4 (.head _) (by rw [PySem.sizeLine_eq, List.size_toArray]; lia) ?_
  intro g
  refine compU_fix (fun i ys => IntsAre ys (((wSt ms).1.take i).map (·.fmod 1536))) .nil ?turn (.inr ⟨_, .head _, rfl, _, rfl⟩) ?fin
  case turn =>
    intro i ys v I oI C oC D m₂ h tk E' hi hY hP' hns hx F2 N2 o1 hS' d
    clear F4 N4
    obtain ⟨k, t, rfl, hk⟩ := hI.at i v (by rw [← List.getElem?_toArray]; exact hP')
    repeat' (first | (k_unfold; (try dsimp only)) | (first | with_reducible ((with_reducible show wpAny _ _ (eval (Expr.ListComp _ _ _ _) _) _ _ _); (k_here; k_dflt (refine LCg.ListComp_U (F₀ := by k_asm) (by rfl) (by decide) (by rfl) (by decide) (by rfl) ?_))) | with_reducible (k_here; (with_reducible show wpAny _ _ (subscriptTail _ (Expr.Name _ _) (Value.ref _) (Value.int _ _)) _ _ _); k_dflt (refine item_list ⟨_, News.get (by assumption) (by k_mem), rfl, _, rfl⟩ (by lia) (by lia) (by with_reducible assumption) ?_)) | walk1) | (dsimp only; (first | with_reducible ((with_reducible show wpAny _ _ (eval (Expr.ListComp _ _ _ _) _) _ _ _); (k_here; k_dflt (refine LCg.ListComp_U (F₀ := by k_asm) (by rfl) (by decide) (by rfl) (by decide) (by rfl) ?_))) | with_reducible (k_here; (with_reducible show wpAny _ _ (subscriptTail _ (Expr.Name _ _) (Value.ref _) (Value.int _ _)) _ _ _); k_dflt (refine item_list ⟨_, News.get (by assumption) (by k_mem), rfl, _, rfl⟩ (by lia) (by lia) (by with_reducible assumption) ?_)) | walk1)) | (leave1; try dsimp only))
    rename Fr _ _ _ _ => F5
    rename News _ _ _ _ => N5
    refine compEnd_fix F5 N5 o1 hS' ?_
    rw [List.take_add_one, hk, List.map_append]
    exact IntsAre.append hY (.cons _ _ .nil)
  case fin =>
    intro ys hY
    rw [List.size_toArray, hwsz, ← hwl, List.take_length, ← places_worths ms hlen hmk] at hY
    unfold LCg.FinE
    intro D h tk F2 N2 oo
    dsimp only
    clear F4 N4
    refine ne_intsK (vs := pls) (us := ys) ⟨_, (N2 (Pl, PySem.W.listOf pla np) (by k_mem)).1, rfl, _, by rw [hpla]⟩ hpl ⟨_, (N2 _ (.head _)).1, rfl, _, rfl⟩ hY (by ktr_units) ?_
    rw [decide_eq_true rfl]
    repeat' (first | (k_unfold; (try dsimp only)) | (first | with_reducible ((with_reducible show wpAny _ _ (eval (Expr.ListComp _ _ _ _) _) _ _ _); (k_here; k_dflt (refine LCg.ListComp_U (F₀ := by k_asm) (by rfl) (by decide) (by rfl) (by decide) (by rfl) ?_))) | with_reducible (k_here; (with_reducible show wpAny _ _ (subscriptTail _ (Expr.Name _ _) (Value.ref _) (Value.int _ _)) _ _ _); k_dflt (refine item_list ⟨_, News.get (by assumption) (by k_mem), rfl, _, rfl⟩ (by lia) (by lia) (by with_reducible assumption) ?_)) | walk1) | (dsimp only; (first | with_reducible ((with_reducible show wpAny _ _ (eval (Expr.ListComp _ _ _ _) _) _ _ _); (k_here; k_dflt (refine LCg.ListComp_U (F₀ := by k_asm) (by rfl) (by decide) (by rfl) (by decide) (by rfl) ?_))) | with_reducible (k_here; (with_reducible show wpAny _ _ (subscriptTail _ (Expr.Name _ _) (Value.ref _) (Value.int _ _)) _ _ _); k_dflt (refine item_list ⟨_, News.get (by assumption) (by k_mem), rfl, _, rfl⟩ (by lia) (by lia) (by with_reducible assumption) ?_)) | walk1)) | (leave1; try dsimp only))
    rename Fr _ _ _ _ => F9
    rename News _ _ _ _ => N9
    exact hret _ _ _ _ _ F9 (news_sub5 N9 (by lcg_sub)) ⟨rfl, fun z => rfl, rfl⟩
end Mine
end

section
open PySem PySem.W PyProof.Rows PySem.Spec PySem.Calls
set_option maxRecDepth 100000
set_option maxHeartbeats 4000000
namespace Mine
open PyProof.Rows.LCg PyProof.Rows.LCt
theorem bodyB : forBody (stAt lawD.body 6) = [stAt (forBody (stAt lawD.body 6)) 0, stAt (forBody (stAt lawD.body 6)) 1] ++ ([stAt (forBody (stAt lawD.body 6)) 2] ++ ([stAt (forBody (stAt lawD.body 6)) 3, stAt (forBody (stAt lawD.body 6)) 4] ++ [stAt (forBody (stAt lawD.body 6)) 5])) := by rfl
theorem intsAre_of_at : ∀ (vs : List Value) (ms : List Int), vs.length = ms.length → (∀ (i : Nat) (k : Int), ms[i]? = some k → ∃ t, vs[i]? = some (Value.int k t)) → IntsAre vs ms
  | [], [], _, _ => .nil
  | v :: vs, k :: ms, h, f => by
    obtain ⟨t, e⟩ := f 0 k rfl
    obtain rfl : v = Value.int k t := Option.some.inj e
    exact .cons _ _ (intsAre_of_at vs ms (by simpa using h) fun i k' hk => f (i + 1) k' hk)
theorem strAt {l : List (Str × Tok)} {ts : List Str} (h : l.map (fun x : Str × Tok => x.1) = ts) {i : Nat} {x : Str} (hx : ts[i]? = some x) : (strValues l).toArray[i]? = some (.str x (((l[i]?).map fun y : Str × Tok => y.2).getD 0)) := by
  subst h
  rw [List.getElem?_map] at hx
  rw [List.getElem?_toArray]
  unfold strValues
  rw [List.getElem?_map]
  cases h : l[i]? with
  | none => rw [h] at hx; cases hx
  | some y => rw [h] at hx; simp only [Option.map_some, Option.some.injEq] at hx ⊢; rw [← hx]; rfl
theorem mkT_three (a b : Int) : mkT a b = -1 ∨ mkT a b = 0 ∨ mkT a b = 1 := by
  unfold mkT; split <;> try split
  all_goals simp
noncomputable def junkB (z : Str) : Prop := z = Str.ofString "texts" ∨ z = Str.ofString "owners" ∨ z = Str.ofString "parts" ∨ z = Str.ofString "share" ∨ z = Str.ofString "number" ∨ z = Str.ofString "r" ∨ z = Str.ofString "g" ∨ z = Str.ofString "b" ∨ z = Str.ofString "text" ∨ z = Str.ofString "hsv"
theorem turnB (w : World) (mean : ExcName → Option Value) (mg mb : Str → Option Value) (B : Str → Option Value) (rest : List (Addr × Obj)) (c1 c2 c3 Rw Pc Tb Td H Tl tk Mk mk : Addr) (st : Int) (tst k0 : Tok) (wv pv hs tlv tv mkv : Array Value) (vm : List Value) (n1 n2 nh nt nl nm nmk : Nat)
    (data : List (PySem.Str × PySem.Str)) (hdat : hs.size = data.length) (hrel : ∀ (i : Nat) (v : Value), hs[i]? = some v → ∃ (a : Addr) (n T : PySem.Str) (t u : Tok), v = Value.ref a ∧ (a, tupS n T t u) ∈ rest ∧ data[i]? = some (n, T) ∧ n.length ≤ 3)
    (hxH : @LT.lt Nat _ Tb H) (hdH : @LT.lt Nat _ Td H) (hsz : hs.size ≤ 100) (b1 : 0 ≤ st ∧ st < 3) (hT : tlv[st.toNat]? = some (.ref tk)) (htk : (tk, PySem.W.listOf tv nt) ∈ rest) (hM : mkv[st.toNat]? = some (.ref mk)) (hmk : (mk, PySem.W.listOf vm.toArray nmk) ∈ rest)
    (zt : tv.size ≤ 7) (hwv : wv.size ≤ 100) (hpv : pv.size ≤ 100) (ewv : wv.size = st.toNat) (epv : pv.size = st.toNat)
    (si sh lv : Nat → Int) (h1 h2 h3 : Nat → Tok) (Hv : Nat → Addr)
    (hlen : (data.filter fun p => Txt.lower p.1 == Txt.lower (ask3.getD st.toNat PySem.Str.empty)).length = tv.size)
    (he : ∀ i, i < tv.size → ((0 ≤ si i ∧ si i < 48) ∧ (0 ≤ sh i ∧ sh i < 5) ∧ (1 ≤ lv i ∧ lv i < 5) ∧ (h1 i ≠ 0 ∧ h2 i ≠ 0 ∧ h3 i ≠ 0)) ∧ ((data.filter fun p => Txt.lower p.1 == Txt.lower (ask3.getD st.toNat PySem.Str.empty)).map (·.2))[i]? = some (txT (signs48.getD (si i).toNat PySem.Str.empty) (sh i) (lv i)) ∧ tv[i]? = some (.ref (Hv i)) ∧
      (Hv i, tup3 (tldT (sh i) (lv i) (((si i + 7) * 11).fmod 64)).1 (tldT (sh i) (lv i) (((si i + 7) * 11).fmod 64)).2.1 (tldT (sh i) (lv i) (((si i + 7) * 11).fmod 64)).2.2 (h1 i) (h2 i) (h3 i)) ∈ rest)
    (ms : List Int) (hmsl : ms.length = tv.size) (hms : ∀ i, i < tv.size → ms[i]? = some (mkT (sh i) (((si i + 7) * 11).fmod 64))) (hvm : IntsAre vm ms)
    (oH : ∀ p ∈ (Rw, PySem.W.listOf wv n1) :: (Pc, PySem.W.listOf pv n2) :: (Tl, PySem.W.listOf tlv nl) :: (Mk, PySem.W.listOf mkv nm) :: rest, p.1 ≠ H) (oR : ∀ p ∈ (Pc, PySem.W.listOf pv n2) :: (Tb, instObj 220 Td) :: (Td, dictOf [{ hash := PyData.keyHash w.params (PySem.Str.ofString "_headers"), key := .str (PySem.Str.ofString "_headers") k0, val := .ref H }] 1) :: (H, W.listOf hs nh) :: (Tl, PySem.W.listOf tlv nl) :: (Mk, PySem.W.listOf mkv nm) :: rest, p.1 ≠ Rw) (oP : ∀ p ∈ (Tb, instObj 220 Td) :: (Td, dictOf [{ hash := PyData.keyHash w.params (PySem.Str.ofString "_headers"), key := .str (PySem.Str.ofString "_headers") k0, val := .ref H }] 1) :: (H, W.listOf hs nh) :: (Tl, PySem.W.listOf tlv nl) :: (Mk, PySem.W.listOf mkv nm) :: rest, p.1 ≠ Pc) :
    SegC 40 w mean mg mb (cells3 c1 c2 c3) (forBody (stAt lawD.body 6))
      (fun z => if z = Str.ofString "stalk" then some (.int st tst) else if z = Str.ofString "table" then some (.ref Tb) else if z = Str.ofString "told" then some (.ref Tl) else if z = Str.ofString "marks" then some (.ref Mk) else if z = Str.ofString "rows" then some (.ref Rw) else if z = Str.ofString "places" then some (.ref Pc) else B z)
      ((Rw, PySem.W.listOf wv n1) :: (Pc, PySem.W.listOf pv n2) :: (Tb, instObj 220 Td) :: (Td, dictOf [{ hash := PyData.keyHash w.params (PySem.Str.ofString "_headers"), key := .str (PySem.Str.ofString "_headers") k0, val := .ref H }] 1) :: (H, W.listOf hs nh) :: (Tl, PySem.W.listOf tlv nl) :: (Mk, PySem.W.listOf mkv nm) :: rest)
      (fun f m' nw => f = .next ∧ ∃ Ow Pl vs pls n1' n2' no np, (∀ z, ¬ junkB z → m' z = if z = Str.ofString "stalk" then some (.int st tst) else if z = Str.ofString "table" then some (.ref Tb) else if z = Str.ofString "told" then some (.ref Tl) else if z = Str.ofString "marks" then some (.ref Mk) else if z = Str.ofString "rows" then some (.ref Rw) else if z = Str.ofString "places" then some (.ref Pc) else B z) ∧ IntsAre vs ms ∧ IntsAre pls (pSt (0 :: ms)).out ∧
        (∀ p ∈ (Rw, PySem.W.listOf wv n1) :: (Pc, PySem.W.listOf pv n2) :: (Tb, instObj 220 Td) :: (Td, dictOf [{ hash := PyData.keyHash w.params (PySem.Str.ofString "_headers"), key := .str (PySem.Str.ofString "_headers") k0, val := .ref H }] 1) :: (H, W.listOf hs nh) :: (Tl, PySem.W.listOf tlv nl) :: (Mk, PySem.W.listOf mkv nm) :: rest, p.1 ≠ Ow ∧ p.1 ≠ Pl) ∧
        nw = (Rw, PySem.W.listOf (wv.push (.ref Ow)) n1') :: (Pc, PySem.W.listOf (pv.push (.ref Pl)) n2') :: (Tb, instObj 220 Td) :: (Td, dictOf [{ hash := PyData.keyHash w.params (PySem.Str.ofString "_headers"), key := .str (PySem.Str.ofString "_headers") k0, val := .ref H }] 1) :: (H, W.listOf hs nh) :: (Tl, PySem.W.listOf tlv nl) :: (Mk, PySem.W.listOf mkv nm) :: (Ow, PySem.W.listOf vs.toArray no) :: (Pl, PySem.W.listOf pls.toArray np) :: rest) := by
  rw [bodyB]
  refine SegC.seq (SegC.conv (turnB0 w mean mg mb (fun z => if z = Str.ofString "marks" then some (.ref Mk) else if z = Str.ofString "rows" then some (.ref Rw) else if z = Str.ofString "places" then some (.ref Pc) else B z) ((Rw, PySem.W.listOf wv n1) :: (Pc, PySem.W.listOf pv n2) :: (Mk, PySem.W.listOf mkv nm) :: rest) c1 c2 c3 Tb Td H Tl tk st tst k0 hs tlv tv nh nt nl data hdat
    (fun i v hi => let ⟨a, n, T, t, u, e1, e2, e3⟩ := hrel i v hi; ⟨a, n, T, t, u, e1, .tail _ (.tail _ (.tail _ e2)), e3⟩) hxH hdH hsz ?oH b1 hT (by lia) hlen) (Nat.le_refl _) (fun z => rfl) ?s0 (fun _ _ _ h => h)) ?k0 (fun f m' nw h => .inl h.1)
  case oH => exact fun p hp => oH p ((show ∀ p ∈ (Tl, PySem.W.listOf tlv nl) :: (tk, PySem.W.listOf tv nt) :: (Rw, PySem.W.listOf wv n1) :: (Pc, PySem.W.listOf pv n2) :: (Mk, PySem.W.listOf mkv nm) :: rest, p ∈ (Rw, PySem.W.listOf wv n1) :: (Pc, PySem.W.listOf pv n2) :: (Tl, PySem.W.listOf tlv nl) :: (Mk, PySem.W.listOf mkv nm) :: rest by
    refine List.forall_mem_cons.mpr ⟨by k_mem, List.forall_mem_cons.mpr ⟨by repeat (first | exact htk | refine List.Mem.tail _ ?_), ?_⟩⟩
    lcg_sub) p hp)
  case s0 =>
    refine List.forall_mem_cons.mpr ⟨by k_mem, List.forall_mem_cons.mpr ⟨by k_mem, List.forall_mem_cons.mpr ⟨by k_mem, List.forall_mem_cons.mpr ⟨by k_mem, List.forall_mem_cons.mpr ⟨by repeat (first | exact htk | refine List.Mem.tail _ ?_), ?_⟩⟩⟩⟩⟩
    lcg_sub
  case k0 =>
  rintro m1 nw1 ⟨-, Tx, Ow, l, nx, no, hm1, hl, hO, hTx, rfl⟩
  have lenl : l.length = tv.size := by have q := congrArg List.length hl; rw [List.length_map, List.length_map, hlen] at q; exact q
  refine SegC.seq (SegC.conv (turnB2 w mean mg mb m1 ((Tb, instObj 220 Td) :: (Td, dictOf [{ hash := PyData.keyHash w.params (PySem.Str.ofString "_headers"), key := .str (PySem.Str.ofString "_headers") k0, val := .ref H }] 1) :: (H, W.listOf hs nh) :: (Rw, PySem.W.listOf wv n1) :: (Pc, PySem.W.listOf pv n2) :: (Mk, PySem.W.listOf mkv nm) :: rest) c1 c2 c3 Tl tk Tx Ow st tst tlv tv (strValues l).toArray nt nl nx no si sh lv (fun i => ((l[i]?).map fun y : Str × Tok => y.2).getD 0) h1 h2 h3 Hv b1 hT (by lia) (by rw [List.size_toArray]; unfold strValues; rw [List.length_map, lenl])
    (fun i hi => ⟨(he i hi).1, strAt hl (he i hi).2.1, (he i hi).2.2.1, .tail _ (.tail _ (.tail _ (.tail _ (.tail _ (.tail _ (he i hi).2.2.2)))))⟩) ?hO) (Nat.le_refl _) ?f2 ?s2 (fun _ _ _ h => h)) ?k2 (fun f m' nw h => .inl h.1)
  case hO => exact fun y hy => hO y ((show ∀ p ∈ (Tx, PySem.W.listOf (strValues l).toArray nx) :: (Tl, PySem.W.listOf tlv nl) :: (tk, PySem.W.listOf tv nt) :: (Tb, instObj 220 Td) :: (Td, dictOf [{ hash := PyData.keyHash w.params (PySem.Str.ofString "_headers"), key := .str (PySem.Str.ofString "_headers") k0, val := .ref H }] 1) :: (H, W.listOf hs nh) :: (Rw, PySem.W.listOf wv n1) :: (Pc, PySem.W.listOf pv n2) :: (Mk, PySem.W.listOf mkv nm) :: rest, p ∈ (Tx, PySem.W.listOf (strValues l).toArray nx) :: (Tb, instObj 220 Td) :: (Td, dictOf [{ hash := PyData.keyHash w.params (PySem.Str.ofString "_headers"), key := .str (PySem.Str.ofString "_headers") k0, val := .ref H }] 1) :: (H, W.listOf hs nh) :: (Tl, PySem.W.listOf tlv nl) :: (tk, PySem.W.listOf tv nt) :: (Rw, PySem.W.listOf wv n1) :: (Pc, PySem.W.listOf pv n2) :: (Mk, PySem.W.listOf mkv nm) :: rest by lcg_sub) y hy)
  case f2 =>
    intro z
    by_cases w1 : z = Str.ofString "texts"
    · subst w1; rw [hm1]; rfl
    by_cases w2 : z = Str.ofString "owners"
    · subst w2; rw [hm1]; rfl
    by_cases w3 : z = Str.ofString "stalk"
    · subst w3; rw [hm1]; rfl
    by_cases w4 : z = Str.ofString "told"
    · subst w4; rw [hm1]; rfl
    simp only [if_neg w1, if_neg w2, if_neg w3, if_neg w4]
  case s2 => lcg_sub
  case k2 =>
  rintro m2 nw2 ⟨-, hm2, ov, no', hsz', hov, rfl⟩
  have hI : IntsAre ov.toList ms := intsAre_of_at _ _ (by rw [Array.length_toList, hsz', hmsl]) fun i k hk => by
    have hi : i < tv.size := by
      rcases Nat.lt_or_ge i ms.length with h | h
      · lia
      · rw [List.getElem?_eq_none h] at hk; cases hk
    rw [hms i hi] at hk
    obtain rfl := Option.some.inj hk
    obtain ⟨t, e⟩ := hov i hi
    exact ⟨t, by rw [Array.getElem?_toList]; exact e⟩
  have hmk3 : ∀ k ∈ ms, k = -1 ∨ k = 0 ∨ k = 1 := fun k hk => by
    obtain ⟨i, hi, e⟩ := List.mem_iff_getElem.mp hk
    have q := hms i (by lia)
    rw [List.getElem?_eq_getElem hi, e] at q
    rw [Option.some.inj q]; exact mkT_three _ _
  refine SegC.seq (SegC.conv (turnB3 w mean mg mb m2 ((Tb, instObj 220 Td) :: (Td, dictOf [{ hash := PyData.keyHash w.params (PySem.Str.ofString "_headers"), key := .str (PySem.Str.ofString "_headers") k0, val := .ref H }] 1) :: (H, W.listOf hs nh) :: (Tl, PySem.W.listOf tlv nl) :: (Mk, PySem.W.listOf mkv nm) :: rest) c1 c2 c3 Rw Pc Ow wv pv ov.toList n1 n2 no' ms hI (by lia) hmk3 hwv hpv ?e1 ?e2 ?e3 ?r1 oP) (Nat.le_refl _) ?f3 ?s3 (fun _ _ _ h => h)) ?k3 (fun f m' nw h => .inl h.1)
  case e1 => exact oR (Pc, PySem.W.listOf pv n2) (.head _)
  case e2 => exact Nat.ne_of_gt (hO (Rw, PySem.W.listOf wv n1) (by k_mem))
  case e3 => exact Nat.ne_of_gt (hO (Pc, PySem.W.listOf pv n2) (by k_mem))
  case r1 => exact fun y hy => oR y (.tail _ hy)
  case f3 =>
    intro z
    by_cases w1 : z = Str.ofString "owners"
    · subst w1; rw [hm2 _ (by decide) (by decide) (by decide) (by decide) (by decide) (by decide) (by decide) (by decide)]; rfl
    by_cases w2 : z = Str.ofString "rows"
    · subst w2; rw [hm2 _ (by decide) (by decide) (by decide) (by decide) (by decide) (by decide) (by decide) (by decide)]; exact hm1 _
    by_cases w3 : z = Str.ofString "places"
    · subst w3; rw [hm2 _ (by decide) (by decide) (by decide) (by decide) (by decide) (by decide) (by decide) (by decide)]; exact hm1 _
    simp only [if_neg w1, if_neg w2, if_neg w3]
  case s3 => lcg_sub
  case k3 =>
  rintro m3 nw3 ⟨-, Pl, pls, np, n1', n2', hm3, hpls, hPl, rfl⟩
  refine SegC.conv2 (turnB5 w mean mg mb m3 ((Ow, PySem.W.listOf ov.toList.toArray no') :: (Rw, PySem.W.listOf (wv.push (.ref Ow)) n1') :: (Tb, instObj 220 Td) :: (Td, dictOf [{ hash := PyData.keyHash w.params (PySem.Str.ofString "_headers"), key := .str (PySem.Str.ofString "_headers") k0, val := .ref H }] 1) :: (H, W.listOf hs nh) :: (Tl, PySem.W.listOf tlv nl) :: rest) c1 c2 c3 Pc Pl Mk mk st tst (pv.push (.ref Pl)) mkv pls vm n2' np nm nmk ms hvm hpls (by lia) hmk3 b1 (by rw [← epv, Array.getElem?_push_size]) hM) (Nat.le_refl _) ?f5 ?s5 ?fin
  case f5 =>
    intro z
    by_cases w1 : z = Str.ofString "stalk"
    · subst w1; rw [hm3]; show m2 _ = _; rw [hm2 _ (by decide) (by decide) (by decide) (by decide) (by decide) (by decide) (by decide) (by decide)]; rfl
    by_cases w2 : z = Str.ofString "places"
    · subst w2; rw [hm3]; rfl
    by_cases w3 : z = Str.ofString "marks"
    · subst w3; rw [hm3]; show m2 _ = _; rw [hm2 _ (by decide) (by decide) (by decide) (by decide) (by decide) (by decide) (by decide) (by decide)]; exact hm1 _
    simp only [if_neg w1, if_neg w2, if_neg w3]
  case s5 =>
    refine List.forall_mem_cons.mpr ⟨by k_mem, List.forall_mem_cons.mpr ⟨by k_mem, List.forall_mem_cons.mpr ⟨by k_mem, List.forall_mem_cons.mpr ⟨by repeat (first | exact hmk | refine List.Mem.tail _ ?_), ?_⟩⟩⟩⟩
    lcg_sub
  case fin =>
    rintro f m5 nw5 ⟨rfl, hm5, rfl⟩
    refine ⟨(Rw, PySem.W.listOf (wv.push (.ref Ow)) n1') :: (Pc, PySem.W.listOf (pv.push (.ref Pl)) n2') :: (Tb, instObj 220 Td) :: (Td, dictOf [{ hash := PyData.keyHash w.params (PySem.Str.ofString "_headers"), key := .str (PySem.Str.ofString "_headers") k0, val := .ref H }] 1) :: (H, W.listOf hs nh) :: (Tl, PySem.W.listOf tlv nl) :: (Mk, PySem.W.listOf mkv nm) :: (Ow, PySem.W.listOf ov.toList.toArray no') :: (Pl, PySem.W.listOf pls.toArray np) :: rest, ?q1, rfl, Ow, Pl, ov.toList, pls, n1', n2', no', np, ?q2, hI, hpls, ?q3, rfl⟩
    case q1 => lcg_sub
    case q2 =>
      intro z hz
      unfold junkB at hz
      simp only [not_or] at hz
      obtain ⟨j1, j2, j3, j4, j5, j6, j7, j8, j9, j10⟩ := hz
      have e1 : m1 z = if z = Str.ofString "stalk" then some (.int st tst) else if z = Str.ofString "table" then some (.ref Tb) else if z = Str.ofString "told" then some (.ref Tl) else if z = Str.ofString "marks" then some (.ref Mk) else if z = Str.ofString "rows" then some (.ref Rw) else if z = Str.ofString "places" then some (.ref Pc) else B z := by rw [hm1, if_neg j1, if_neg j2]
      have e2 : m2 z = m1 z := by
        rw [hm2 z j3 j4 j5 j6 j7 j8 j9 j10, if_neg j1, if_neg j2]
        by_cases w3 : z = Str.ofString "stalk"
        · subst w3; rw [e1]; rfl
        by_cases w4 : z = Str.ofString "told"
        · subst w4; rw [e1]; rfl
        simp only [if_neg w3, if_neg w4]
      have e3 : m3 z = m2 z := by
        rw [hm3 z, if_neg j2]
        by_cases w3 : z = Str.ofString "rows"
        · subst w3; rw [e2, e1]; rfl
        by_cases w4 : z = Str.ofString "places"
        · subst w4; rw [e2, e1]; rfl
        simp only [if_neg w3, if_neg w4]
      have e5 : m5 z = m3 z := by
        rw [hm5 z]
        by_cases w3 : z = Str.ofString "stalk"
        · subst w3; rw [e3, e2, e1]; rfl
        by_cases w4 : z = Str.ofString "places"
        · subst w4; rw [e3, e2, e1]; rfl
        by_cases w5 : z = Str.ofString "marks"
        · subst w5; rw [e3, e2, e1]; rfl
        simp only [if_neg w3, if_neg w4, if_neg w5]
      rw [e5, e3, e2, e1]
    case q3 =>
      intro p hp
      refine ⟨Nat.ne_of_lt (hO p ((show ∀ p ∈ (Rw, PySem.W.listOf wv n1) :: (Pc, PySem.W.listOf pv n2) :: (Tb, instObj 220 Td) :: (Td, dictOf [{ hash := PyData.keyHash w.params (PySem.Str.ofString "_headers"), key := .str (PySem.Str.ofString "_headers") k0, val := .ref H }] 1) :: (H, W.listOf hs nh) :: (Tl, PySem.W.listOf tlv nl) :: (Mk, PySem.W.listOf mkv nm) :: rest, p ∈ (Tx, PySem.W.listOf (strValues l).toArray nx) :: (Tb, instObj 220 Td) :: (Td, dictOf [{ hash := PyData.keyHash w.params (PySem.Str.ofString "_headers"), key := .str (PySem.Str.ofString "_headers") k0, val := .ref H }] 1) :: (H, W.listOf hs nh) :: (Tl, PySem.W.listOf tlv nl) :: (tk, PySem.W.listOf tv nt) :: (Rw, PySem.W.listOf wv n1) :: (Pc, PySem.W.listOf pv n2) :: (Mk, PySem.W.listOf mkv nm) :: rest by lcg_sub) p hp)), hPl p ((show ∀ p ∈ (Rw, PySem.W.listOf wv n1) :: (Pc, PySem.W.listOf pv n2) :: (Tb, instObj 220 Td) :: (Td, dictOf [{ hash := PyData.keyHash w.params (PySem.Str.ofString "_headers"), key := .str (PySem.Str.ofString "_headers") k0, val := .ref H }] 1) :: (H, W.listOf hs nh) :: (Tl, PySem.W.listOf tlv nl) :: (Mk, PySem.W.listOf mkv nm) :: rest, p ∈ (Rw, PySem.W.listOf wv n1) :: (Pc, PySem.W.listOf pv n2) :: (Ow, PySem.W.listOf ov.toList.toArray no') :: (Tb, instObj 220 Td) :: (Td, dictOf [{ hash := PyData.keyHash w.params (PySem.Str.ofString "_headers"), key := .str (PySem.Str.ofString "_headers") k0, val := .ref H }] 1) :: (H, W.listOf hs nh) :: (Tl, PySem.W.listOf tlv nl) :: (Mk, PySem.W.listOf mkv nm) :: rest by lcg_sub) p hp)⟩
end Mine
end

section
open PySem PySem.W PyProof.Rows PySem.Spec PySem.Calls
set_option maxRecDepth 100000
set_option maxHeartbeats 8000000
namespace Mine
section
variable {prog : Program} {w : World} {A : Around} {s : Shared} {env : Env} {h₀ : Heap}
theorem small_to {n : Int} (h0 : 0 ≤ n) (h1 : n < 2 ^ 62) : Builtin.Range.small 0 n 1 = true := small_one (by decide) (by decide) (by lia) h1
/-- a for over range(n) -/
theorem loop_range {Q : Flow → Shared → Prop} {Er : Value → Shared → Prop} {target : Expr} {body : List Stmt} {r : Addr} {n : Int} {t u v : Tok} {m : Str → Option Value} {news : List (Addr × Obj)} {E : Value → Shared → Prop}
    (hh : A.handled = none) (F : Fr h₀ env.locals s.heap m) (N : News h₀ env.locals s.heap news) (hr : IsRange s.heap r 0 n 1 t u v) (n0 : 0 ≤ n) (n1 : n < 2 ^ 62)
    (J : Nat → (Str → Option Value) → List (Addr × Obj) → Prop) (h0 : J 0 m news)
    (turn : ∀ i m₁ news₁ h tk I oI tv, i < n.toNat → J i m₁ news₁ → (∀ p ∈ news, @LT.lt Nat _ p.1 I) → (∀ p ∈ news₁, p.1 ≠ I) → Fr h₀ env.locals h m₁ → News h₀ env.locals h ((I, oI) :: news₁) →
      wpAny (model prog w) A (assign target env (.int (i : Int) tv)) (fun _ s₂ => wpAny (model prog w) A (execs body env) (TurnEnd h₀ env.locals I oI [] (J (i + 1)) s (fun v s' => Q (.ret v) s') (fun s' => Q .next s')) (fun _ _ => False) s₂) (fun _ _ => False) { s with heap := h, toks := tk })
    (done : ∀ m' news' h' tk, J n.toNat m' news' → Fr h₀ env.locals h' m' → News h₀ env.locals h' news' → Q .next { s with heap := h', toks := tk })
    (hlet : ∀ I v, letOwnedTupleGo target (.ref I) v = pure () := by intro _ _; rfl) :
    wpAny (model prog w) A (pyIter (.ref r)) (fun it s₂ => codeAny (model prog w) A (.forLoop target it body [] env) (fun r s' => match r with | .ok f => Q f s' | .error e => Er e s') s₂) E s := by
  refine wpAny_pyIter_range hr (small_to n0 n1) ?_
  have hsz : Builtin.Range.rangeSize 0 n 1 = ((n - 0).toNat : Int) := by rw [rangeSize_one]; split <;> lia
  have Wk := Walks.range (prog := prog) (w := w) hh s.heap.objs.size 0 1 n.toNat
  have hlt : ∀ p ∈ news, @LT.lt Nat _ p.1 s.heap.objs.size := fun p hp => Heap.lt_size (N p hp).1
  refine loopW (R := fun r s' => match r with | .ok f => Q f s' | .error e => Er e s') Wk (fun i h st => ⟨_, st⟩) [] (fun b hb => .inl (by simpa using hb)) ?_ (F.push _)
    (fun p hp => ⟨Heap.get?_push_of_some _ (N p hp).1, (N p hp).2⟩) (next_is_new F) (Nat.ne_of_gt F.ns.lt) (fun p hp => Nat.ne_of_lt (hlt p hp)) (fun p hp => by cases hp) J h0
    (fun i v m₁ news₁ h tk oI hi hP hJ hs hn F₁ N₁ => ?_)
    (fun m' news' h' tk hJ F' N' hs => done m' news' h' tk hJ F' N') (hlet _)
  · show IsRangeIter _ _ ((0 : Int) + ((0 : Nat) : Int) * 1) (((n.toNat : Nat) : Int) - ((0 : Nat) : Int)) 1
    have e1 : ((0 : Int) + ((0 : Nat) : Int) * 1) = 0 := by simp
    have e2 : (((n.toNat : Nat) : Int) - ((0 : Nat) : Int)) = Builtin.Range.rangeSize 0 n 1 := by rw [hsz]; simp
    rw [e1, e2]
    exact Heap.get?_push_size _ rfl
  · obtain ⟨tv, rfl⟩ := hP
    have e : (0 : Int) + (i : Int) * 1 = (i : Int) := by lia
    rw [e]
    exact turn i m₁ news₁ h tk _ oI tv hi hJ hlt hn F₁ N₁
end
end Mine
end

section
open PySem PySem.W PyProof.Rows PySem.Spec PySem.Calls
set_option maxRecDepth 100000
set_option maxHeartbeats 4000000
namespace Mine
open PyProof.Rows.LCg PyProof.Rows.LCt
/-- what a turn of the stalks' loop leaves -/
inductive JBL (w : World) (Tb Td H Tl Mk Rw Pc : Addr) (k0 : Tok) (hs tlv mkv : Array Value) (nh nl nm : Nat) (rest : List (Addr × Obj)) (B : Str → Option Value) (ms : Nat → List Int) (i : Nat) (m' : Str → Option Value) (nw : List (Addr × Obj)) : Prop
  | mk (wv pv : Array Value) (n1 n2 : Nat) (Ow Pl : Nat → Addr) (vs pls : Nat → List Value) (no np : Nat → Nat) (dyn : List (Addr × Obj))
    (e0 : ((∀ z, ¬ junkB z → z ≠ Str.ofString "stalk" → m' z = if z = Str.ofString "table" then some (.ref Tb) else if z = Str.ofString "told" then some (.ref Tl) else if z = Str.ofString "marks" then some (.ref Mk) else if z = Str.ofString "rows" then some (.ref Rw) else if z = Str.ofString "places" then some (.ref Pc) else B z) ∧ wv.size = i ∧ pv.size = i ∧ (∀ j, j < i → wv[j]? = some (.ref (Ow j)) ∧ pv[j]? = some (.ref (Pl j)) ∧ IntsAre (vs j) (ms j) ∧ IntsAre (pls j) (pSt (0 :: ms j)).out ∧ (Ow j, PySem.W.listOf (vs j).toArray (no j)) ∈ dyn ∧ (Pl j, PySem.W.listOf (pls j).toArray (np j)) ∈ dyn) ∧ (∀ y ∈ dyn, y.1 ≠ Rw ∧ y.1 ≠ Pc ∧ ∀ p ∈ (Tb, instObj 220 Td) :: (Td, dictOf [{ hash := PyData.keyHash w.params (PySem.Str.ofString "_headers"), key := .str (PySem.Str.ofString "_headers") k0, val := .ref H }] 1) :: (H, W.listOf hs nh) :: (Tl, PySem.W.listOf tlv nl) :: (Mk, PySem.W.listOf mkv nm) :: rest, p.1 ≠ y.1)))
    (e1 : nw = (Rw, PySem.W.listOf wv n1) :: (Pc, PySem.W.listOf pv n2) :: (Tb, instObj 220 Td) :: (Td, dictOf [{ hash := PyData.keyHash w.params (PySem.Str.ofString "_headers"), key := .str (PySem.Str.ofString "_headers") k0, val := .ref H }] 1) :: (H, W.listOf hs nh) :: (Tl, PySem.W.listOf tlv nl) :: (Mk, PySem.W.listOf mkv nm) :: (dyn ++ rest)) : JBL w Tb Td H Tl Mk Rw Pc k0 hs tlv mkv nh nl nm rest B ms i m' nw
/-- what the stalks' loop leaves -/
inductive RBL (w : World) (Tb Td H Tl Mk : Addr) (k0 : Tok) (hs tlv mkv : Array Value) (nh nl nm : Nat) (rest : List (Addr × Obj)) (B : Str → Option Value) (ms : Nat → List Int) (m' : Str → Option Value) (nw : List (Addr × Obj)) : Prop
  | mk (Rw Pc : Addr) (wv pv : Array Value) (n1 n2 : Nat) (Ow Pl : Nat → Addr) (vs pls : Nat → List Value) (no np : Nat → Nat) (dyn : List (Addr × Obj))
    (e0 : ((∀ z, ¬ junkB z → z ≠ Str.ofString "stalk" → m' z = if z = Str.ofString "table" then some (.ref Tb) else if z = Str.ofString "told" then some (.ref Tl) else if z = Str.ofString "marks" then some (.ref Mk) else if z = Str.ofString "rows" then some (.ref Rw) else if z = Str.ofString "places" then some (.ref Pc) else B z) ∧ wv.size = 3 ∧ pv.size = 3 ∧ (∀ j, j < 3 → wv[j]? = some (.ref (Ow j)) ∧ pv[j]? = some (.ref (Pl j)) ∧ IntsAre (vs j) (ms j) ∧ IntsAre (pls j) (pSt (0 :: ms j)).out ∧ (Ow j, PySem.W.listOf (vs j).toArray (no j)) ∈ dyn ∧ (Pl j, PySem.W.listOf (pls j).toArray (np j)) ∈ dyn) ∧ (∀ y ∈ dyn, y.1 ≠ Rw ∧ y.1 ≠ Pc ∧ ∀ p ∈ (Tb, instObj 220 Td) :: (Td, dictOf [{ hash := PyData.keyHash w.params (PySem.Str.ofString "_headers"), key := .str (PySem.Str.ofString "_headers") k0, val := .ref H }] 1) :: (H, W.listOf hs nh) :: (Tl, PySem.W.listOf tlv nl) :: (Mk, PySem.W.listOf mkv nm) :: rest, p.1 ≠ y.1)))
    (e1 : (∀ p ∈ (Tb, instObj 220 Td) :: (Td, dictOf [{ hash := PyData.keyHash w.params (PySem.Str.ofString "_headers"), key := .str (PySem.Str.ofString "_headers") k0, val := .ref H }] 1) :: (H, W.listOf hs nh) :: (Tl, PySem.W.listOf tlv nl) :: (Mk, PySem.W.listOf mkv nm) :: rest, p.1 ≠ Rw ∧ p.1 ≠ Pc))
    (e2 : @Ne Nat Pc Rw)
    (e3 : nw = (Rw, PySem.W.listOf wv n1) :: (Pc, PySem.W.listOf pv n2) :: (dyn ++ rest)) : RBL w Tb Td H Tl Mk k0 hs tlv mkv nh nl nm rest B ms m' nw
theorem turnBL (w : World) (mean : ExcName → Option Value) (mg mb : Str → Option Value) (B : Str → Option Value) (rest : List (Addr × Obj)) (c1 c2 c3 Tb Td H Tl Mk : Addr) (k0 : Tok) (hs tlv mkv : Array Value) (nh nl nm : Nat)
    (data : List (PySem.Str × PySem.Str)) (hdat : hs.size = data.length) (hrel : ∀ (i : Nat) (v : Value), hs[i]? = some v → ∃ (a : Addr) (n T : PySem.Str) (t u : Tok), v = Value.ref a ∧ (a, tupS n T t u) ∈ rest ∧ data[i]? = some (n, T) ∧ n.length ≤ 3)
    (hxH : @LT.lt Nat _ Tb H) (hdH : @LT.lt Nat _ Td H) (hsz : hs.size ≤ 100) (oH : ∀ p ∈ (Tl, PySem.W.listOf tlv nl) :: (Mk, PySem.W.listOf mkv nm) :: rest, p.1 ≠ H)
    (tkf mk : Nat → Addr) (tv : Nat → Array Value) (nt nmk : Nat → Nat) (vm : Nat → List Value) (si sh lv : Nat → Nat → Int) (h1 h2 h3 : Nat → Nat → Tok) (Hv : Nat → Nat → Addr) (ms : Nat → List Int)
    (hk : ∀ k, k < 3 → (tlv[k]? = some (.ref (tkf k)) ∧ (tkf k, PySem.W.listOf (tv k) (nt k)) ∈ rest ∧ mkv[k]? = some (.ref (mk k)) ∧ (mk k, PySem.W.listOf (vm k).toArray (nmk k)) ∈ rest ∧ (tv k).size ≤ 7) ∧
      (data.filter fun p => Txt.lower p.1 == Txt.lower (ask3.getD k PySem.Str.empty)).length = (tv k).size ∧
      (∀ i, i < (tv k).size → ((0 ≤ si k i ∧ si k i < 48) ∧ (0 ≤ sh k i ∧ sh k i < 5) ∧ (1 ≤ lv k i ∧ lv k i < 5) ∧ (h1 k i ≠ 0 ∧ h2 k i ≠ 0 ∧ h3 k i ≠ 0)) ∧ ((data.filter fun p => Txt.lower p.1 == Txt.lower (ask3.getD k PySem.Str.empty)).map (·.2))[i]? = some (txT (signs48.getD (si k i).toNat PySem.Str.empty) (sh k i) (lv k i)) ∧ (tv k)[i]? = some (.ref (Hv k i)) ∧
        (Hv k i, tup3 (tldT (sh k i) (lv k i) (((si k i + 7) * 11).fmod 64)).1 (tldT (sh k i) (lv k i) (((si k i + 7) * 11).fmod 64)).2.1 (tldT (sh k i) (lv k i) (((si k i + 7) * 11).fmod 64)).2.2 (h1 k i) (h2 k i) (h3 k i)) ∈ rest) ∧
      (ms k).length = (tv k).size ∧ (∀ i, i < (tv k).size → (ms k)[i]? = some (mkT (sh k i) (((si k i + 7) * 11).fmod 64))) ∧ IntsAre (vm k) (ms k)) :
    SegC 50 w mean mg mb (cells3 c1 c2 c3) [stAt lawD.body 5, stAt lawD.body 6]
      (fun z => if z = Str.ofString "table" then some (.ref Tb) else if z = Str.ofString "told" then some (.ref Tl) else if z = Str.ofString "marks" then some (.ref Mk) else B z)
      ((Tb, instObj 220 Td) :: (Td, dictOf [{ hash := PyData.keyHash w.params (PySem.Str.ofString "_headers"), key := .str (PySem.Str.ofString "_headers") k0, val := .ref H }] 1) :: (H, W.listOf hs nh) :: (Tl, PySem.W.listOf tlv nl) :: (Mk, PySem.W.listOf mkv nm) :: rest)
      (fun f m' nw => f = .next ∧ RBL w Tb Td H Tl Mk k0 hs tlv mkv nh nl nm rest B ms m' nw) := by
  w_top off
  unfold SegC; k_fill
  intro dp un gd a' ccd outer A₀ base h₀ L s Q E B' F X N T hd hu hret
  unfold stAt lawD lawQ
  dsimp only [List.getD, List.getElem?_cons_succ, List.getElem?_cons_zero, Option.getD, forBody, cells3]
  repeat' ((fail_if_success (with_reducible show wpAny _ _ (pyIter _) _ _ _)); first | (k_unfold; (try dsimp only)) | (first | with_reducible ((with_reducible show wpAny _ _ (exec (Stmt.For (Expr.Name _ _) _ _ _ _) _) _ _ _); (k_here; k_dflt (refine wpAny_For ?_ (by intro _; with_unfolding_all rfl)))) | walk1) | (dsimp only; (first | with_reducible ((with_reducible show wpAny _ _ (exec (Stmt.For (Expr.Name _ _) _ _ _ _) _) _ _ _); (k_here; k_dflt (refine wpAny_For ?_ (by intro _; with_unfolding_all rfl)))) | walk1)) | (leave1; try dsimp only))
  rename IsRange _ _ _ _ _ _ _ _ => hr
  rename Fr _ _ _ _ => F1
  rename News _ _ _ _ => N1
  rename (@LT.lt Nat _ Tb _ ∧ _) => la
  rename (@LT.lt Nat _ _ _ ∧ @LT.lt Nat _ Tb _ ∧ _) => lb
  rename_i Rw _ Pc _ _ _ _ _ _ _ _ _ _ _ _ _ _ _
  have nR : ∀ p ∈ (Tb, instObj 220 Td) :: (Td, dictOf [{ hash := PyData.keyHash w.params (PySem.Str.ofString "_headers"), key := .str (PySem.Str.ofString "_headers") k0, val := .ref H }] 1) :: (H, W.listOf hs nh) :: (Tl, PySem.W.listOf tlv nl) :: (Mk, PySem.W.listOf mkv nm) :: rest, p.1 ≠ Rw := allLt_ne la
  have nP : ∀ p ∈ (Tb, instObj 220 Td) :: (Td, dictOf [{ hash := PyData.keyHash w.params (PySem.Str.ofString "_headers"), key := .str (PySem.Str.ofString "_headers") k0, val := .ref H }] 1) :: (H, W.listOf hs nh) :: (Tl, PySem.W.listOf tlv nl) :: (Mk, PySem.W.listOf mkv nm) :: rest, p.1 ≠ Pc := allLt_ne (show AllLt _ _ from lb.2)
  have nPR : @Ne Nat Pc Rw := Nat.ne_of_gt lb.1
  dsimp only at F1 N1 hr ⊢
  refine loop_range (by rfl) F1 (news := (Rw, PySem.W.listOf #[] 0) :: (Pc, PySem.W.listOf #[] 0) :: (Tb, instObj 220 Td) :: (Td, dictOf [{ hash := PyData.keyHash w.params (PySem.Str.ofString "_headers"), key := .str (PySem.Str.ofString "_headers") k0, val := .ref H }] 1) :: (H, W.listOf hs nh) :: (Tl, PySem.W.listOf tlv nl) :: (Mk, PySem.W.listOf mkv nm) :: ([] ++ rest)) (news_sub N1 (by rw [List.nil_append]; lcg_sub)) hr (by omega) (by omega) (fun i m' nw => JBL w Tb Td H Tl Mk Rw Pc k0 hs tlv mkv nh nl nm rest B ms i m' nw) ?h0 ?turn ?done
  case h0 =>
    refine ⟨#[], #[], 0, 0, fun _ => 0, fun _ => 0, fun _ => [], fun _ => [], fun _ => 0, fun _ => 0, [], ⟨fun z hz h1 => ?_, rfl, rfl, fun j hj => absurd hj (by omega), fun y hy => by cases hy⟩, rfl⟩
    by_cases w1 : z = Str.ofString "rows"
    · subst w1; rfl
    by_cases w2 : z = Str.ofString "places"
    · subst w2; rfl
    simp only [if_neg w1, if_neg w2]
  case turn =>
    intro i m₁ nw h tk₁ I oI tv' hi J0 hIl hn F2 N2
    k_fold
    obtain ⟨wv, pv, n1, n2, Ow, Pl, vs, pls, no, np, dyn, ⟨hm, ew, ep, hj, hdyn⟩, rfl⟩ := J0
    have hi3 : i < 3 := hi
    have hI : ∀ p ∈ (Rw, PySem.W.listOf wv n1) :: (Pc, PySem.W.listOf pv n2) :: (Tb, instObj 220 Td) :: (Td, dictOf [{ hash := PyData.keyHash w.params (PySem.Str.ofString "_headers"), key := .str (PySem.Str.ofString "_headers") k0, val := .ref H }] 1) :: (H, W.listOf hs nh) :: (Tl, PySem.W.listOf tlv nl) :: (Mk, PySem.W.listOf mkv nm) :: (dyn ++ rest), p.1 ≠ I := hn
    refine wpAny_assign_Name (wpAny_storeName_local (by rfl) F2.ns (fun h₂ hn₂ hs₂ => ?_) (by rfl))
    k_unfold
    dsimp only
    k_fold
    have F3 := F2.set hn₂ hs₂
    have N3 := N2.set hs₂
    clear F2 N2 hn₂ hs₂ F1 N1
    obtain ⟨⟨k1, k2, k3, k4, k5⟩, k6, k7, k8, k9, k10⟩ := hk i hi3
    have F4 : Fr h₀ L h₂ (fun z => if z = Str.ofString "stalk" then some (.int (i : Int) tv') else if z = Str.ofString "table" then some (.ref Tb) else if z = Str.ofString "told" then some (.ref Tl) else if z = Str.ofString "marks" then some (.ref Mk) else if z = Str.ofString "rows" then some (.ref Rw) else if z = Str.ofString "places" then some (.ref Pc) else m₁ z) := by
      refine (congrArg (Fr h₀ L h₂) (funext fun z => ?_)).mp F3
      by_cases w0 : z = Str.ofString "stalk"
      · subst w0; rfl
      by_cases w1 : z = Str.ofString "table"
      · subst w1; exact hm _ (by unfold junkB; decide) (by decide)
      by_cases w2 : z = Str.ofString "told"
      · subst w2; exact hm _ (by unfold junkB; decide) (by decide)
      by_cases w3 : z = Str.ofString "marks"
      · subst w3; exact hm _ (by unfold junkB; decide) (by decide)
      by_cases w4 : z = Str.ofString "rows"
      · subst w4; exact hm _ (by unfold junkB; decide) (by decide)
      by_cases w5 : z = Str.ofString "places"
      · subst w5; exact hm _ (by unfold junkB; decide) (by decide)
      simp only [if_neg w0, if_neg w1, if_neg w2, if_neg w3, if_neg w4, if_neg w5]
    have nIR : @Ne Nat I Rw := Ne.symm (hI (Rw, PySem.W.listOf wv n1) (.head _))
    have nIP : @Ne Nat I Pc := Ne.symm (hI (Pc, PySem.W.listOf pv n2) (.tail _ (.head _)))
    have nIH : @Ne Nat I H := Ne.symm (hI (H, W.listOf hs nh) (.tail _ (.tail _ (.tail _ (.tail _ (.head _))))))
    have dR : ∀ y ∈ (I, oI) :: (dyn ++ rest), y.1 ≠ Rw ∧ y.1 ≠ Pc ∧ y.1 ≠ H := by
      intro y hy
      rcases List.mem_cons.mp hy with rfl | hy
      · exact ⟨nIR, nIP, nIH⟩
      rcases List.mem_append.mp hy with hy | hy
      · obtain ⟨q1, q2, q3⟩ := hdyn y hy
        exact ⟨q1, q2, Ne.symm (q3 (H, W.listOf hs nh) (.tail _ (.tail _ (.head _))))⟩
      · exact ⟨nR y (by repeat (first | exact hy | refine List.Mem.tail _ ?_)), nP y (by repeat (first | exact hy | refine List.Mem.tail _ ?_)), oH y (by repeat (first | exact hy | refine List.Mem.tail _ ?_))⟩
    refine turnB w mean mg mb m₁ ((I, oI) :: (dyn ++ rest)) c1 c2 c3 Rw Pc Tb Td H Tl (tkf i) Mk (mk i) i tv' k0 wv pv hs tlv (tv i) mkv (vm i) n1 n2 nh (nt i) nl nm (nmk i) data hdat
      (fun j v hv => let ⟨a, n, T, t, u, e1, e2, e3⟩ := hrel j v hv; ⟨a, n, T, t, u, e1, .tail _ (List.mem_append_right _ e2), e3⟩) hxH hdH hsz ⟨by omega, by omega⟩ k1 (.tail _ (List.mem_append_right _ k2)) k3 (.tail _ (List.mem_append_right _ k4)) k5 (by omega) (by omega) (by rw [ew]; rfl) (by rw [ep]; rfl)
      (si i) (sh i) (lv i) (h1 i) (h2 i) (h3 i) (Hv i) k6 (fun j hj' => ⟨(k7 j hj').1, (k7 j hj').2.1, (k7 j hj').2.2.1, .tail _ (List.mem_append_right _ (k7 j hj').2.2.2)⟩) (ms i) k8 k9 k10 ?oH ?oR ?oP _ _ _ _ _ _ _ _ _ _ _ _ _ B' F4 X (news_sub N3 (by lcg_sub)) T ?r1 ?r2 ?_
    case oH =>
      refine List.forall_mem_cons.mpr ⟨Ne.symm (nR (H, W.listOf hs nh) (.tail _ (.tail _ (.head _)))), List.forall_mem_cons.mpr ⟨Ne.symm (nP (H, W.listOf hs nh) (.tail _ (.tail _ (.head _)))), List.forall_mem_cons.mpr ⟨oH (Tl, PySem.W.listOf tlv nl) (.head _), List.forall_mem_cons.mpr ⟨oH (Mk, PySem.W.listOf mkv nm) (.tail _ (.head _)), fun y hy => (dR y hy).2.2⟩⟩⟩⟩
    case oR =>
      refine List.forall_mem_cons.mpr ⟨nPR, ?_⟩
      intro y hy
      by_cases hy' : y ∈ (I, oI) :: (dyn ++ rest)
      · exact (dR y hy').1
      · exact nR y (by simp only [List.mem_cons, List.mem_append, not_or] at hy hy' ⊢; simp only [hy'.1, hy'.2.1, false_or] at hy; exact hy)
    case oP =>
      intro y hy
      by_cases hy' : y ∈ (I, oI) :: (dyn ++ rest)
      · exact (dR y hy').2.1
      · exact nP y (by simp only [List.mem_cons, List.mem_append, not_or] at hy hy' ⊢; simp only [hy'.1, hy'.2.1, false_or] at hy; exact hy)
    case r1 => ktr_room
    case r2 => ktr_units
    rintro f m' nw' h' tk' F5 N5 ⟨rfl, Ow', Pl', vs', pls', n1', n2', no', np', hm', hI1, hI2, hne, rfl⟩
    have nOI : @Ne Nat Ow' I := Ne.symm (hne (I, oI) (by k_mem)).1
    have nPI : @Ne Nat Pl' I := Ne.symm (hne (I, oI) (by k_mem)).2
    refine TurnEnd.mk (nw := (Rw, PySem.W.listOf (wv.push (.ref Ow')) n1') :: (Pc, PySem.W.listOf (pv.push (.ref Pl')) n2') :: (Tb, instObj 220 Td) :: (Td, dictOf [{ hash := PyData.keyHash w.params (PySem.Str.ofString "_headers"), key := .str (PySem.Str.ofString "_headers") k0, val := .ref H }] 1) :: (H, W.listOf hs nh) :: (Tl, PySem.W.listOf tlv nl) :: (Mk, PySem.W.listOf mkv nm) :: (((Ow', PySem.W.listOf vs'.toArray no') :: (Pl', PySem.W.listOf pls'.toArray np') :: dyn) ++ rest)) F5 ?n1 (fun y hy => by cases hy) ?n2
      ⟨wv.push (.ref Ow'), pv.push (.ref Pl'), n1', n2', (fun j => if j = i then Ow' else Ow j), (fun j => if j = i then Pl' else Pl j), (fun j => if j = i then vs' else vs j), (fun j => if j = i then pls' else pls j), (fun j => if j = i then no' else no j), (fun j => if j = i then np' else np j), _, ⟨?j1, ?j2, ?j3, ?j4, ?j5⟩, rfl⟩
    case n1 => exact news_sub N5 (by rw [List.cons_append, List.cons_append]; lcg_sub)
    case n2 =>
      rw [List.cons_append, List.cons_append]
      refine List.forall_mem_cons.mpr ⟨Ne.symm nIR, List.forall_mem_cons.mpr ⟨Ne.symm nIP, ?_⟩⟩
      intro y hy
      by_cases e1 : y = (Ow', PySem.W.listOf vs'.toArray no')
      · subst e1; exact nOI
      by_cases e2 : y = (Pl', PySem.W.listOf pls'.toArray np')
      · subst e2; exact nPI
      exact hI y (by simp only [List.mem_cons, List.mem_append, e1, e2, false_or] at hy ⊢; exact .inr (.inr hy))
    case j1 =>
      intro z hz hz2
      rw [hm' z hz, if_neg hz2]
      by_cases w1 : z = Str.ofString "table"
      · subst w1; rfl
      by_cases w2 : z = Str.ofString "told"
      · subst w2; rfl
      by_cases w3 : z = Str.ofString "marks"
      · subst w3; rfl
      by_cases w4 : z = Str.ofString "rows"
      · subst w4; rfl
      by_cases w5 : z = Str.ofString "places"
      · subst w5; rfl
      simp only [if_neg w1, if_neg w2, if_neg w3, if_neg w4, if_neg w5]
      rw [hm z hz hz2]
      simp only [if_neg w1, if_neg w2, if_neg w3, if_neg w4, if_neg w5]
    case j2 => rw [Array.size_push, ew]
    case j3 => rw [Array.size_push, ep]
    case j4 =>
      intro j hji
      by_cases h : j = i
      · subst h
        simp only [if_true]
        exact ⟨by rw [← ew, Array.getElem?_push_size], by rw [← ep, Array.getElem?_push_size], hI1, hI2, .head _, .tail _ (.head _)⟩
      · simp only [if_neg h]
        obtain ⟨q1, q2, q3, q4, q5, q6⟩ := hj j (by omega)
        exact ⟨by rw [Array.getElem?_push, if_neg (by omega)]; exact q1, by rw [Array.getElem?_push, if_neg (by omega)]; exact q2, q3, q4, .tail _ (.tail _ q5), .tail _ (.tail _ q6)⟩
    case j5 =>
      have ne' := hne
      refine List.forall_mem_cons.mpr ⟨⟨Ne.symm (hne (Rw, PySem.W.listOf wv n1) (.head _)).1, Ne.symm (hne (Pc, PySem.W.listOf pv n2) (.tail _ (.head _))).1, fun p hp => (hne p ((show ∀ p ∈ (Tb, instObj 220 Td) :: (Td, dictOf [{ hash := PyData.keyHash w.params (PySem.Str.ofString "_headers"), key := .str (PySem.Str.ofString "_headers") k0, val := .ref H }] 1) :: (H, W.listOf hs nh) :: (Tl, PySem.W.listOf tlv nl) :: (Mk, PySem.W.listOf mkv nm) :: rest, p ∈ (Rw, PySem.W.listOf wv n1) :: (Pc, PySem.W.listOf pv n2) :: (Tb, instObj 220 Td) :: (Td, dictOf [{ hash := PyData.keyHash w.params (PySem.Str.ofString "_headers"), key := .str (PySem.Str.ofString "_headers") k0, val := .ref H }] 1) :: (H, W.listOf hs nh) :: (Tl, PySem.W.listOf tlv nl) :: (Mk, PySem.W.listOf mkv nm) :: (I, oI) :: (dyn ++ rest) by (repeat (refine List.forall_mem_cons.mpr ⟨by k_mem, ?_⟩)); (intro p hp; simp only [List.mem_cons, List.mem_append, hp, or_true])) p hp)).1⟩,
        List.forall_mem_cons.mpr ⟨⟨Ne.symm (hne (Rw, PySem.W.listOf wv n1) (.head _)).2, Ne.symm (hne (Pc, PySem.W.listOf pv n2) (.tail _ (.head _))).2, fun p hp => (hne p ((show ∀ p ∈ (Tb, instObj 220 Td) :: (Td, dictOf [{ hash := PyData.keyHash w.params (PySem.Str.ofString "_headers"), key := .str (PySem.Str.ofString "_headers") k0, val := .ref H }] 1) :: (H, W.listOf hs nh) :: (Tl, PySem.W.listOf tlv nl) :: (Mk, PySem.W.listOf mkv nm) :: rest, p ∈ (Rw, PySem.W.listOf wv n1) :: (Pc, PySem.W.listOf pv n2) :: (Tb, instObj 220 Td) :: (Td, dictOf [{ hash := PyData.keyHash w.params (PySem.Str.ofString "_headers"), key := .str (PySem.Str.ofString "_headers") k0, val := .ref H }] 1) :: (H, W.listOf hs nh) :: (Tl, PySem.W.listOf tlv nl) :: (Mk, PySem.W.listOf mkv nm) :: (I, oI) :: (dyn ++ rest) by (repeat (refine List.forall_mem_cons.mpr ⟨by k_mem, ?_⟩)); (intro p hp; simp only [List.mem_cons, List.mem_append, hp, or_true])) p hp)).2⟩, hdyn⟩⟩
  case done =>
    rintro m' nw h' tk' ⟨wv, pv, n1, n2, Ow, Pl, vs, pls, no, np, dyn, hJ, rfl⟩ F' N'
    dsimp only
    exact wpAny_execs_nil (hret _ _ _ _ _ F' (news_sub N' (by lcg_sub)) ⟨rfl, Rw, Pc, wv, pv, n1, n2, Ow, Pl, vs, pls, no, np, dyn, hJ, fun p hp => ⟨nR p hp, nP p hp⟩, nPR, rfl⟩)
end Mine
end

section
open PySem PySem.W PyProof.Rows PySem.Spec PySem.Calls
set_option maxRecDepth 100000
set_option maxHeartbeats 4000000
namespace Mine
open PyProof.Rows.LCg PyProof.Rows.LCt
theorem turnS1 (w : World) (mean : ExcName → Option Value) (mg mb : Str → Option Value) (B : Str → Option Value) (rest : List (Addr × Obj)) (c1 c2 c3 Rw : Addr) (o1 : Obj) (v1 : Option Value) (wv : Array Value) (n5 : Nat)
    (rk : Nat → Addr) (rv : Nat → Array Value) (rn : Nat → Nat)
    (d1 : o1.data = .cell v1) (hw : wv.size = 3) (hrow : ∀ k, k < 3 → wv[k]? = some (.ref (rk k)) ∧ (rk k, PySem.W.listOf (rv k) (rn k)) ∈ rest ∧ (rv k).size ≤ 7)
    (e1 : ∀ y ∈ rest, y.1 ≠ c1) (e3 : @Ne Nat Rw c1) :
    SegC 40 w mean mg mb (cells3 c1 c2 c3) [stAt lawD.body 7]
      (fun z => if z = Str.ofString "rows" then some (.ref Rw) else B z)
      ((c1, o1) :: (Rw, PySem.W.listOf wv n5) :: rest)
      (fun f m' nw => f = .next ∧ (∀ z, m' z = if z = Str.ofString "rows" then some (.ref Rw) else B z) ∧ ∃ Sz zv o1', o1'.data = .cell (some (.ref Sz)) ∧ (∀ y ∈ (c1, o1) :: (Rw, PySem.W.listOf wv n5) :: rest, y.1 ≠ Sz) ∧ zv.length = 3 ∧
        (∀ k, k < 3 → ∃ t, zv[k]? = some (.int ((rv k).size + 1) t)) ∧ nw = (Sz, lst zv) :: (c1, o1') :: (Rw, PySem.W.listOf wv n5) :: rest) := by
  w_top off
  unfold SegC; k_fill
  intro dp un gd a' ccd outer A₀ base h₀ L s Q E B' F X N T hd hu hret
  unfold stAt lawD lawQ
  dsimp only [List.getD, List.getElem?_cons_succ, List.getElem?_cons_zero, Option.getD, forBody, cells3]
  repeat' ((fail_if_success (with_reducible show LCg.CompSrc _ _ _ _ _ _ _ _ _ _ _ _ _ _)); first | (k_unfold; (try dsimp only)) | (first | with_reducible (k_here; (with_reducible show wpAny _ _ (subscriptTail _ _ (Value.ref _) (Value.int _ _)) _ _ _); k_dflt (refine item_list ⟨_, News.get (by assumption) (by k_mem), rfl, _, rfl⟩ (by lia) (by lia) (by first | with_reducible assumption | rfl) ?_)) | with_reducible ((with_reducible show wpAny _ _ (eval (Expr.ListComp _ _ _ _) _) _ _ _); (k_here; k_dflt (refine LCg.ListComp_U (F₀ := by k_asm) (by with_unfolding_all rfl) (by decide) (by rfl) (by decide) (by rfl) ?_))) | with_reducible (k_here; (with_reducible show wpAny _ _ (call (Value.builtin "len") [Value.ref _]) _ _ _); k_dflt (refine call_len_list (by assumption) (by lia) ?_)) | walk1) | (dsimp only; (first | with_reducible (k_here; (with_reducible show wpAny _ _ (subscriptTail _ _ (Value.ref _) (Value.int _ _)) _ _ _); k_dflt (refine item_list ⟨_, News.get (by assumption) (by k_mem), rfl, _, rfl⟩ (by lia) (by lia) (by first | with_reducible assumption | rfl) ?_)) | with_reducible ((with_reducible show wpAny _ _ (eval (Expr.ListComp _ _ _ _) _) _ _ _); (k_here; k_dflt (refine LCg.ListComp_U (F₀ := by k_asm) (by with_unfolding_all rfl) (by decide) (by rfl) (by decide) (by rfl) ?_))) | with_reducible (k_here; (with_reducible show wpAny _ _ (call (Value.builtin "len") [Value.ref _]) _ _ _); k_dflt (refine call_len_list (by assumption) (by lia) ?_)) | walk1)) | (leave1; try dsimp only))
  rename Fr _ _ _ _ => F1
  rename News _ _ _ _ => N1
  dsimp only at F1 N1 ⊢
  refine LCg.CompSrc.ledger (k := n5) (its := wv) (by rfl) F1 N1 (by k_mem) (by rw [PySem.sizeLine_eq]; lia) ?_
  intro g
  rw [hw]
  refine compU_fix (fun i ys => ys.length = i ∧ ∀ j, j < i → ∃ t, ys[j]? = some (.int ((rv j).size + 1) t)) ⟨rfl, fun _ h => absurd h (by lia)⟩ ?turn (.inr ⟨_, by k_mem, rfl, _, rfl⟩) ?fin
  case turn =>
    intro i ys v I oI C oC D m₂ h tk E' hi hI hP hns hx F2 N2 o1 hS' d
    clear F1 N1
    obtain ⟨S1, S2, S3⟩ := hrow i hi
    obtain rfl : v = .ref (rk i) := by rw [S1] at hP; exact (Option.some.inj hP).symm
    have hl : h.IsList (rk i) (rv i) := ⟨_, (N2 (rk i, PySem.W.listOf (rv i) (rn i)) (by repeat (first | exact S2 | refine List.Mem.tail _ ?_))).1, rfl, _, rfl⟩
    repeat' (first | (k_unfold; (try dsimp only)) | (first | with_reducible (k_here; (with_reducible show wpAny _ _ (subscriptTail _ _ (Value.ref _) (Value.int _ _)) _ _ _); k_dflt (refine item_list ⟨_, News.get (by assumption) (by k_mem), rfl, _, rfl⟩ (by lia) (by lia) (by first | with_reducible assumption | rfl) ?_)) | with_reducible ((with_reducible show wpAny _ _ (eval (Expr.ListComp _ _ _ _) _) _ _ _); (k_here; k_dflt (refine LCg.ListComp_U (F₀ := by k_asm) (by with_unfolding_all rfl) (by decide) (by rfl) (by decide) (by rfl) ?_))) | with_reducible (k_here; (with_reducible show wpAny _ _ (call (Value.builtin "len") [Value.ref _]) _ _ _); k_dflt (refine call_len_list (by assumption) (by lia) ?_)) | walk1) | (dsimp only; (first | with_reducible (k_here; (with_reducible show wpAny _ _ (subscriptTail _ _ (Value.ref _) (Value.int _ _)) _ _ _); k_dflt (refine item_list ⟨_, News.get (by assumption) (by k_mem), rfl, _, rfl⟩ (by lia) (by lia) (by first | with_reducible assumption | rfl) ?_)) | with_reducible ((with_reducible show wpAny _ _ (eval (Expr.ListComp _ _ _ _) _) _ _ _); (k_here; k_dflt (refine LCg.ListComp_U (F₀ := by k_asm) (by with_unfolding_all rfl) (by decide) (by rfl) (by decide) (by rfl) ?_))) | with_reducible (k_here; (with_reducible show wpAny _ _ (call (Value.builtin "len") [Value.ref _]) _ _ _); k_dflt (refine call_len_list (by assumption) (by lia) ?_)) | walk1)) | (leave1; try dsimp only))
    rename Fr _ _ _ _ => F3
    rename News _ _ _ _ => N3
    refine compEnd_fix F3 N3 o1 hS' ⟨by rw [List.length_append, hI.1]; rfl, fun j hj => ?_⟩
    by_cases hji : j < i
    · obtain ⟨t, ht⟩ := hI.2 j hji
      exact ⟨t, by rw [List.getElem?_append_left (by rw [hI.1]; exact hji)]; exact ht⟩
    · obtain rfl : j = i := by lia
      rw [List.getElem?_append_right (by rw [hI.1]; lia), hI.1, Nat.sub_self]
      exact ⟨_, rfl⟩
  case fin =>
    rintro ys ⟨hl, hys⟩
    unfold LCg.FinE
    intro D h tk F2 N2 oo
    dsimp only
    clear F1 N1
    have o1' : ∀ y ∈ (c1, o1) :: (Rw, PySem.W.listOf wv n5) :: rest, y.1 ≠ D := off1_ne oo
    refine store_cell F2 (o := o1) (r := (D, lst ys) :: (Rw, PySem.W.listOf wv n5) :: rest) (fun y hy => N2 y ((show ∀ p ∈ _, p ∈ _ by lcg_sub) y hy)) (List.forall_mem_cons.mpr ⟨Ne.symm (o1' (c1, o1) (.head _)), List.forall_mem_cons.mpr ⟨e3, e1⟩⟩) (by rfl) d1 (by rfl) (by rfl) fun h₂ o3'' F3 N3 d3'' => ?_
    exact wpAny_execs_nil (hret _ _ _ _ _ F3 (fun y hy => N3 y ((show ∀ p ∈ _, p ∈ _ by lcg_sub) y hy)) ⟨rfl, fun z => rfl, D, ys, o3'', d3'', o1', hl, hys, rfl⟩)
theorem turnS2 (w : World) (mean : ExcName → Option Value) (mg mb : Str → Option Value) (B : Str → Option Value) (rest : List (Addr × Obj)) (c1 c2 c3 Sz : Addr) (o1 o2 : Obj) (v2 : Option Value) (zv : Array Value) (nz : Nat) (z1 z2 : Int) (t1 t2 : Tok)
    (d1 : o1.data = .cell (some (.ref Sz))) (d2 : o2.data = .cell v2) (h1 : zv[Int.toNat 1]? = some (.int z1 t1)) (h2 : zv[Int.toNat 2]? = some (.int z2 t2)) (b1 : 1 ≤ z1 ∧ z1 ≤ 8) (b2 : 1 ≤ z2 ∧ z2 ≤ 8)
    (e1 : @Ne Nat c1 c2) (e2 : @Ne Nat Sz c2) (er : ∀ y ∈ rest, y.1 ≠ c2) :
    SegC 40 w mean mg mb (cells3 c1 c2 c3) [stAt lawD.body 8, stAt lawD.body 9]
      B
      ((c2, o2) :: (c1, o1) :: (Sz, PySem.W.listOf zv nz) :: rest)
      (fun f m' nw => f = .next ∧ ∃ Fi St o2' n1 n2 t1 t2 t3, (∀ z, m' z = if z = Str.ofString "first" then some (.ref Fi) else B z) ∧ o2'.data = .cell (some (.ref St)) ∧ (∀ y ∈ (c2, o2) :: (c1, o1) :: (Sz, PySem.W.listOf zv nz) :: rest, y.1 ≠ St) ∧ (∀ y ∈ (c2, o2) :: (c1, o1) :: (Sz, PySem.W.listOf zv nz) :: rest, y.1 ≠ Fi) ∧ @Ne Nat St Fi ∧
        nw = (Fi, PySem.W.listOf #[] n1) :: (St, PySem.W.listOf #[.int (z1 * z2) t1, .int z2 t2, .int 1 t3] n2) :: (c2, o2') :: (c1, o1) :: (Sz, PySem.W.listOf zv nz) :: rest) := by
  unfold SegC; k_fill
  intro dp un gd a' ccd outer A₀ base h₀ L s Q E B' F X N T hd hu hret
  unfold stAt lawD lawQ
  dsimp only [List.getD, List.getElem?_cons_succ, List.getElem?_cons_zero, Option.getD, forBody, cells3]
  repeat' (first | (k_unfold; (try dsimp only)) | (first | with_reducible (k_here; (with_reducible show wpAny _ _ (subscriptTail _ _ (Value.ref _) (Value.int _ _)) _ _ _); k_dflt (refine item_list ⟨_, News.get (by assumption) (by k_mem), rfl, _, rfl⟩ (by lia) (by lia) (by first | with_reducible assumption | rfl) ?_)) | with_reducible ((with_reducible show wpAny _ _ (eval (Expr.ListComp _ _ _ _) _) _ _ _); (k_here; k_dflt (refine LCg.ListComp_U (F₀ := by k_asm) (by with_unfolding_all rfl) (by decide) (by rfl) (by decide) (by rfl) ?_))) | with_reducible (k_here; (with_reducible show wpAny _ _ (call (Value.builtin "len") [Value.ref _]) _ _ _); k_dflt (refine call_len_list (by assumption) (by lia) ?_)) | walk1) | (dsimp only; (first | with_reducible (k_here; (with_reducible show wpAny _ _ (subscriptTail _ _ (Value.ref _) (Value.int _ _)) _ _ _); k_dflt (refine item_list ⟨_, News.get (by assumption) (by k_mem), rfl, _, rfl⟩ (by lia) (by lia) (by first | with_reducible assumption | rfl) ?_)) | with_reducible ((with_reducible show wpAny _ _ (eval (Expr.ListComp _ _ _ _) _) _ _ _); (k_here; k_dflt (refine LCg.ListComp_U (F₀ := by k_asm) (by with_unfolding_all rfl) (by decide) (by rfl) (by decide) (by rfl) ?_))) | with_reducible (k_here; (with_reducible show wpAny _ _ (call (Value.builtin "len") [Value.ref _]) _ _ _); k_dflt (refine call_len_list (by assumption) (by lia) ?_)) | walk1)) | (leave1; try dsimp only))
  rename Fr _ _ _ _ => F9
  rename News _ _ _ _ => N9
  rename (@LT.lt Nat _ c2 _ ∧ _) => la
  rename (@LT.lt Nat _ _ _ ∧ _) => lb
  rename (_ = Data.cell (some (Value.ref _))) => dd
  exact hret _ _ _ _ _ F9 N9 ⟨rfl, _, _, _, _, _, _, _, _, fun z => rfl, dd, allLt_ne la, allLt_ne (show AllLt _ _ from lb.2), Nat.ne_of_lt lb.1, rfl⟩
end Mine
end

section
open PySem PySem.W PyProof.Rows PySem.Spec PySem.Calls
set_option maxRecDepth 100000
set_option maxHeartbeats 4000000
namespace Mine
open PyProof.Rows.LCg PyProof.Rows.LCt
theorem turnD1 (w : World) (mean : ExcName → Option Value) (mg mb : Str → Option Value) (B : Str → Option Value) (rest : List (Addr × Obj)) (c1 c2 c3 St Sz : Addr) (o1 o2 o3 : Obj) (spot : Int) (sf zf : Nat → Int) (ts tz : Nat → Tok) (t3 : Tok) (zv sv : Array Value) (n0 n1 : Nat)
    (d1 : o1.data = .cell (some (.ref Sz))) (d2 : o2.data = .cell (some (.ref St))) (d3 : o3.data = .cell (some (.int spot t3)))
    (b : 0 ≤ spot ∧ spot < 1000) (hS : ∀ i, i < 3 → sv[i]? = some (.int (sf i) (ts i)) ∧ 1 ≤ sf i ∧ sf i ≤ 100) (hZ : ∀ i, i < 3 → zv[i]? = some (.int (zf i) (tz i)) ∧ 1 ≤ zf i ∧ zf i ≤ 100) :
    SegC 30 w mean mg mb (cells3 c1 c2 c3) [stAt (forBody (stAt lawD.body 10)) 0]
      B
      ((Sz, PySem.W.listOf zv n0) :: (St, PySem.W.listOf sv n1) :: (c1, o1) :: (c2, o2) :: (c3, o3) :: rest)
      (fun f m' nw => f = .next ∧ ∃ D cv, m' = (fun z => if z = Str.ofString "cuts" then some (.ref D) else B z) ∧ nw = (D, lst cv) :: (Sz, PySem.W.listOf zv n0) :: (St, PySem.W.listOf sv n1) :: (c1, o1) :: (c2, o2) :: (c3, o3) :: rest ∧
        (∀ y ∈ (Sz, PySem.W.listOf zv n0) :: (St, PySem.W.listOf sv n1) :: (c1, o1) :: (c2, o2) :: (c3, o3) :: rest, y.1 ≠ D) ∧ ∀ j, j < 3 → ∃ t, cv[j]? = some (.int (((spot).fdiv (sf j)).fmod (zf j)) t)) := by
  w_top off
  unfold SegC; k_fill
  intro dp un gd a' ccd outer A₀ base h₀ L s Q E B' F X N T hd hu hret
  unfold stAt lawD lawQ
  dsimp only [List.getD, List.getElem?_cons_succ, List.getElem?_cons_zero, Option.getD, forBody, cells3]
  repeat' ((fail_if_success (with_reducible show LCg.CompSrc _ _ _ _ _ _ _ _ _ _ _ _ _ _)); first | (k_unfold; (try dsimp only)) | (first | with_reducible ((with_reducible show wpAny _ _ (exec (Stmt.Assign (_ :: _) (Expr.ListComp _ _ _ _) _) _) _ _ _); (k_here; k_dflt (refine LCg.Assign_ListComp_U (F₀ := by k_asm) (by rfl) (by with_unfolding_all rfl) (by with_unfolding_all rfl) (by decide) (by rfl) (by decide) (by rfl) (by rfl) (by rfl) ?_))) | with_reducible (k_here; (with_reducible show wpAny _ _ (subscriptTail _ _ (Value.ref _) (Value.int _ _)) _ _ _); k_dflt (refine item_list ⟨_, News.get (by assumption) (by k_mem), rfl, _, rfl⟩ (by lia) (by lia) (by with_reducible assumption) ?_)) | walk1) | (dsimp only; (first | with_reducible ((with_reducible show wpAny _ _ (exec (Stmt.Assign (_ :: _) (Expr.ListComp _ _ _ _) _) _) _ _ _); (k_here; k_dflt (refine LCg.Assign_ListComp_U (F₀ := by k_asm) (by rfl) (by with_unfolding_all rfl) (by with_unfolding_all rfl) (by decide) (by rfl) (by decide) (by rfl) (by rfl) (by rfl) ?_))) | with_reducible (k_here; (with_reducible show wpAny _ _ (subscriptTail _ _ (Value.ref _) (Value.int _ _)) _ _ _); k_dflt (refine item_list ⟨_, News.get (by assumption) (by k_mem), rfl, _, rfl⟩ (by lia) (by lia) (by with_reducible assumption) ?_)) | walk1)) | (leave1; try dsimp only))
  rename IsRange _ _ _ _ _ _ _ _ => hr
  rename Fr _ _ _ _ => F1
  rename News _ _ _ _ => N1
  dsimp only at hr F1 N1 ⊢
  refine LCg.CompSrc.range (n := 3) (by rfl) F1 N1 hr (by decide) (by rfl) (by rw [PySem.sizeLine_eq]; lia) ?_
  intro g
  refine compU_fix (fun i ys => ys.length = i ∧ ∀ j, j < i → ∃ t, ys[j]? = some (.int (((spot).fdiv (sf j)).fmod (zf j)) t)) ⟨rfl, fun _ h => absurd h (by lia)⟩ ?turn trivial ?fin
  case turn =>
    intro i ys v I oI C oC D m₂ h tk E' hi hI hP hns hx F2 N2 o1 hS' d
    clear F1 N1
    obtain ⟨tv, rfl⟩ := hP
    obtain ⟨S1, S2, S3⟩ := hS i hi
    obtain ⟨Z1, Z2, Z3⟩ := hZ i hi
    clear hS hZ hr
    have e0 : (0 : Int) + (i : Int) = (i : Int) := by lia
    rw [e0] at hx
    have S0 : sv[(i : Int).toNat]? = some (.int (sf i) (ts i)) := by simpa using S1
    have Z0 : zv[(i : Int).toNat]? = some (.int (zf i) (tz i)) := by simpa using Z1
    generalize ey : sf i = y at *
    generalize ex : zf i = x at *
    repeat' (first | (k_unfold; (try dsimp only)) | (first | with_reducible ((with_reducible show wpAny _ _ (exec (Stmt.Assign (_ :: _) (Expr.ListComp _ _ _ _) _) _) _ _ _); (k_here; k_dflt (refine LCg.Assign_ListComp_U (F₀ := by k_asm) (by rfl) (by with_unfolding_all rfl) (by with_unfolding_all rfl) (by decide) (by rfl) (by decide) (by rfl) (by rfl) (by rfl) ?_))) | with_reducible (k_here; (with_reducible show wpAny _ _ (subscriptTail _ _ (Value.ref _) (Value.int _ _)) _ _ _); k_dflt (refine item_list ⟨_, News.get (by assumption) (by k_mem), rfl, _, rfl⟩ (by lia) (by lia) (by with_reducible assumption) ?_)) | walk1) | (dsimp only; (first | with_reducible ((with_reducible show wpAny _ _ (exec (Stmt.Assign (_ :: _) (Expr.ListComp _ _ _ _) _) _) _ _ _); (k_here; k_dflt (refine LCg.Assign_ListComp_U (F₀ := by k_asm) (by rfl) (by with_unfolding_all rfl) (by with_unfolding_all rfl) (by decide) (by rfl) (by decide) (by rfl) (by rfl) (by rfl) ?_))) | with_reducible (k_here; (with_reducible show wpAny _ _ (subscriptTail _ _ (Value.ref _) (Value.int _ _)) _ _ _); k_dflt (refine item_list ⟨_, News.get (by assumption) (by k_mem), rfl, _, rfl⟩ (by lia) (by lia) (by with_reducible assumption) ?_)) | walk1)) | (leave1; try dsimp only))
    rename Fr _ _ _ _ => F3
    rename News _ _ _ _ => N3
    refine compEnd_fix F3 N3 o1 trivial ⟨by rw [List.length_append, hI.1]; rfl, fun j hj => ?_⟩
    by_cases hji : j < i
    · obtain ⟨t, ht⟩ := hI.2 j hji
      exact ⟨t, by rw [List.getElem?_append_left (by rw [hI.1]; exact hji)]; exact ht⟩
    · obtain rfl : j = i := by lia
      rw [List.getElem?_append_right (by rw [hI.1]; lia), hI.1, Nat.sub_self, ey, ex]
      exact ⟨_, rfl⟩
  case fin =>
    rintro ys ⟨hl, hys⟩
    unfold LCg.FinA
    intro D h tk F2 N2 o1
    dsimp only
    exact wpAny_execs_nil (hret _ _ _ _ _ F2 N2 ⟨rfl, D, ys, rfl, rfl, off1_ne o1, hys⟩)
end Mine
end

section
open PySem PySem.W PyProof.Rows PySem.Spec PySem.Calls
set_option maxRecDepth 100000
set_option maxHeartbeats 4000000
namespace Mine
/-- what the cuts of one stalk below c add to the wins -/
noncomputable def accL (p : Bool) (xf : Nat → Int) (bf : Nat → Bool) (v : Int) (i : Nat) : Bool := p || (List.range i).any fun j => decide (xf j = v) && !bf j
theorem accL_succ (p : Bool) (xf : Nat → Int) (bf : Nat → Bool) (v : Int) (i : Nat) : accL p xf bf v (i + 1) = (accL p xf bf v i || (decide (xf i = v) && !bf i)) := by
  unfold accL
  rw [List.range_succ, List.any_append]
  simp [Bool.or_assoc]
theorem permK {α : Type} {wn th fi cu st rw rk c2 c3 i : α} {r : List α} (h : th ∈ r) : ∀ p ∈ wn :: th :: fi :: cu :: st :: rw :: rk :: c2 :: c3 :: i :: r, p ∈ i :: wn :: fi :: cu :: st :: rw :: rk :: c2 :: c3 :: r := by repeat (first | exact subI | (refine subC (by first | k_mem | (repeat (first | exact h | refine List.Mem.tail _ ?_))) ?_) | refine subT ?_)
theorem permK2 {α : Type} {wn th fi cu st rw rk c2 c3 i : α} {r : List α} : ∀ p ∈ i :: wn :: fi :: cu :: st :: rw :: rk :: c2 :: c3 :: r, p ∈ wn :: th :: fi :: cu :: st :: rw :: rk :: c2 :: c3 :: i :: r := by repeat (first | exact subI | (refine subC (by k_mem) ?_) | refine subT ?_)
theorem turnK (w : World) (mean : ExcName → Option Value) (mg mb : Str → Option Value) (B : Str → Option Value) (rest : List (Addr × Obj)) (c1 c2 c3 Wn Fi Cu St Rw rk : Addr) (o2 o3 : Obj) (k c sp spot : Int) (t2 t3 t4 t5 : Tok) (p q : Bool) (fv cv sv wv rv : Array Value) (n0 n2 n3 n4 n5 n6 : Nat)
    (xf : Nat → Int) (af bf : Nat → Bool) (Thf : Nat → Addr) (nf tf : Nat → Nat)
    (d2 : o2.data = .cell (some (.ref St))) (d3 : o3.data = .cell (some (.int spot t3)))
    (bk : 0 ≤ k ∧ k < 3) (bc2 : 0 ≤ c ∧ c < 10) (bs : 0 ≤ sp ∧ sp ≤ 100) (hC : cv[k.toNat]? = some (.int c t4)) (hS : sv[k.toNat]? = some (.int sp t5)) (hR : wv[k.toNat]? = some (.ref rk))
    (hj : ∀ j : Nat, (j : Int) < c → (0 ≤ spot - (c - j) * sp ∧ spot - (c - j) * sp < 1000) ∧ rv[j]? = some (.int (xf j) (tf j)) ∧ fv[(spot - (c - j) * sp).toNat]? = some (.ref (Thf j)) ∧ (Thf j, PySem.W.listOf #[.bool (af j), .bool (bf j)] (nf j)) ∈ rest)
    (e1 : @Ne Nat Fi Wn) (e2 : @Ne Nat Cu Wn) (e3 : @Ne Nat St Wn) (e4 : @Ne Nat Rw Wn) (e5 : @Ne Nat rk Wn) (e6 : @Ne Nat c2 Wn) (e7 : @Ne Nat c3 Wn) (r1 : ∀ y ∈ rest, y.1 ≠ Wn) :
    SegC 30 w mean mg mb (cells3 c1 c2 c3) (forBody (stAt (forBody (stAt lawD.body 10)) 2))
      (fun z => if z = Str.ofString "k" then some (.int k t2) else if z = Str.ofString "first" then some (.ref Fi) else if z = Str.ofString "cuts" then some (.ref Cu) else if z = Str.ofString "rows" then some (.ref Rw) else if z = Str.ofString "wins" then some (.ref Wn) else B z)
      ((Wn, PySem.W.listOf #[.bool p, .bool q] n0) :: (Fi, PySem.W.listOf fv n2) :: (Cu, PySem.W.listOf cv n3) :: (St, PySem.W.listOf sv n4) :: (Rw, PySem.W.listOf wv n5) :: (rk, PySem.W.listOf rv n6) :: (c2, o2) :: (c3, o3) :: rest)
      (fun f m' nw => f = .next ∧ (∀ z, z ≠ Str.ofString "there" → z ≠ Str.ofString "cut" → m' z = if z = Str.ofString "k" then some (.int k t2) else if z = Str.ofString "first" then some (.ref Fi) else if z = Str.ofString "cuts" then some (.ref Cu) else if z = Str.ofString "rows" then some (.ref Rw) else if z = Str.ofString "wins" then some (.ref Wn) else B z) ∧
        ∃ n0', nw = (Wn, PySem.W.listOf #[.bool (accL p xf bf 1 c.toNat), .bool (accL q xf af (-1) c.toNat)] n0') :: (Fi, PySem.W.listOf fv n2) :: (Cu, PySem.W.listOf cv n3) :: (St, PySem.W.listOf sv n4) :: (Rw, PySem.W.listOf wv n5) :: (rk, PySem.W.listOf rv n6) :: (c2, o2) :: (c3, o3) :: rest) := by
  w_top off
  unfold SegC; k_fill
  intro dp un gd a' ccd outer A₀ base h₀ L s Q E B' F X N T hd hu hret
  unfold stAt lawD lawQ
  dsimp only [List.getD, List.getElem?_cons_succ, List.getElem?_cons_zero, Option.getD, forBody, cells3]
  repeat' ((fail_if_success (with_reducible show wpAny _ _ (pyIter _) _ _ _)); first | (k_unfold; (try dsimp only)) | (first | with_reducible ((with_reducible show wpAny _ _ (exec (Stmt.For (Expr.Name _ _) _ _ _ _) _) _ _ _); (k_here; k_dflt (refine wpAny_For ?_ (by intro _; with_unfolding_all rfl)))) | with_reducible (k_here; (with_reducible show wpAny _ _ (subscriptTail _ _ (Value.ref _) (Value.int _ _)) _ _ _); k_dflt (refine item_list ⟨_, News.get (by assumption) (by k_mem), rfl, _, rfl⟩ (by lia) (by lia) (by with_reducible assumption) ?_)) | walk1) | (dsimp only; (first | with_reducible ((with_reducible show wpAny _ _ (exec (Stmt.For (Expr.Name _ _) _ _ _ _) _) _ _ _); (k_here; k_dflt (refine wpAny_For ?_ (by intro _; with_unfolding_all rfl)))) | with_reducible (k_here; (with_reducible show wpAny _ _ (subscriptTail _ _ (Value.ref _) (Value.int _ _)) _ _ _); k_dflt (refine item_list ⟨_, News.get (by assumption) (by k_mem), rfl, _, rfl⟩ (by lia) (by lia) (by with_reducible assumption) ?_)) | walk1)) | (leave1; try dsimp only))
  rename IsRange _ _ _ _ _ _ _ _ => hr
  rename Fr _ _ _ _ => F1
  rename News _ _ _ _ => N1
  refine loop_range (by rfl) F1 N1 hr bc2.1 (by lia) (fun i m' nw => (∀ z, z ≠ Str.ofString "there" → z ≠ Str.ofString "cut" → m' z = if z = Str.ofString "k" then some (.int k t2) else if z = Str.ofString "first" then some (.ref Fi) else if z = Str.ofString "cuts" then some (.ref Cu) else if z = Str.ofString "rows" then some (.ref Rw) else if z = Str.ofString "wins" then some (.ref Wn) else B z) ∧
        ∃ n0', nw = (Wn, PySem.W.listOf #[.bool (accL p xf bf 1 i), .bool (accL q xf af (-1) i)] n0') :: (Fi, PySem.W.listOf fv n2) :: (Cu, PySem.W.listOf cv n3) :: (St, PySem.W.listOf sv n4) :: (Rw, PySem.W.listOf wv n5) :: (rk, PySem.W.listOf rv n6) :: (c2, o2) :: (c3, o3) :: rest) ?h0 ?turn ?done
  case h0 => exact ⟨fun z h1 h2 => rfl, n0, by simp [accL]⟩
  case turn =>
    intro i m₁ nw h tk I oI tv hi J0 hIl hn F2 N2
    k_fold
    obtain ⟨hm, n0', rfl⟩ := J0
    refine wpAny_assign_Name (wpAny_storeName_local (by rfl) F2.ns (fun h₂ hn₂ hs₂ => ?_) (by rfl))
    k_unfold
    dsimp only
    k_fold
    have F3 := F2.set hn₂ hs₂
    have N3 := N2.set hs₂
    clear F2 N2 hn₂ hs₂ F1 N1
    obtain ⟨⟨i0, i1⟩, i2, i3, i4⟩ := hj i (by lia)
    have hTW : @Ne Nat (Thf i) Wn := r1 _ i4
    have hIW : @Ne Nat I Wn := Ne.symm (hn _ (.head _))
    have F4 : Fr h₀ L h₂ (fun z => if z = Str.ofString "cut" then some (.int (i : Int) tv) else if z = Str.ofString "k" then some (.int k t2) else if z = Str.ofString "first" then some (.ref Fi) else if z = Str.ofString "cuts" then some (.ref Cu) else if z = Str.ofString "rows" then some (.ref Rw) else if z = Str.ofString "wins" then some (.ref Wn) else m₁ z) := by
      refine (congrArg (Fr h₀ L h₂) (funext fun z => ?_)).mp F3
      by_cases hz : z = Str.ofString "cut"
      · subst hz; rfl
      by_cases ht : z = Str.ofString "there"
      · subst ht; rfl
      simp only [if_neg hz]
      rw [hm z ht hz]
      by_cases q1 : z = Str.ofString "k"
      · subst q1; rfl
      by_cases q2 : z = Str.ofString "first"
      · subst q2; rfl
      by_cases q3 : z = Str.ofString "cuts"
      · subst q3; rfl
      by_cases q4 : z = Str.ofString "rows"
      · subst q4; rfl
      by_cases q5 : z = Str.ofString "wins"
      · subst q5; rfl
      simp only [if_neg q1, if_neg q2, if_neg q3, if_neg q4, if_neg q5]
    refine turnF w mean mg mb m₁ ((I, oI) :: rest) c1 c2 c3 Wn (Thf i) Fi Cu St Rw rk o2 o2 o3 i k c sp spot (xf i) tv t2 t3 t4 t5 (tf i) (accL p xf bf 1 i) (accL q xf af (-1) i) (af i) (bf i) fv cv sv wv rv n0' (nf i) n2 n3 n4 n5 n6 d2 d3 bk ⟨by lia, by lia⟩ (by lia) bs ⟨i0, i1⟩ hC hS hR (by simpa using i2) i3 hTW e1 e2 e3 e4 e5 e6 e7 (List.forall_mem_cons.mpr ⟨hIW, r1⟩) _ _ _ _ _ _ _ _ _ _ _ _ _ B' F4 X (newsSub N3 (permK i4)) T ?_ ?_ ?_
    · ktr_room
    · ktr_units
    · rintro f m' nw h' tk' F5 N5 ⟨rfl, hm', n0'', rfl⟩
      refine TurnEnd.mk (nw := (Wn, PySem.W.listOf #[.bool (accL p xf bf 1 (i + 1)), .bool (accL q xf af (-1) (i + 1))] n0'') :: (Fi, PySem.W.listOf fv n2) :: (Cu, PySem.W.listOf cv n3) :: (St, PySem.W.listOf sv n4) :: (Rw, PySem.W.listOf wv n5) :: (rk, PySem.W.listOf rv n6) :: (c2, o2) :: (c3, o3) :: rest) F5 (newsSub N5 (by rw [accL_succ, accL_succ]; exact permK2)) (fun _ h => nomatch h) ?_ ⟨fun z h1 h2 => ?_, n0'', rfl⟩
      · intro y hy
        simp only [List.mem_cons] at hy
        rcases hy with rfl | hy
        · exact (Ne.symm hIW : Wn ≠ I)
        · exact hn y (by simp only [List.mem_cons]; exact .inr hy)
      · rw [hm' z h1, if_neg h2]
        by_cases q1 : z = Str.ofString "k"
        · subst q1; rfl
        by_cases q2 : z = Str.ofString "first"
        · subst q2; rfl
        by_cases q3 : z = Str.ofString "cuts"
        · subst q3; rfl
        by_cases q4 : z = Str.ofString "rows"
        · subst q4; rfl
        by_cases q5 : z = Str.ofString "wins"
        · subst q5; rfl
        simp only [if_neg q1, if_neg q2, if_neg q3, if_neg q4, if_neg q5]
        rw [hm z h1 h2]
        simp only [if_neg q1, if_neg q2, if_neg q3, if_neg q4, if_neg q5]
  case done =>
    rintro m' nw h' tk ⟨hm, n0', rfl⟩ F' N'
    dsimp only
    exact wpAny_execs_nil (hret _ _ _ _ _ F' N' ⟨rfl, hm, n0', rfl⟩)
end Mine
end

section
open PySem PySem.W PyProof.Rows PySem.Spec PySem.Calls
set_option maxRecDepth 100000
set_option maxHeartbeats 4000000
namespace Mine
/-- what the first k stalks add to the wins of one side -/
noncomputable def accK (xf : Nat → Nat → Int) (bf : Nat → Nat → Bool) (v : Int) (cf : Nat → Int) : Nat → Bool
  | 0 => false
  | k + 1 => accL (accK xf bf v cf k) (xf k) (bf k) v (cf k).toNat
theorem permD {α : Type} {wn fi cu st rw rk c2 c3 i : α} {r : List α} (h : rk ∈ r) : ∀ p ∈ wn :: fi :: cu :: st :: rw :: rk :: c2 :: c3 :: i :: r, p ∈ i :: wn :: fi :: cu :: st :: rw :: c2 :: c3 :: r := by repeat (first | exact subI | (refine subC (by first | k_mem | (repeat (first | exact h | refine List.Mem.tail _ ?_))) ?_) | refine subT ?_)
theorem permD2 {α : Type} {wn fi cu st rw rk c2 c3 i : α} {r : List α} : ∀ p ∈ i :: wn :: fi :: cu :: st :: rw :: c2 :: c3 :: r, p ∈ wn :: fi :: cu :: st :: rw :: rk :: c2 :: c3 :: i :: r := by repeat (first | exact subI | (refine subC (by k_mem) ?_) | refine subT ?_)
theorem turnD2 (w : World) (mean : ExcName → Option Value) (mg mb : Str → Option Value) (B : Str → Option Value) (rest : List (Addr × Obj)) (c1 c2 c3 Fi Cu St Rw : Addr) (o2 o3 : Obj) (spot : Int) (t3 : Tok) (fv cv sv wv : Array Value) (n2 n3 n4 n5 : Nat)
    (rk : Nat → Addr) (rv : Nat → Array Value) (rn : Nat → Nat) (cf sf : Nat → Int) (t4 t5 : Nat → Tok)
    (xf : Nat → Nat → Int) (af bf : Nat → Nat → Bool) (Thf : Nat → Nat → Addr) (nf tf : Nat → Nat → Nat)
    (d2 : o2.data = .cell (some (.ref St))) (d3 : o3.data = .cell (some (.int spot t3)))
    (hk : ∀ k, k < 3 → (0 ≤ cf k ∧ cf k < 10) ∧ (0 ≤ sf k ∧ sf k ≤ 100) ∧ cv[k]? = some (.int (cf k) (t4 k)) ∧ sv[k]? = some (.int (sf k) (t5 k)) ∧ wv[k]? = some (.ref (rk k)) ∧ (rk k, PySem.W.listOf (rv k) (rn k)) ∈ rest)
    (hj : ∀ k, k < 3 → ∀ j : Nat, (j : Int) < cf k → (0 ≤ spot - (cf k - j) * sf k ∧ spot - (cf k - j) * sf k < 1000) ∧ (rv k)[j]? = some (.int (xf k j) (tf k j)) ∧ fv[(spot - (cf k - j) * sf k).toNat]? = some (.ref (Thf k j)) ∧ (Thf k j, PySem.W.listOf #[.bool (af k j), .bool (bf k j)] (nf k j)) ∈ rest) :
    SegC 40 w mean mg mb (cells3 c1 c2 c3) [stAt (forBody (stAt lawD.body 10)) 1, stAt (forBody (stAt lawD.body 10)) 2]
      (fun z => if z = Str.ofString "first" then some (.ref Fi) else if z = Str.ofString "cuts" then some (.ref Cu) else if z = Str.ofString "rows" then some (.ref Rw) else B z)
      ((Fi, PySem.W.listOf fv n2) :: (Cu, PySem.W.listOf cv n3) :: (St, PySem.W.listOf sv n4) :: (Rw, PySem.W.listOf wv n5) :: (c2, o2) :: (c3, o3) :: rest)
      (fun f m' nw => f = .next ∧ ∃ Wn n0, (m' (Str.ofString "wins") = some (.ref Wn) ∧ ∀ z, z ≠ Str.ofString "wins" → z ≠ Str.ofString "k" → z ≠ Str.ofString "there" → z ≠ Str.ofString "cut" → m' z = if z = Str.ofString "first" then some (.ref Fi) else if z = Str.ofString "cuts" then some (.ref Cu) else if z = Str.ofString "rows" then some (.ref Rw) else B z) ∧
        (∀ y ∈ (Fi, PySem.W.listOf fv n2) :: (Cu, PySem.W.listOf cv n3) :: (St, PySem.W.listOf sv n4) :: (Rw, PySem.W.listOf wv n5) :: (c2, o2) :: (c3, o3) :: rest, y.1 ≠ Wn) ∧
        nw = (Wn, PySem.W.listOf #[.bool (accK xf bf 1 cf 3), .bool (accK xf af (-1) cf 3)] n0) :: (Fi, PySem.W.listOf fv n2) :: (Cu, PySem.W.listOf cv n3) :: (St, PySem.W.listOf sv n4) :: (Rw, PySem.W.listOf wv n5) :: (c2, o2) :: (c3, o3) :: rest) := by
  w_top off
  unfold SegC; k_fill
  intro dp un gd a' ccd outer A₀ base h₀ L s Q E B' F X N T hd hu hret
  unfold stAt lawD lawQ
  dsimp only [List.getD, List.getElem?_cons_succ, List.getElem?_cons_zero, Option.getD, forBody, cells3]
  repeat' ((fail_if_success (with_reducible show wpAny _ _ (pyIter _) _ _ _)); first | (k_unfold; (try dsimp only)) | (first | with_reducible ((with_reducible show wpAny _ _ (exec (Stmt.For (Expr.Name _ _) _ _ _ _) _) _ _ _); (k_here; k_dflt (refine wpAny_For ?_ (by intro _; with_unfolding_all rfl)))) | walk1) | (dsimp only; (first | with_reducible ((with_reducible show wpAny _ _ (exec (Stmt.For (Expr.Name _ _) _ _ _ _) _) _ _ _); (k_here; k_dflt (refine wpAny_For ?_ (by intro _; with_unfolding_all rfl)))) | walk1)) | (leave1; try dsimp only))
  rename IsRange _ _ _ _ _ _ _ _ => hr
  rename Fr _ _ _ _ => F1
  rename News _ _ _ _ => N1
  rename (@LT.lt Nat _ Fi _ ∧ _) => l1
  rename_i l' _ _ _ _ _ _ _ _ _ _
  generalize hW : l' = Wn at *
  clear hW
  have nW : ∀ y ∈ (Fi, PySem.W.listOf fv n2) :: (Cu, PySem.W.listOf cv n3) :: (St, PySem.W.listOf sv n4) :: (Rw, PySem.W.listOf wv n5) :: (c2, o2) :: (c3, o3) :: rest, y.1 ≠ Wn := allLt_ne l1
  dsimp only at hr F1 N1 ⊢
  refine loop_range (by rfl) F1 N1 hr (by lia) (by lia) (fun i m' nw => ∃ n0, (m' (Str.ofString "wins") = some (.ref Wn) ∧ ∀ z, z ≠ Str.ofString "wins" → z ≠ Str.ofString "k" → z ≠ Str.ofString "there" → z ≠ Str.ofString "cut" → m' z = if z = Str.ofString "first" then some (.ref Fi) else if z = Str.ofString "cuts" then some (.ref Cu) else if z = Str.ofString "rows" then some (.ref Rw) else B z) ∧
        nw = (Wn, PySem.W.listOf #[.bool (accK xf bf 1 cf i), .bool (accK xf af (-1) cf i)] n0) :: (Fi, PySem.W.listOf fv n2) :: (Cu, PySem.W.listOf cv n3) :: (St, PySem.W.listOf sv n4) :: (Rw, PySem.W.listOf wv n5) :: (c2, o2) :: (c3, o3) :: rest) ?h0 ?turn ?done
  case h0 => exact ⟨_, ⟨rfl, fun z h1 h2 h3 h4 => by simp [h1]⟩, rfl⟩
  case turn =>
    intro i m₁ nw h tk I oI tv hi J0 hIl hn F2 N2
    k_fold
    obtain ⟨n0, ⟨hm1, hm⟩, rfl⟩ := J0
    refine wpAny_assign_Name (wpAny_storeName_local (by rfl) F2.ns (fun h₂ hn₂ hs₂ => ?_) (by rfl))
    k_unfold
    dsimp only
    k_fold
    have F3 := F2.set hn₂ hs₂
    have N3 := N2.set hs₂
    clear F2 N2 hn₂ hs₂ F1 N1
    have hi3 : i < 3 := hi
    obtain ⟨k1, k2, k3, k4, k5, k6⟩ := hk i hi3
    have hIW : @Ne Nat I Wn := Ne.symm (hn _ (.head _))
    have F4 : Fr h₀ L h₂ (fun z => if z = Str.ofString "k" then some (.int (i : Int) tv) else if z = Str.ofString "first" then some (.ref Fi) else if z = Str.ofString "cuts" then some (.ref Cu) else if z = Str.ofString "rows" then some (.ref Rw) else if z = Str.ofString "wins" then some (.ref Wn) else m₁ z) := by
      refine (congrArg (Fr h₀ L h₂) (funext fun z => ?_)).mp F3
      by_cases q1 : z = Str.ofString "k"
      · subst q1; rfl
      by_cases q2 : z = Str.ofString "first"
      · subst q2; exact hm _ (by decide) (by decide) (by decide) (by decide)
      by_cases q3 : z = Str.ofString "cuts"
      · subst q3; exact hm _ (by decide) (by decide) (by decide) (by decide)
      by_cases q4 : z = Str.ofString "rows"
      · subst q4; exact hm _ (by decide) (by decide) (by decide) (by decide)
      by_cases q5 : z = Str.ofString "wins"
      · subst q5; exact hm1
      simp only [if_neg q1, if_neg q2, if_neg q3, if_neg q4, if_neg q5]
    refine turnK w mean mg mb m₁ ((I, oI) :: rest) c1 c2 c3 Wn Fi Cu St Rw (rk i) o2 o3 i (cf i) (sf i) spot tv t3 (t4 i) (t5 i) (accK xf bf 1 cf i) (accK xf af (-1) cf i) fv cv sv wv (rv i) n0 n2 n3 n4 n5 (rn i)
      (xf i) (af i) (bf i) (Thf i) (nf i) (tf i) d2 d3 ⟨by lia, by lia⟩ k1 k2 (by simpa using k3) (by simpa using k4) (by simpa using k5)
      (fun j hjc => ⟨(hj i hi3 j hjc).1, (hj i hi3 j hjc).2.1, (hj i hi3 j hjc).2.2.1, .tail _ (hj i hi3 j hjc).2.2.2⟩) (nW (Fi, PySem.W.listOf fv n2) (by k_mem)) (nW (Cu, PySem.W.listOf cv n3) (by k_mem)) (nW (St, PySem.W.listOf sv n4) (by k_mem)) (nW (Rw, PySem.W.listOf wv n5) (by k_mem)) (nW (rk i, PySem.W.listOf (rv i) (rn i)) (by repeat (first | exact k6 | refine List.Mem.tail _ ?_))) (nW (c2, o2) (by k_mem)) (nW (c3, o3) (by k_mem))
      (List.forall_mem_cons.mpr ⟨hIW, fun y hy => nW y (by repeat (first | exact hy | refine List.Mem.tail _ ?_))⟩) _ _ _ _ _ _ _ _ _ _ _ _ _ B' F4 X (newsSub N3 (permD k6)) T ?_ ?_ ?_
    · ktr_room
    · ktr_units
    · rintro f m' nw h' tk' F5 N5 ⟨rfl, hm', n0'', rfl⟩
      refine TurnEnd.mk (nw := (Wn, PySem.W.listOf #[.bool (accK xf bf 1 cf (i + 1)), .bool (accK xf af (-1) cf (i + 1))] n0'') :: (Fi, PySem.W.listOf fv n2) :: (Cu, PySem.W.listOf cv n3) :: (St, PySem.W.listOf sv n4) :: (Rw, PySem.W.listOf wv n5) :: (c2, o2) :: (c3, o3) :: rest) F5 (newsSub N5 (by simp only [accK]; exact permD2)) (fun _ h => nomatch h) ?_ ⟨n0'', ⟨?_, fun z h1 h2 h3 h4 => ?_⟩, rfl⟩
      · intro y hy
        simp only [List.mem_cons] at hy
        rcases hy with rfl | hy
        · exact (Ne.symm hIW : Wn ≠ I)
        · exact hn y (by simp only [List.mem_cons]; exact .inr hy)
      · rw [hm' _ (by decide) (by decide)]; rfl
      · rw [hm' z h3 h4]
        simp only [if_neg h2, if_neg h1]
        rw [hm z h1 h2 h3 h4]
        by_cases q2 : z = Str.ofString "first"
        · subst q2; rfl
        by_cases q3 : z = Str.ofString "cuts"
        · subst q3; rfl
        by_cases q4 : z = Str.ofString "rows"
        · subst q4; rfl
        simp only [if_neg q2, if_neg q3, if_neg q4]
  case done =>
    rintro m' nw h' tk ⟨n0, hm, rfl⟩ F' N'
    dsimp only
    exact wpAny_execs_nil (hret _ _ _ _ _ F' N' ⟨rfl, Wn, n0, hm, nW, rfl⟩)
end Mine
end

section
open PySem PySem.W PyProof.Rows PySem.Spec PySem.Calls
set_option maxRecDepth 100000
set_option maxHeartbeats 4000000
namespace Mine
theorem turnD3 (w : World) (mean : ExcName → Option Value) (mg mb : Str → Option Value) (B : Str → Option Value) (rest : List (Addr × Obj)) (c1 c2 c3 Fi Wn Cu Pc p0 p1 p2 : Addr) (C0 C1 C2 P0 P1 P2 : Int) (t0 t1 t2 u0 u1 u2 : Tok) (fv cv pv v0 v1 v2 : Array Value) (oW : Obj) (n0 n1 n2 m0 m1 m2 : Nat)
    (hp0 : pv[Int.toNat 0]? = some (.ref p0)) (hp1 : pv[Int.toNat 1]? = some (.ref p1)) (hp2 : pv[Int.toNat 2]? = some (.ref p2))
    (hC0 : cv[Int.toNat 0]? = some (.int C0 t0)) (hC1 : cv[Int.toNat 1]? = some (.int C1 t1)) (hC2 : cv[Int.toNat 2]? = some (.int C2 t2))
    (b0 : 0 ≤ C0 ∧ C0 < 10) (b1 : 0 ≤ C1 ∧ C1 < 10) (b2 : 0 ≤ C2 ∧ C2 < 10)
    (hP0 : v0[C0.toNat]? = some (.int P0 u0)) (hP1 : v1[C1.toNat]? = some (.int P1 u1)) (hP2 : v2[C2.toNat]? = some (.int P2 u2)) (hfv : fv.size < 1000)
    (e0 : @Ne Nat Wn Fi) (e1 : @Ne Nat Cu Fi) (e2 : @Ne Nat Pc Fi) (e3 : @Ne Nat p0 Fi) (e4 : @Ne Nat p1 Fi) (e5 : @Ne Nat p2 Fi) (hr : ∀ y ∈ rest, y.1 ≠ Fi) :
    SegC 40 w mean mg mb (cells3 c1 c2 c3) [stAt (forBody (stAt lawD.body 10)) 3, stAt (forBody (stAt lawD.body 10)) 4]
      (fun z => if z = Str.ofString "first" then some (.ref Fi) else if z = Str.ofString "wins" then some (.ref Wn) else if z = Str.ofString "cuts" then some (.ref Cu) else if z = Str.ofString "places" then some (.ref Pc) else B z)
      ((Fi, PySem.W.listOf fv n0) :: (Wn, oW) :: (Cu, PySem.W.listOf cv n1) :: (Pc, PySem.W.listOf pv n2) :: (p0, PySem.W.listOf v0 m0) :: (p1, PySem.W.listOf v1 m1) :: (p2, PySem.W.listOf v2 m2) :: rest)
      (fun f m' nw => f = .next ∧ ∃ n0' t, (∀ z, m' z = if z = Str.ofString "total" then some (.int ((P0 + P1 + P2 + 768).fmod 1536 - 768) t) else if z = Str.ofString "first" then some (.ref Fi) else if z = Str.ofString "wins" then some (.ref Wn) else if z = Str.ofString "cuts" then some (.ref Cu) else if z = Str.ofString "places" then some (.ref Pc) else B z) ∧
        nw = (Fi, PySem.W.listOf (fv.push (.ref Wn)) n0') :: (Wn, oW) :: (Cu, PySem.W.listOf cv n1) :: (Pc, PySem.W.listOf pv n2) :: (p0, PySem.W.listOf v0 m0) :: (p1, PySem.W.listOf v1 m1) :: (p2, PySem.W.listOf v2 m2) :: rest) := by
  w_top off
  unfold SegC; k_fill
  intro dp un gd a' ccd outer A₀ base h₀ L s Q E B' F X N T hd hu hret
  unfold stAt lawD lawQ
  dsimp only [List.getD, List.getElem?_cons_succ, List.getElem?_cons_zero, Option.getD, forBody, cells3]
  repeat' ((fail_if_success (with_reducible show wpAny _ _ (pyIter _) _ _ _)); first | (k_unfold; (try dsimp only)) | (first | with_reducible (k_here; (with_reducible show wpAny _ _ (subscriptTail _ _ (Value.ref _) (Value.int _ _)) _ _ _); k_dflt (refine item_list ⟨_, News.get (by assumption) (by k_mem), rfl, _, rfl⟩ (by lia) (by lia) (by first | with_reducible assumption | rfl) ?_)) | with_reducible ((with_reducible show wpAny _ _ (subscriptTail (PySem.Expr.Subscript _ _ _) _ _ _) _ _ _); k_here; k_dflt (refine kba_turn (value' := PySem.Expr.Name (PySem.Str.ofString "_") ⟨0, 0, 0, 0⟩) (fun _ => rfl) ?_)) | walk1) | (dsimp only; (first | with_reducible (k_here; (with_reducible show wpAny _ _ (subscriptTail _ _ (Value.ref _) (Value.int _ _)) _ _ _); k_dflt (refine item_list ⟨_, News.get (by assumption) (by k_mem), rfl, _, rfl⟩ (by lia) (by lia) (by first | with_reducible assumption | rfl) ?_)) | with_reducible ((with_reducible show wpAny _ _ (subscriptTail (PySem.Expr.Subscript _ _ _) _ _ _) _ _ _); k_here; k_dflt (refine kba_turn (value' := PySem.Expr.Name (PySem.Str.ofString "_") ⟨0, 0, 0, 0⟩) (fun _ => rfl) ?_)) | walk1)) | (leave1; try dsimp only))
  rename Fr _ _ _ _ => F1
  rename News _ _ _ _ => N1
  exact hret _ _ _ _ _ F1 N1 ⟨rfl, _, _, fun z => rfl, rfl⟩
end Mine
end

section
open PySem PySem.W PyProof.Rows PySem.Spec PySem.Calls
set_option maxRecDepth 100000
set_option maxHeartbeats 4000000
namespace Mine
theorem news_drop1 {h₀ h : Heap} {L : Addr} {a : Addr × Obj} {r : List (Addr × Obj)} (N : News h₀ L h (a :: r)) : News h₀ L h r := fun p hp => N p (.tail _ hp)
theorem turnG2 (w : World) (mean : ExcName → Option Value) (mg mb : Str → Option Value) (B : Str → Option Value) (rest : List (Addr × Obj)) (c1 c2 c3 Wn : Addr) (le mo : Int) (t3 t4 : Tok) (p q : Bool) (n0 : Nat)
    (hp : p = decide (le < 256)) (hq : q = decide (mo < 256)) (bl : -20000 ≤ le ∧ le ≤ 20000) (bm : -20000 ≤ mo ∧ mo ≤ 20000) :
    SegC 20 w mean mg mb (cells3 c1 c2 c3) [stAt (forBody (stAt (forBody (stAt lawD.body 10)) 5)) 1, stAt (forBody (stAt (forBody (stAt lawD.body 10)) 5)) 2]
      (fun z => if z = Str.ofString "less" then some (.int le t3) else if z = Str.ofString "more" then some (.int mo t4) else if z = Str.ofString "wins" then some (.ref Wn) else B z)
      ((Wn, PySem.W.listOf #[.bool p, .bool q] n0) :: rest)
      (fun f m' nw => f = .next ∧ m' = (fun z => if z = Str.ofString "less" then some (.int le t3) else if z = Str.ofString "more" then some (.int mo t4) else if z = Str.ofString "wins" then some (.ref Wn) else B z) ∧ nw = (Wn, PySem.W.listOf #[.bool p, .bool q] n0) :: rest) := by
  w_top off
  unfold SegC; k_fill
  intro dp un gd a' ccd outer A₀ base h₀ L s Q E B' F X N T hd hu hret
  unfold stAt lawD lawQ
  dsimp only [List.getD, List.getElem?_cons_succ, List.getElem?_cons_zero, Option.getD, forBody, cells3]
  repeat' (first | (k_unfold; (try dsimp only)) | (first | with_reducible (k_here; (with_reducible show wpAny _ _ (call (Value.ref 55) [Value.int _ _] _) _ _ _); k_dflt (refine' use (is55 _ _ _ _ _ _ _) ?hB ?hF ?hX ?hN ?hT ?hp ?hd ?hu ?_; (case hB => k_asm); (case hF => k_asm); (case hX => k_asm); (case hN => k_asm); (case hT => k_asm); (case hp => trivial); (case hd => ktr_room); (case hu => ktr_units); k_whole); intro r2z9 n2z9 h2z9 tk2z9 F2z9 N2z9 hR2z9; obtain ⟨e21z9, e22z9⟩ := hR2z9; subst e21z9; subst e22z9; (try dsimp only); (try k_sweep)) | with_reducible (k_here; (with_reducible show wpAny _ _ (call (Value.ref 48) [Value.int _ _] _) _ _ _); k_dflt (refine' use (is48 _ _ _ _ _ _ _) ?hB ?hF ?hX ?hN ?hT ?hp ?hd ?hu ?_; (case hB => k_asm); (case hF => k_asm); (case hX => k_asm); (case hN => k_asm); (case hT => k_asm); (case hp => trivial); (case hd => ktr_room); (case hu => ktr_units); k_whole); intro r2z9 n2z9 h2z9 tk2z9 F2z9 N2z9 hR2z9; obtain ⟨e21z9, e22z9⟩ := hR2z9; subst e21z9; subst e22z9; (try dsimp only); (try k_sweep)) | walk1) | (dsimp only; (first | with_reducible (k_here; (with_reducible show wpAny _ _ (call (Value.ref 55) [Value.int _ _] _) _ _ _); k_dflt (refine' use (is55 _ _ _ _ _ _ _) ?hB ?hF ?hX ?hN ?hT ?hp ?hd ?hu ?_; (case hB => k_asm); (case hF => k_asm); (case hX => k_asm); (case hN => k_asm); (case hT => k_asm); (case hp => trivial); (case hd => ktr_room); (case hu => ktr_units); k_whole); intro r2z9 n2z9 h2z9 tk2z9 F2z9 N2z9 hR2z9; obtain ⟨e21z9, e22z9⟩ := hR2z9; subst e21z9; subst e22z9; (try dsimp only); (try k_sweep)) | with_reducible (k_here; (with_reducible show wpAny _ _ (call (Value.ref 48) [Value.int _ _] _) _ _ _); k_dflt (refine' use (is48 _ _ _ _ _ _ _) ?hB ?hF ?hX ?hN ?hT ?hp ?hd ?hu ?_; (case hB => k_asm); (case hF => k_asm); (case hX => k_asm); (case hN => k_asm); (case hT => k_asm); (case hp => trivial); (case hd => ktr_room); (case hu => ktr_units); k_whole); intro r2z9 n2z9 h2z9 tk2z9 F2z9 N2z9 hR2z9; obtain ⟨e21z9, e22z9⟩ := hR2z9; subst e21z9; subst e22z9; (try dsimp only); (try k_sweep)) | walk1)) | (leave1; try dsimp only))
  all_goals subst hp
  all_goals subst hq
  all_goals first
    | (rename News _ _ _ _ => N9
       rename Fr _ _ _ _ => F9
       exact hret _ _ _ _ _ F9 N9 ⟨rfl, rfl, rfl⟩)
    | (exfalso
       rename (_ = true) => hx
       rw [bne_iff_ne] at hx
       refine hx ?_
       first
         | rfl
         | exact decide_eq_decide.mpr (by omega)
         | (rw [← decide_not]; exact decide_eq_decide.mpr (by omega)))
theorem turnG (w : World) (mean : ExcName → Option Value) (mg mb : Str → Option Value) (B : Str → Option Value) (rest : List (Addr × Obj)) (c1 c2 c3 Wn : Addr) (scale total : Int) (t1 t2 : Tok) (p q : Bool) (n0 : Nat)
    (hp : p = decide (0 < total)) (hq : q = decide (total < 0)) (bt : -1000 ≤ total ∧ total ≤ 1000) (hs : scale = 1 ∨ scale = 640) :
    SegC 20 w mean mg mb (cells3 c1 c2 c3) (forBody (stAt (forBody (stAt lawD.body 10)) 5))
      (fun z => if z = Str.ofString "scale" then some (.int scale t1) else if z = Str.ofString "total" then some (.int total t2) else if z = Str.ofString "wins" then some (.ref Wn) else B z)
      ((Wn, PySem.W.listOf #[.bool p, .bool q] n0) :: rest)
      (fun f m' nw => f = .next ∧ (∀ z, z ≠ Str.ofString "less" → z ≠ Str.ofString "more" → m' z = if z = Str.ofString "scale" then some (.int scale t1) else if z = Str.ofString "total" then some (.int total t2) else if z = Str.ofString "wins" then some (.ref Wn) else B z) ∧ nw = (Wn, PySem.W.listOf #[.bool p, .bool q] n0) :: rest) := by
  unfold SegC; k_fill
  intro dp un gd a' ccd outer A₀ base h₀ L s Q E B' F X N T hd hu hret
  unfold stAt lawD lawQ
  dsimp only [List.getD, List.getElem?_cons_succ, List.getElem?_cons_zero, Option.getD, forBody, cells3]
  have hwin : ∀ z, (if z = Str.ofString "scale" then some (Value.int scale t1) else if z = Str.ofString "total" then some (.int total t2) else if z = Str.ofString "wins" then some (.ref Wn) else B z) = (if z = Str.ofString "wins" then some (.ref Wn) else if z = Str.ofString "scale" then some (Value.int scale t1) else if z = Str.ofString "total" then some (.int total t2) else B z) := fun z => by
    by_cases w1 : z = Str.ofString "wins"
    · subst w1; rfl
    simp only [if_neg w1]
  rcases hs with rfl | rfl
  all_goals (repeat' ((fail_if_success (with_reducible show wpAny _ _ (execs [Stmt.If _ _ _ _, Stmt.If _ _ _ _] _) _ _ _)); first | (k_unfold; (try dsimp only)) | (first | with_reducible (k_here; (with_reducible show wpAny _ _ (call (Value.ref 55) [Value.int _ _] _) _ _ _); k_dflt (refine' use (is55 _ _ _ _ _ _ _) ?hB ?hF ?hX ?hN ?hT ?hp ?hd ?hu ?_; (case hB => k_asm); (case hF => k_asm); (case hX => k_asm); (case hN => k_asm); (case hT => k_asm); (case hp => trivial); (case hd => ktr_room); (case hu => ktr_units); k_whole); intro r2z9 n2z9 h2z9 tk2z9 F2z9 N2z9 hR2z9; obtain ⟨e21z9, e22z9⟩ := hR2z9; subst e21z9; subst e22z9; (try dsimp only); (try k_sweep)) | with_reducible (k_here; (with_reducible show wpAny _ _ (call (Value.ref 48) [Value.int _ _] _) _ _ _); k_dflt (refine' use (is48 _ _ _ _ _ _ _) ?hB ?hF ?hX ?hN ?hT ?hp ?hd ?hu ?_; (case hB => k_asm); (case hF => k_asm); (case hX => k_asm); (case hN => k_asm); (case hT => k_asm); (case hp => trivial); (case hd => ktr_room); (case hu => ktr_units); k_whole); intro r2z9 n2z9 h2z9 tk2z9 F2z9 N2z9 hR2z9; obtain ⟨e21z9, e22z9⟩ := hR2z9; subst e21z9; subst e22z9; (try dsimp only); (try k_sweep)) | walk1) | (dsimp only; (first | with_reducible (k_here; (with_reducible show wpAny _ _ (call (Value.ref 55) [Value.int _ _] _) _ _ _); k_dflt (refine' use (is55 _ _ _ _ _ _ _) ?hB ?hF ?hX ?hN ?hT ?hp ?hd ?hu ?_; (case hB => k_asm); (case hF => k_asm); (case hX => k_asm); (case hN => k_asm); (case hT => k_asm); (case hp => trivial); (case hd => ktr_room); (case hu => ktr_units); k_whole); intro r2z9 n2z9 h2z9 tk2z9 F2z9 N2z9 hR2z9; obtain ⟨e21z9, e22z9⟩ := hR2z9; subst e21z9; subst e22z9; (try dsimp only); (try k_sweep)) | with_reducible (k_here; (with_reducible show wpAny _ _ (call (Value.ref 48) [Value.int _ _] _) _ _ _); k_dflt (refine' use (is48 _ _ _ _ _ _ _) ?hB ?hF ?hX ?hN ?hT ?hp ?hd ?hu ?_; (case hB => k_asm); (case hF => k_asm); (case hX => k_asm); (case hN => k_asm); (case hT => k_asm); (case hp => trivial); (case hd => ktr_room); (case hu => ktr_units); k_whole); intro r2z9 n2z9 h2z9 tk2z9 F2z9 N2z9 hR2z9; obtain ⟨e21z9, e22z9⟩ := hR2z9; subst e21z9; subst e22z9; (try dsimp only); (try k_sweep)) | walk1)) | (leave1; try dsimp only)))
  all_goals rename News _ _ _ _ => N9
  all_goals rename Fr _ _ _ _ => F9
  all_goals simp only [hwin] at F9
  all_goals refine turnG2 w mean mg mb (fun z => if z = Str.ofString "scale" then some (Value.int _ t1) else if z = Str.ofString "total" then some (.int total t2) else B z) rest c1 c2 c3 Wn _ _ _ _ p q n0 ?_ ?_ ?_ ?_ _ _ _ _ _ _ _ _ _ _ _ _ _ B' F9 X (news_drop1 N9) T ?_ ?_ ?_
  all_goals first
    | (rw [hp]; exact decide_eq_decide.mpr (by first | exact sclA _ | exact sclB _))
    | (rw [hq]; exact decide_eq_decide.mpr (by first | exact sclC _ | exact sclD _))
    | (first | exact rngA bt | exact rngB bt | exact rngC bt | exact rngD bt)
    | ktr_room
    | ktr_units
    | (rintro f m' nw h' tk' F' N' ⟨rfl, rfl, rfl⟩
       exact hret _ _ _ _ _ F' N' ⟨rfl, fun z h1 h2 => by (repeat (refine (if_neg (by assumption)).trans ?_)); exact (hwin z).symm, rfl⟩)
end Mine
end

section
open PySem PySem.W PyProof.Rows PySem.Spec PySem.Calls
set_option maxRecDepth 100000
set_option maxHeartbeats 4000000
namespace Mine
theorem turnD4 (w : World) (mean : ExcName → Option Value) (mg mb : Str → Option Value) (B : Str → Option Value) (rest : List (Addr × Obj)) (c1 c2 c3 Wn : Addr) (total : Int) (t2 : Tok) (p q : Bool) (n0 : Nat)
    (hp : p = decide (0 < total)) (hq : q = decide (total < 0)) (bt : -1000 ≤ total ∧ total ≤ 1000) :
    SegC 40 w mean mg mb (cells3 c1 c2 c3) [stAt (forBody (stAt lawD.body 10)) 5]
      (fun z => if z = Str.ofString "total" then some (.int total t2) else if z = Str.ofString "wins" then some (.ref Wn) else B z)
      ((Wn, PySem.W.listOf #[.bool p, .bool q] n0) :: rest)
      (fun f m' nw => f = .next ∧ (∀ z, z ≠ Str.ofString "scale" → z ≠ Str.ofString "less" → z ≠ Str.ofString "more" → m' z = if z = Str.ofString "total" then some (.int total t2) else if z = Str.ofString "wins" then some (.ref Wn) else B z) ∧ nw = (Wn, PySem.W.listOf #[.bool p, .bool q] n0) :: rest) := by
  w_top off
  unfold SegC; k_fill
  intro dp un gd a' ccd outer A₀ base h₀ L s Q E B' F X N T hd hu hret
  unfold stAt lawD lawQ
  dsimp only [List.getD, List.getElem?_cons_succ, List.getElem?_cons_zero, Option.getD, forBody, cells3]
  repeat' ((fail_if_success (with_reducible show wpAny _ _ (pyIter _) _ _ _)); first | (k_unfold; (try dsimp only)) | (first | with_reducible ((with_reducible show wpAny _ _ (exec (Stmt.For (Expr.Name _ _) _ _ _ _) _) _ _ _); (k_here; k_dflt (refine wpAny_For ?_ (by intro _; with_unfolding_all rfl)))) | walk1) | (dsimp only; (first | with_reducible ((with_reducible show wpAny _ _ (exec (Stmt.For (Expr.Name _ _) _ _ _ _) _) _ _ _); (k_here; k_dflt (refine wpAny_For ?_ (by intro _; with_unfolding_all rfl)))) | walk1)) | (leave1; try dsimp only))
  rename Fr _ _ _ _ => F1
  rename News _ _ _ _ => N1
  dsimp only at F1 N1 ⊢
  rename (@LT.lt Nat _ Wn _ ∧ _) => l1
  refine loop_tuple (by rfl) F1 N1 (.head _) (fun i m' nw => (∀ z, z ≠ Str.ofString "scale" → z ≠ Str.ofString "less" → z ≠ Str.ofString "more" → m' z = if z = Str.ofString "total" then some (.int total t2) else if z = Str.ofString "wins" then some (.ref Wn) else B z) ∧ (Wn, PySem.W.listOf #[.bool p, .bool q] n0) ∈ nw ∧ ∀ y ∈ rest, y ∈ nw) ?h0 ?turn ?done
  case h0 => exact ⟨fun z h1 h2 h3 => rfl, by simp, fun y hy => by simp [hy]⟩
  case turn =>
    rintro i v m₁ nw h tk I oI hi ⟨hm, hW, hr⟩ hl hIl hn F2 N2
    obtain ⟨sc, tv, rfl, hs⟩ : ∃ sc tv, v = .int sc tv ∧ (sc = 1 ∨ sc = 640) := by
      match i, hi with
      | 0, hi => exact ⟨1, _, (Option.some.inj hi).symm, .inl rfl⟩
      | 1, hi => exact ⟨640, _, (Option.some.inj hi).symm, .inr rfl⟩
    refine wpAny_assign_Name (wpAny_storeName_local (by rfl) F2.ns (fun h₂ hn₂ hs₂ => ?_) (by rfl))
    have F3 := F2.set hn₂ hs₂
    have N3 := N2.set hs₂
    clear F2 N2 hn₂ hs₂ F1 N1
    have F4 : Fr h₀ L h₂ (fun z => if z = Str.ofString "scale" then some (.int sc tv) else if z = Str.ofString "total" then some (.int total t2) else if z = Str.ofString "wins" then some (.ref Wn) else m₁ z) := by
      refine (congrArg (Fr h₀ L h₂) (funext fun z => ?_)).mp F3
      by_cases q1 : z = Str.ofString "scale"
      · simp [q1]
      by_cases q2 : z = Str.ofString "total"
      · subst q2; exact hm _ (by decide) (by decide) (by decide)
      by_cases q3 : z = Str.ofString "wins"
      · subst q3; exact hm _ (by decide) (by decide) (by decide)
      simp [q1, q2, q3]
    refine turnG w mean mg mb m₁ ((I, oI) :: nw) c1 c2 c3 Wn sc total tv t2 p q n0 hp hq bt hs _ _ _ _ _ _ _ _ _ _ _ _ _ B' F4 X (fun y hy => ?_) T ?_ ?_ ?_
    · simp only [List.mem_cons] at hy
      rcases hy with rfl | rfl | hy
      · exact N3 _ (.tail _ hW)
      · exact N3 _ (by simp)
      · exact N3 _ (by simp [hy])
    · ktr_room
    · ktr_units
    · rintro f m' nw' h' tk' F5 N5 ⟨rfl, hm', rfl⟩
      refine TurnEnd.mk (nw := nw) F5 (fun y hy => N5 _ (.tail _ hy)) (fun y hy => by rw [List.mem_singleton.mp hy]; exact hl) hn ⟨fun z h1 h2 h3 => ?_, hW, hr⟩
      rw [hm' z h2 h3]
      simp only [if_neg h1]
      rw [hm z h1 h2 h3]
      by_cases q2 : z = Str.ofString "total"
      · simp [q2]
      by_cases q3 : z = Str.ofString "wins"
      · simp [q3]
      simp only [if_neg q2, if_neg q3]
  case done =>
    rintro m' nw h' tk ⟨hm, hW, hr⟩ hl F' N'
    dsimp only
    refine wpAny_execs_nil (hret _ _ _ _ _ F' (fun y hy => N' y ?_) ⟨rfl, hm, rfl⟩)
    rcases List.mem_cons.mp hy with rfl | hy
    · exact hW
    · exact hr y hy
end Mine
end

section
open PySem PySem.W PyProof.Rows PySem.Spec PySem.Calls
set_option maxRecDepth 100000
set_option maxHeartbeats 4000000
namespace Mine
theorem turnD5 (w : World) (mean : ExcName → Option Value) (mg mb : Str → Option Value) (B : Str → Option Value) (rest : List (Addr × Obj)) (c1 c2 c3 Wn : Addr) (total : Int) (t2 : Tok) (p q : Bool) (n0 : Nat)
    (hp : p = decide (0 < total)) (hq : q = decide (total < 0)) (bt : -1000 ≤ total ∧ total ≤ 1000) :
    SegC 40 w mean mg mb (cells3 c1 c2 c3) [stAt (forBody (stAt lawD.body 10)) 6]
      (fun z => if z = Str.ofString "total" then some (.int total t2) else if z = Str.ofString "wins" then some (.ref Wn) else B z)
      ((Wn, PySem.W.listOf #[.bool p, .bool q] n0) :: rest)
      (fun f m' nw => f = .next ∧ (∀ z, m' z = if z = Str.ofString "total" then some (.int total t2) else if z = Str.ofString "wins" then some (.ref Wn) else B z) ∧ nw = (Wn, PySem.W.listOf #[.bool p, .bool q] n0) :: rest) := by
  w_top off
  unfold SegC; k_fill
  intro dp un gd a' ccd outer A₀ base h₀ L s Q E B' F X N T hd hu hret
  unfold stAt lawD lawQ
  dsimp only [List.getD, List.getElem?_cons_succ, List.getElem?_cons_zero, Option.getD, forBody, cells3]
  repeat' ((fail_if_success (with_reducible show wpAny _ _ (pyIter _) _ _ _)); first | (k_unfold; (try dsimp only)) | (first | with_reducible (k_here; (with_reducible show wpAny _ _ (call (Value.ref 62) [Value.int _ _] _) _ _ _); k_dflt (refine' use (is62 _ _ _ _ _ _ _) ?hB ?hF ?hX ?hN ?hT ?hp ?hd ?hu ?_; (case hB => k_asm); (case hF => k_asm); (case hX => k_asm); (case hN => k_asm); (case hT => k_asm); (case hp => trivial); (case hd => ktr_room); (case hu => ktr_units); k_whole); intro r2z9 n2z9 h2z9 tk2z9 F2z9 N2z9 hR2z9; obtain ⟨e21z9, e22z9⟩ := hR2z9; subst e21z9; subst e22z9; (try dsimp only); (try k_sweep)) | walk1) | (dsimp only; (first | with_reducible (k_here; (with_reducible show wpAny _ _ (call (Value.ref 62) [Value.int _ _] _) _ _ _); k_dflt (refine' use (is62 _ _ _ _ _ _ _) ?hB ?hF ?hX ?hN ?hT ?hp ?hd ?hu ?_; (case hB => k_asm); (case hF => k_asm); (case hX => k_asm); (case hN => k_asm); (case hT => k_asm); (case hp => trivial); (case hd => ktr_room); (case hu => ktr_units); k_whole); intro r2z9 n2z9 h2z9 tk2z9 F2z9 N2z9 hR2z9; obtain ⟨e21z9, e22z9⟩ := hR2z9; subst e21z9; subst e22z9; (try dsimp only); (try k_sweep)) | walk1)) | (leave1; try dsimp only))
  · exfalso
    rename (_ = true) => hx
    subst hp
    subst hq
    rw [bne_iff_ne] at hx
    refine hx ?_
    rcases Int.lt_trichotomy total 0 with h | h | h
    · rw [show decide (total = 0) = false from decide_eq_false (by omega), show decide (total < 0) = true from decide_eq_true h]; simp
    · subst h; rfl
    · rw [show decide (total = 0) = false from decide_eq_false (by omega), show decide (0 < total) = true from decide_eq_true h]; simp
  · rename Fr _ _ _ _ => F9
    rename News _ _ _ _ => N9
    exact hret _ _ _ _ _ F9 (news_drop1 N9) ⟨rfl, fun z => rfl, rfl⟩
end Mine
end

section
open PySem PySem.W PyProof.Rows PySem.Spec PySem.Calls
set_option maxRecDepth 100000
set_option maxHeartbeats 4000000
namespace Mine
theorem bodyD : forBody (stAt lawD.body 10) = [stAt (forBody (stAt lawD.body 10)) 0] ++ ([stAt (forBody (stAt lawD.body 10)) 1, stAt (forBody (stAt lawD.body 10)) 2] ++ ([stAt (forBody (stAt lawD.body 10)) 3, stAt (forBody (stAt lawD.body 10)) 4] ++ ([stAt (forBody (stAt lawD.body 10)) 5] ++ [stAt (forBody (stAt lawD.body 10)) 6]))) := by rfl
/-- where the cuts of a spot lie -/
noncomputable abbrev cutC (spot : Int) (sf zf : Nat → Int) (k : Nat) : Int := (spot.fdiv (sf k)).fmod (zf k)
/-- the value that law finds in the sum of the places -/
noncomputable abbrev totC (pf : Nat → Nat → Int) (c : Nat → Int) : Int := (pf 0 (c 0).toNat + pf 1 (c 1).toNat + pf 2 (c 2).toNat + 768).fmod 1536 - 768
/-- the frames' names that a spot's turn writes -/
noncomputable def junkD (z : Str) : Prop := z = Str.ofString "cuts" ∨ z = Str.ofString "wins" ∨ z = Str.ofString "k" ∨ z = Str.ofString "there" ∨ z = Str.ofString "cut" ∨ z = Str.ofString "total" ∨ z = Str.ofString "scale" ∨ z = Str.ofString "less" ∨ z = Str.ofString "more"
theorem cut_bounds {spot s z : Int} (h0 : 0 ≤ spot) (hs : 1 ≤ s) (hz : 1 ≤ z) : 0 ≤ (spot.fdiv s).fmod z ∧ (spot.fdiv s).fmod z < z ∧ (spot.fdiv s).fmod z * s ≤ spot := by
  have hs0 := le01 hs
  have hz0 := le01 hz
  rw [Int.fdiv_eq_ediv_of_nonneg _ hs0, Int.fmod_eq_emod_of_nonneg _ hz0]
  have a := Int.emod_nonneg (spot / s) (by omega : z ≠ 0)
  have b := Int.emod_lt_of_pos (spot / s) (by omega : 0 < z)
  refine ⟨a, b, ?_⟩
  have c : (spot / s) % z ≤ spot / s := by
    rw [Int.emod_def]
    exact Int.sub_le_self _ (Int.mul_nonneg hz0 (Int.ediv_nonneg (Int.ediv_nonneg h0 hs0) hz0))
  have d : spot / s * s ≤ spot := Int.ediv_mul_le spot (by omega)
  exact Int.le_trans (Int.mul_le_mul_of_nonneg_right c hs0) d
theorem spot_bounds {spot s c : Int} {j : Nat} (hs : 1 ≤ s) (hj : (j : Int) < c) (hc : c * s ≤ spot) : 0 ≤ spot - (c - j) * s ∧ spot - (c - j) * s < spot := by
  have a : (c - j) * s ≤ c * s := Int.mul_le_mul_of_nonneg_right (by omega) (by omega)
  have b : 1 ≤ (c - j) * s := Int.le_trans (by omega : (1 : Int) ≤ 1 * s) (Int.mul_le_mul_of_nonneg_right (by omega) (by omega))
  omega
theorem turnD (w : World) (mean : ExcName → Option Value) (mg mb : Str → Option Value) (B : Str → Option Value) (rest : List (Addr × Obj)) (c1 c2 c3 Fi Sz St Rw Pc : Addr) (o1 o2 o3 : Obj) (spot : Int) (sf zf : Nat → Int) (ts tz : Nat → Tok) (t3 : Tok) (fv zv sv wv pv : Array Value) (n2 nz ns n5 np : Nat)
    (rk pk : Nat → Addr) (rv qv : Nat → Array Value) (rn qn : Nat → Nat) (xf pf : Nat → Nat → Int) (tf tq : Nat → Nat → Nat) (Thf : Nat → Addr) (nf : Nat → Nat) (W0 W1 : Nat → Bool)
    (d1 : o1.data = .cell (some (.ref Sz))) (d2 : o2.data = .cell (some (.ref St))) (d3 : o3.data = .cell (some (.int spot t3)))
    (b : 0 ≤ spot ∧ spot < 999) (hS : ∀ i, i < 3 → sv[i]? = some (.int (sf i) (ts i)) ∧ 1 ≤ sf i ∧ sf i ≤ 100) (hZ : ∀ i, i < 3 → zv[i]? = some (.int (zf i) (tz i)) ∧ 1 ≤ zf i ∧ zf i ≤ 8)
    (hrow : ∀ k, k < 3 → wv[k]? = some (.ref (rk k)) ∧ (rk k, PySem.W.listOf (rv k) (rn k)) ∈ rest ∧ ∀ j : Nat, (j : Int) + 1 < zf k → (rv k)[j]? = some (.int (xf k j) (tf k j)))
    (hpl : ∀ k, k < 3 → pv[k]? = some (.ref (pk k)) ∧ (pk k, PySem.W.listOf (qv k) (qn k)) ∈ rest ∧ ∀ j : Nat, (j : Int) < zf k → (qv k)[j]? = some (.int (pf k j) (tq k j)))
    (hfs : fv.size < 999) (hfst : ∀ t : Nat, (t : Int) < spot → fv[t]? = some (.ref (Thf t)) ∧ (Thf t, PySem.W.listOf #[.bool (W0 t), .bool (W1 t)] (nf t)) ∈ rest)
    (hne : ∀ y ∈ (Sz, PySem.W.listOf zv nz) :: (St, PySem.W.listOf sv ns) :: (Rw, PySem.W.listOf wv n5) :: (Pc, PySem.W.listOf pv np) :: (c1, o1) :: (c2, o2) :: (c3, o3) :: rest, y.1 ≠ Fi)
    (hG1 : accK xf (fun k j => W1 (spot - (cutC spot sf zf k - j) * sf k).toNat) 1 (cutC spot sf zf) 3 = decide (0 < totC pf (cutC spot sf zf)))
    (hG2 : accK xf (fun k j => W0 (spot - (cutC spot sf zf k - j) * sf k).toNat) (-1) (cutC spot sf zf) 3 = decide (totC pf (cutC spot sf zf) < 0)) :
    SegC 40 w mean mg mb (cells3 c1 c2 c3) (forBody (stAt lawD.body 10))
      (fun z => if z = Str.ofString "first" then some (.ref Fi) else if z = Str.ofString "rows" then some (.ref Rw) else if z = Str.ofString "places" then some (.ref Pc) else B z)
      ((Fi, PySem.W.listOf fv n2) :: (Sz, PySem.W.listOf zv nz) :: (St, PySem.W.listOf sv ns) :: (Rw, PySem.W.listOf wv n5) :: (Pc, PySem.W.listOf pv np) :: (c1, o1) :: (c2, o2) :: (c3, o3) :: rest)
      (fun f m' nw => f = .next ∧ ∃ Wn n0 n2', (∀ z, ¬ junkD z → m' z = if z = Str.ofString "first" then some (.ref Fi) else if z = Str.ofString "rows" then some (.ref Rw) else if z = Str.ofString "places" then some (.ref Pc) else B z) ∧ (∀ y ∈ (Fi, PySem.W.listOf fv n2) :: (Sz, PySem.W.listOf zv nz) :: (St, PySem.W.listOf sv ns) :: (Rw, PySem.W.listOf wv n5) :: (Pc, PySem.W.listOf pv np) :: (c1, o1) :: (c2, o2) :: (c3, o3) :: rest, y.1 ≠ Wn) ∧
        nw = (Wn, PySem.W.listOf #[.bool (decide (0 < totC pf (cutC spot sf zf))), .bool (decide (totC pf (cutC spot sf zf) < 0))] n0) :: (Fi, PySem.W.listOf (fv.push (.ref Wn)) n2') :: (Sz, PySem.W.listOf zv nz) :: (St, PySem.W.listOf sv ns) :: (Rw, PySem.W.listOf wv n5) :: (Pc, PySem.W.listOf pv np) :: (c1, o1) :: (c2, o2) :: (c3, o3) :: rest) := by
  rw [bodyD]
  have hb : ∀ k, k < 3 → 0 ≤ cutC spot sf zf k ∧ cutC spot sf zf k < zf k ∧ cutC spot sf zf k * sf k ≤ spot := fun k hk => cut_bounds (s := sf k) (z := zf k) b.1 (hS k hk).2.1 (hZ k hk).2.1
  refine SegC.seq (SegC.conv (turnD1 w mean mg mb (fun z => if z = Str.ofString "first" then some (.ref Fi) else if z = Str.ofString "rows" then some (.ref Rw) else if z = Str.ofString "places" then some (.ref Pc) else B z) ((Fi, PySem.W.listOf fv n2) :: (Rw, PySem.W.listOf wv n5) :: (Pc, PySem.W.listOf pv np) :: rest) c1 c2 c3 St Sz o1 o2 o3 spot sf zf ts tz t3 zv sv nz ns d1 d2 d3 (by omega) hS (fun i hi => ⟨(hZ i hi).1, (hZ i hi).2.1, by have := (hZ i hi).2.2; omega⟩)) (by omega) (fun z => rfl) ?s1 (fun _ _ _ h => h)) ?k1 (fun f m' nw h => .inl h.1)
  case s1 => lcg_sub
  case k1 =>
  rintro m1 nw1 ⟨-, D, cv, rfl, rfl, hD, hcv⟩
  have eD : ∀ y ∈ (Fi, PySem.W.listOf fv n2) :: (Sz, PySem.W.listOf zv nz) :: (St, PySem.W.listOf sv ns) :: (Rw, PySem.W.listOf wv n5) :: (Pc, PySem.W.listOf pv np) :: (c1, o1) :: (c2, o2) :: (c3, o3) :: rest, y.1 ≠ D := fun y hy => hD y ((show ∀ p ∈ _, p ∈ _ by lcg_sub) y hy)
  obtain ⟨t4, ht4⟩ := Classical.axiomOfChoice (fun j : Nat => show ∃ t, j < 3 → cv[j]? = some (.int (cutC spot sf zf j) t) from
    if h : j < 3 then let ⟨t, e⟩ := hcv j h; ⟨t, fun _ => e⟩ else ⟨0, fun x => absurd x h⟩)
  clear hcv
  have ca : ∀ k, k < 3 → cv.toArray[k]? = some (.int (cutC spot sf zf k) (t4 k)) := fun k hk => by rw [List.getElem?_toArray]; exact ht4 k hk
  refine SegC.seq (SegC.conv (turnD2 w mean mg mb (fun z => if z = Str.ofString "places" then some (.ref Pc) else B z) ((Sz, PySem.W.listOf zv nz) :: (Pc, PySem.W.listOf pv np) :: (c1, o1) :: rest) c1 c2 c3 Fi D St Rw o2 o3 spot t3 fv cv.toArray sv wv n2 cv.length ns n5 rk rv rn (cutC spot sf zf) sf t4 ts xf
    (fun k j => W0 (spot - (cutC spot sf zf k - j) * sf k).toNat) (fun k j => W1 (spot - (cutC spot sf zf k - j) * sf k).toNat) (fun k j => Thf (spot - (cutC spot sf zf k - j) * sf k).toNat) (fun k j => nf (spot - (cutC spot sf zf k - j) * sf k).toNat) tf d2 d3
    (fun k hk => ⟨⟨(hb k hk).1, lt10 (hb k hk).2.1 (hZ k hk).2.2⟩, ⟨le01 (hS k hk).2.1, (hS k hk).2.2⟩, ca k hk, (hS k hk).1, (hrow k hk).1, by simp [(hrow k hk).2.1]⟩)
    (fun k hk j hj => by
      have sb := spot_bounds (hS k hk).2.1 hj (hb k hk).2.2
      have f1 := hfst (spot - (cutC spot sf zf k - j) * sf k).toNat (tcl sb)
      exact ⟨⟨sb.1, Int.lt_trans sb.2 (Int.lt_trans b.2 (by decide))⟩, (hrow k hk).2.2 j (j1lt hj (hb k hk).2.1), f1.1, by simp [f1.2]⟩)) (Nat.le_refl _) (fun z => ?f2) ?s2 (fun _ _ _ h => h)) ?k2 (fun f m' nw h => .inl h.1)
  case s2 => lcg_sub
  case f2 =>
    by_cases q1 : z = Str.ofString "cuts"
    · subst q1; rfl
    by_cases q2 : z = Str.ofString "first"
    · subst q2; rfl
    simp only [if_neg q1, if_neg q2]
  case k2 =>
  rintro m2 nw2 ⟨-, Wn, n0, ⟨hm2a, hm2⟩, hW, rfl⟩
  rw [hG1, hG2]
  have pm : ∀ k, k < 3 → (pk k, PySem.W.listOf (qv k) (qn k)) ∈ rest := fun k hk => (hpl k hk).2.1
  refine SegC.seq (SegC.conv (turnD3 w mean mg mb m2 ((Sz, PySem.W.listOf zv nz) :: (St, PySem.W.listOf sv ns) :: (Rw, PySem.W.listOf wv n5) :: (c1, o1) :: (c2, o2) :: (c3, o3) :: rest) c1 c2 c3 Fi Wn D Pc (pk 0) (pk 1) (pk 2) (cutC spot sf zf 0) (cutC spot sf zf 1) (cutC spot sf zf 2) (pf 0 (cutC spot sf zf 0).toNat) (pf 1 (cutC spot sf zf 1).toNat) (pf 2 (cutC spot sf zf 2).toNat) (t4 0) (t4 1) (t4 2)
    (tq 0 (cutC spot sf zf 0).toNat) (tq 1 (cutC spot sf zf 1).toNat) (tq 2 (cutC spot sf zf 2).toNat) fv cv.toArray pv (qv 0) (qv 1) (qv 2) (PySem.W.listOf #[.bool (decide (0 < totC pf (cutC spot sf zf))), .bool (decide (totC pf (cutC spot sf zf) < 0))] n0) n2 cv.length np (qn 0) (qn 1) (qn 2)
    (hpl 0 (by decide)).1 (hpl 1 (by decide)).1 (hpl 2 (by decide)).1 (ca 0 (by decide)) (ca 1 (by decide)) (ca 2 (by decide))
    ⟨(hb 0 (by decide)).1, lt10 (hb 0 (by decide)).2.1 (hZ 0 (by decide)).2.2⟩ ⟨(hb 1 (by decide)).1, lt10 (hb 1 (by decide)).2.1 (hZ 1 (by decide)).2.2⟩ ⟨(hb 2 (by decide)).1, lt10 (hb 2 (by decide)).2.1 (hZ 2 (by decide)).2.2⟩
    ((hpl 0 (by decide)).2.2 _ (tcl ⟨(hb 0 (by decide)).1, (hb 0 (by decide)).2.1⟩)) ((hpl 1 (by decide)).2.2 _ (tcl ⟨(hb 1 (by decide)).1, (hb 1 (by decide)).2.1⟩)) ((hpl 2 (by decide)).2.2 _ (tcl ⟨(hb 2 (by decide)).1, (hb 2 (by decide)).2.1⟩)) (Nat.lt_succ_of_lt hfs)
    (Ne.symm (hW (Fi, PySem.W.listOf fv n2) (by k_mem))) (Ne.symm (eD (Fi, PySem.W.listOf fv n2) (by k_mem))) (hne (Pc, PySem.W.listOf pv np) (by k_mem)) (hne (pk 0, PySem.W.listOf (qv 0) (qn 0)) (by simp only [List.mem_cons, pm 0 (by decide), true_or, or_true])) (hne (pk 1, PySem.W.listOf (qv 1) (qn 1)) (by simp only [List.mem_cons, pm 1 (by decide), true_or, or_true])) (hne (pk 2, PySem.W.listOf (qv 2) (qn 2)) (by simp only [List.mem_cons, pm 2 (by decide), true_or, or_true]))
    (fun y hy => hne y ((show ∀ p ∈ _, p ∈ _ by lcg_sub) y hy))) (Nat.le_refl _) (fun z => ?f3) ?s3 (fun _ _ _ h => h)) ?k3 (fun f m' nw h => .inl h.1)
  case s3 =>
    have p0 := pm 0 (by decide)
    have p1 := pm 1 (by decide)
    have p2 := pm 2 (by decide)
    refine List.forall_mem_cons.mpr ⟨by k_mem, List.forall_mem_cons.mpr ⟨by k_mem, List.forall_mem_cons.mpr ⟨by k_mem, List.forall_mem_cons.mpr ⟨by k_mem, ?_⟩⟩⟩⟩
    refine List.forall_mem_cons.mpr ⟨by simp only [List.mem_cons, p0, true_or, or_true], List.forall_mem_cons.mpr ⟨by simp only [List.mem_cons, p1, true_or, or_true], List.forall_mem_cons.mpr ⟨by simp only [List.mem_cons, p2, true_or, or_true], ?_⟩⟩⟩
    lcg_sub
  case f3 =>
    by_cases q1 : z = Str.ofString "first"
    · subst q1; exact hm2 _ (by decide) (by decide) (by decide) (by decide)
    by_cases q2 : z = Str.ofString "wins"
    · subst q2; exact hm2a
    by_cases q3 : z = Str.ofString "cuts"
    · subst q3; exact hm2 _ (by decide) (by decide) (by decide) (by decide)
    by_cases q4 : z = Str.ofString "places"
    · subst q4; exact hm2 _ (by decide) (by decide) (by decide) (by decide)
    simp only [if_neg q1, if_neg q2, if_neg q3, if_neg q4]
  case k3 =>
  rintro m3 nw3 ⟨-, n2', t5, hm3, rfl⟩
  have bt : -1000 ≤ totC pf (cutC spot sf zf) ∧ totC pf (cutC spot sf zf) ≤ 1000 := by
    unfold totC
    exact totb _
  refine SegC.seq (SegC.conv (turnD4 w mean mg mb m3 ((Fi, PySem.W.listOf (fv.push (.ref Wn)) n2') :: (Sz, PySem.W.listOf zv nz) :: (St, PySem.W.listOf sv ns) :: (Rw, PySem.W.listOf wv n5) :: (Pc, PySem.W.listOf pv np) :: (c1, o1) :: (c2, o2) :: (c3, o3) :: rest) c1 c2 c3 Wn (totC pf (cutC spot sf zf)) t5 _ _ n0 rfl rfl bt) (Nat.le_refl _) (fun z => ?f4) ?s4 (fun _ _ _ h => h)) ?k4 (fun f m' nw h => .inl h.1)
  case s4 => lcg_sub
  case f4 =>
    by_cases q1 : z = Str.ofString "total"
    · subst q1; rw [hm3]; rfl
    by_cases q2 : z = Str.ofString "wins"
    · subst q2; rw [hm3]; rfl
    simp only [if_neg q1, if_neg q2]
  case k4 =>
  rintro m4 nw4 ⟨-, hm4, rfl⟩
  refine SegC.conv (turnD5 w mean mg mb m4 ((Fi, PySem.W.listOf (fv.push (.ref Wn)) n2') :: (Sz, PySem.W.listOf zv nz) :: (St, PySem.W.listOf sv ns) :: (Rw, PySem.W.listOf wv n5) :: (Pc, PySem.W.listOf pv np) :: (c1, o1) :: (c2, o2) :: (c3, o3) :: rest) c1 c2 c3 Wn (totC pf (cutC spot sf zf)) t5 _ _ n0 rfl rfl bt) (Nat.le_refl _) (fun z => ?f5) (fun y hy => hy) ?fin
  case f5 =>
    by_cases q1 : z = Str.ofString "total"
    · subst q1; exact hm4 _ (by decide) (by decide) (by decide)
    by_cases q2 : z = Str.ofString "wins"
    · subst q2; exact hm4 _ (by decide) (by decide) (by decide)
    simp only [if_neg q1, if_neg q2]
  case fin =>
    rintro f m5 nw5 ⟨rfl, hm5, rfl⟩
    refine ⟨rfl, Wn, n0, n2', fun z hz => ?_, fun y hy => hW y ((show ∀ p ∈ _, p ∈ _ by lcg_sub) y hy), rfl⟩
    unfold junkD at hz
    simp only [not_or] at hz
    obtain ⟨j1, j2, j3, j4, j5, j6, j7, j8, j9⟩ := hz
    rw [hm5 z, if_neg j6, if_neg j2, hm4 z j7 j8 j9, if_neg j6, if_neg j2, hm3 z, if_neg j6]
    by_cases q1 : z = Str.ofString "first"
    · simp only [q1, if_true]
    rw [if_neg q1, if_neg j2, if_neg j1, if_neg q1]
    by_cases q2 : z = Str.ofString "places"
    · subst q2; rfl
    rw [if_neg q2, hm2 z j2 j3 j4 j5, if_neg q1, if_neg j1]
end Mine
end

section
open PySem PySem.W PyProof.Rows PySem.Spec PySem.Calls
set_option maxRecDepth 100000
set_option maxHeartbeats 4000000
namespace Mine
/-- what a turn over the spots leaves -/
inductive JE (Fi Sz St Rw Pc c1 c2 c3 : Addr) (o1 o2 : Obj) (zv sv wv pv : Array Value) (nz ns n5 np : Nat) (sf zf : Nat → Int) (pf : Nat → Nat → Int) (rest : List (Addr × Obj)) (B : Str → Option Value) (i : Nat) (m' : Str → Option Value) (nw : List (Addr × Obj)) : Prop
  | mk (fv : Array Value) (n2' : Nat) (Thf : Nat → Addr) (nf : Nat → Nat) (o3' : Obj) (ths : List (Addr × Obj)) (v₀' : Option Value)
    (e0 : (∀ z, ¬ junkD z → m' z = if z = Str.ofString "first" then some (.ref Fi) else if z = Str.ofString "rows" then some (.ref Rw) else if z = Str.ofString "places" then some (.ref Pc) else B z))
    (e1 : fv.size = i)
    (e2 : (∀ t : Nat, t < i → fv[t]? = some (.ref (Thf t)) ∧ (Thf t, PySem.W.listOf #[.bool (decide (0 < totC pf (cutC (t : Int) sf zf))), .bool (decide (totC pf (cutC (t : Int) sf zf) < 0))] (nf t)) ∈ ths))
    (e3 : (∀ y ∈ ths, y.1 ≠ Fi ∧ y.1 ≠ c3))
    (e4 : o3'.data = .cell v₀')
    (e5 : nw = (c3, o3') :: (Fi, PySem.W.listOf fv n2') :: (Sz, PySem.W.listOf zv nz) :: (St, PySem.W.listOf sv ns) :: (Rw, PySem.W.listOf wv n5) :: (Pc, PySem.W.listOf pv np) :: (c1, o1) :: (c2, o2) :: (ths ++ rest)) : JE Fi Sz St Rw Pc c1 c2 c3 o1 o2 zv sv wv pv nz ns n5 np sf zf pf rest B i m' nw
theorem turnE (w : World) (mean : ExcName → Option Value) (mg mb : Str → Option Value) (B : Str → Option Value) (rest : List (Addr × Obj)) (c1 c2 c3 Fi Sz St Rw Pc : Addr) (o1 o2 o3 : Obj) (sf zf : Nat → Int) (ts tz : Nat → Tok) (v₀ : Option Value) (zv sv wv pv : Array Value) (n2 nz ns n5 np : Nat)
    (rk pk : Nat → Addr) (rv qv : Nat → Array Value) (rn qn : Nat → Nat) (xf pf : Nat → Nat → Int) (tf tq : Nat → Nat → Nat)
    (d1 : o1.data = .cell (some (.ref Sz))) (d2 : o2.data = .cell (some (.ref St))) (d3 : o3.data = .cell v₀)
    (hS : ∀ i, i < 3 → sv[i]? = some (.int (sf i) (ts i)) ∧ 1 ≤ sf i ∧ sf i ≤ 100) (hZ : ∀ i, i < 3 → zv[i]? = some (.int (zf i) (tz i)) ∧ 1 ≤ zf i ∧ zf i ≤ 8)
    (hrow : ∀ k, k < 3 → wv[k]? = some (.ref (rk k)) ∧ (rk k, PySem.W.listOf (rv k) (rn k)) ∈ rest ∧ ∀ j : Nat, (j : Int) + 1 < zf k → (rv k)[j]? = some (.int (xf k j) (tf k j)))
    (hpl : ∀ k, k < 3 → pv[k]? = some (.ref (pk k)) ∧ (pk k, PySem.W.listOf (qv k) (qn k)) ∈ rest ∧ ∀ j : Nat, (j : Int) < zf k → (qv k)[j]? = some (.int (pf k j) (tq k j)))
    (hne : ∀ y ∈ (Sz, PySem.W.listOf zv nz) :: (St, PySem.W.listOf sv ns) :: (Rw, PySem.W.listOf wv n5) :: (Pc, PySem.W.listOf pv np) :: (c1, o1) :: (c2, o2) :: rest, y.1 ≠ Fi) (hne3 : ∀ y ∈ (Sz, PySem.W.listOf zv nz) :: (St, PySem.W.listOf sv ns) :: (Rw, PySem.W.listOf wv n5) :: (Pc, PySem.W.listOf pv np) :: (c1, o1) :: (c2, o2) :: rest, y.1 ≠ c3) (hF3 : @Ne Nat c3 Fi) 
    (hG1 : ∀ spot : Int, 0 ≤ spot → spot < zf 0 * sf 0 → accK xf (fun k j => decide (totC pf (cutC ((spot - (cutC spot sf zf k - j) * sf k).toNat : Int) sf zf) < 0)) 1 (cutC spot sf zf) 3 = decide (0 < totC pf (cutC spot sf zf)))
    (hG2 : ∀ spot : Int, 0 ≤ spot → spot < zf 0 * sf 0 → accK xf (fun k j => decide (0 < totC pf (cutC ((spot - (cutC spot sf zf k - j) * sf k).toNat : Int) sf zf))) (-1) (cutC spot sf zf) 3 = decide (totC pf (cutC spot sf zf) < 0)) :
    SegC 50 w mean mg mb (cells3 c1 c2 c3) [stAt lawD.body 10]
      (fun z => if z = Str.ofString "first" then some (.ref Fi) else if z = Str.ofString "rows" then some (.ref Rw) else if z = Str.ofString "places" then some (.ref Pc) else B z)
      ((Fi, PySem.W.listOf #[] n2) :: (Sz, PySem.W.listOf zv nz) :: (St, PySem.W.listOf sv ns) :: (Rw, PySem.W.listOf wv n5) :: (Pc, PySem.W.listOf pv np) :: (c1, o1) :: (c2, o2) :: (c3, o3) :: rest)
      (fun f m' nw => f = .next) := by
  w_top off
  unfold SegC; k_fill
  intro dp un gd a' ccd outer A₀ base h₀ L s Q E B' F X N T hd hu hret
  obtain ⟨S0, S1, S2⟩ := hS 0 (by decide)
  obtain ⟨Z0, Z1, Z2⟩ := hZ 0 (by decide)
  have S0' : sv[Int.toNat 0]? = some (.int (sf 0) (ts 0)) := S0
  have Z0' : zv[Int.toNat 0]? = some (.int (zf 0) (tz 0)) := Z0
  generalize es : sf 0 = s0 at S0 S1 S2 S0'
  generalize ez : zf 0 = z0 at Z0 Z1 Z2 Z0'
  unfold stAt lawD lawQ 
  dsimp only [List.getD, List.getElem?_cons_succ, List.getElem?_cons_zero, Option.getD, forBody, cells3]
  repeat' ((fail_if_success (with_reducible show wpAny _ _ (pyIter _) _ _ _)); first | (k_unfold; (try dsimp only)) | (first | with_reducible ((with_reducible show wpAny _ _ (exec (Stmt.For (Expr.Name _ _) _ _ _ _) _) _ _ _); (k_here; k_dflt (refine wpAny_For ?_ (by intro _; with_unfolding_all rfl)))) | with_reducible (k_here; (with_reducible show wpAny _ _ (subscriptTail _ _ (Value.ref _) (Value.int _ _)) _ _ _); k_dflt (refine item_list ⟨_, News.get (by assumption) (by k_mem), rfl, _, rfl⟩ (by lia) (by lia) (by first | with_reducible assumption | rfl) ?_)) | walk1) | (dsimp only; (first | with_reducible ((with_reducible show wpAny _ _ (exec (Stmt.For (Expr.Name _ _) _ _ _ _) _) _ _ _); (k_here; k_dflt (refine wpAny_For ?_ (by intro _; with_unfolding_all rfl)))) | with_reducible (k_here; (with_reducible show wpAny _ _ (subscriptTail _ _ (Value.ref _) (Value.int _ _)) _ _ _); k_dflt (refine item_list ⟨_, News.get (by assumption) (by k_mem), rfl, _, rfl⟩ (by lia) (by lia) (by first | with_reducible assumption | rfl) ?_)) | walk1)) | (leave1; try dsimp only))
  rename IsRange _ _ _ _ _ _ _ _ => hr
  rename Fr _ _ _ _ => F1
  rename News _ _ _ _ => N1
  dsimp only at F1 N1 hr ⊢
  have zs : z0 * s0 ≤ 800 := Int.le_trans (Int.mul_le_mul Z2 S2 (Int.le_trans (by decide) S1) (by decide)) (by decide)
  have zs0 : 0 ≤ z0 * s0 := Int.mul_nonneg (Int.le_trans (by decide) Z1) (Int.le_trans (by decide) S1)
  rw [es, ez] at hG1 hG2
  refine loop_range (by rfl) F1 (news := (c3, o3) :: (Fi, PySem.W.listOf #[] n2) :: (Sz, PySem.W.listOf zv nz) :: (St, PySem.W.listOf sv ns) :: (Rw, PySem.W.listOf wv n5) :: (Pc, PySem.W.listOf pv np) :: (c1, o1) :: (c2, o2) :: rest) (fun y hy => N1 y ((show ∀ p ∈ _, p ∈ _ by lcg_sub) y hy)) hr zs0 (Int.lt_of_le_of_lt zs (by decide)) (fun i m' nw => JE Fi Sz St Rw Pc c1 c2 c3 o1 o2 zv sv wv pv nz ns n5 np sf zf pf rest B i m' nw) ?h0 ?turn ?done
  case h0 => exact ⟨#[], n2, fun _ => 0, fun _ => 0, o3, [], v₀, fun z _ => rfl, rfl, (fun t ht => absurd ht (Nat.not_lt_zero t)), (fun y hy => by cases hy), d3, rfl⟩
  case turn =>
    intro i m₁ nw h tk I oI tv hi J0 hIl hn F2 N2
    k_fold
    obtain ⟨fv, n2', Thf, nf, o3', ths, v₀', hm, hsz, hth, hnt, d3', rfl⟩ := J0
    have hIF : @Ne Nat I Fi := Ne.symm (hn (Fi, PySem.W.listOf fv n2') (by k_mem))
    have hI3 : @Ne Nat I c3 := Ne.symm (hn (c3, o3') (by k_mem))
    have q1 : ∀ y ∈ (Sz, PySem.W.listOf zv nz) :: (St, PySem.W.listOf sv ns) :: (Rw, PySem.W.listOf wv n5) :: (Pc, PySem.W.listOf pv np) :: (c1, o1) :: (c2, o2) :: (ths ++ rest), y.1 ≠ Fi := by
      intro y hy
      by_cases h9 : y ∈ ths
      · exact (hnt y h9).1
      · exact hne y (by simp only [List.mem_cons, List.mem_append, h9, false_or] at hy ⊢; exact hy)
    have q3 : ∀ y ∈ (Sz, PySem.W.listOf zv nz) :: (St, PySem.W.listOf sv ns) :: (Rw, PySem.W.listOf wv n5) :: (Pc, PySem.W.listOf pv np) :: (c1, o1) :: (c2, o2) :: (ths ++ rest), y.1 ≠ c3 := by
      intro y hy
      by_cases h9 : y ∈ ths
      · exact (hnt y h9).2
      · exact hne3 y (by simp only [List.mem_cons, List.mem_append, h9, false_or] at hy ⊢; exact hy)
    refine wpAny_assign_Name (store_cell F2 (o := o3') (r := (I, oI) :: (Fi, PySem.W.listOf fv n2') :: (Sz, PySem.W.listOf zv nz) :: (St, PySem.W.listOf sv ns) :: (Rw, PySem.W.listOf wv n5) :: (Pc, PySem.W.listOf pv np) :: (c1, o1) :: (c2, o2) :: (ths ++ rest)) (fun y hy => N2 y ((show ∀ p ∈ _, p ∈ _ by lcg_sub) y hy)) (List.forall_mem_cons.mpr ⟨hI3, List.forall_mem_cons.mpr ⟨Ne.symm hF3, q3⟩⟩) (by rfl) d3' (by rfl) (by rfl) fun h₂ o3'' F3 N3 d3'' => ?_)
    clear F2 N2 F1 N1
    have hin : (i : Int) < z0 * s0 := Int.lt_toNat.mp hi
    have F4 : Fr h₀ L h₂ (fun z => if z = Str.ofString "first" then some (.ref Fi) else if z = Str.ofString "rows" then some (.ref Rw) else if z = Str.ofString "places" then some (.ref Pc) else m₁ z) := by
      refine (congrArg (Fr h₀ L h₂) (funext fun z => ?_)).mp F3
      by_cases q1 : z = Str.ofString "first"
      · subst q1; rw [hm _ (by unfold junkD; decide)]; rfl
      by_cases q2 : z = Str.ofString "rows"
      · subst q2; rw [hm _ (by unfold junkD; decide)]; rfl
      by_cases q3 : z = Str.ofString "places"
      · subst q3; rw [hm _ (by unfold junkD; decide)]; rfl
      simp only [if_neg q1, if_neg q2, if_neg q3]
    refine turnD w mean mg mb m₁ ((I, oI) :: (ths ++ rest)) c1 c2 c3 Fi Sz St Rw Pc o1 o2 o3'' i sf zf ts tz tv fv zv sv wv pv n2' nz ns n5 np rk pk rv qv rn qn xf pf tf tq Thf nf (fun t => decide (0 < totC pf (cutC (t : Int) sf zf))) (fun t => decide (totC pf (cutC (t : Int) sf zf) < 0)) d1 d2 d3'' ⟨by lia, by lia⟩ hS hZ
      (fun k hk => ⟨(hrow k hk).1, by simp only [List.mem_cons, List.mem_append, (hrow k hk).2.1, or_true], (hrow k hk).2.2⟩)
      (fun k hk => ⟨(hpl k hk).1, by simp only [List.mem_cons, List.mem_append, (hpl k hk).2.1, or_true], (hpl k hk).2.2⟩)
      (by lia) (fun t ht => ⟨(hth t (by lia)).1, by simp only [List.mem_cons, List.mem_append, (hth t (by lia)).2, or_true, true_or]⟩) ?hne
      (hG1 i (Int.natCast_nonneg i) hin) (hG2 i (Int.natCast_nonneg i) hin) _ _ _ _ _ _ _ _ _ _ _ _ _ B' F4 X (fun y hy => N3 y ((show ∀ p ∈ _, p ∈ _ by lcg_sub) y hy)) T ?r1 ?r2 ?_
    case hne =>
      intro y hy
      by_cases h8 : y = (c3, o3'')
      · subst h8; exact hF3
      by_cases h9 : y = (I, oI)
      · subst h9; exact hIF
      exact q1 y (by simp only [List.mem_cons, h8, h9, false_or] at hy ⊢; exact hy)
    case r1 => ktr_room
    case r2 => ktr_units
    rintro f m' nw' h' tk' F5 N5 ⟨rfl, Wn, n0, n2'', hm', hWn, rfl⟩
    have hWF : @Ne Nat Wn Fi := Ne.symm (hWn (Fi, PySem.W.listOf fv n2') (by k_mem))
    have hW3 : @Ne Nat Wn c3 := Ne.symm (hWn (c3, o3'') (by k_mem))
    have hWI : @Ne Nat Wn I := Ne.symm (hWn (I, oI) (by k_mem))
    refine TurnEnd.mk (nw := (c3, o3'') :: (Fi, PySem.W.listOf (fv.push (.ref Wn)) n2'') :: (Sz, PySem.W.listOf zv nz) :: (St, PySem.W.listOf sv ns) :: (Rw, PySem.W.listOf wv n5) :: (Pc, PySem.W.listOf pv np) :: (c1, o1) :: (c2, o2) :: (((Wn, PySem.W.listOf #[.bool (decide (0 < totC pf (cutC (i : Int) sf zf))), .bool (decide (totC pf (cutC (i : Int) sf zf) < 0))] n0) :: ths) ++ rest)) F5 ?n1 (fun y hy => by cases hy) ?n2 ⟨fv.push (.ref Wn), n2'', (fun t => if t = i then Wn else Thf t), (fun t => if t = i then n0 else nf t), o3'', _, _, ?j1, ?j2, ?j3, ?j4, d3'', rfl⟩
    case n1 => exact fun y hy => N5 y ((show ∀ p ∈ _, p ∈ _ by rw [List.cons_append]; lcg_sub) y hy)
    case n2 =>
      intro y hy
      by_cases h7 : y = (Wn, PySem.W.listOf #[.bool (decide (0 < totC pf (cutC (i : Int) sf zf))), .bool (decide (totC pf (cutC (i : Int) sf zf) < 0))] n0)
      · subst h7; exact hWI
      by_cases h8 : y = (c3, o3'')
      · subst h8; exact Ne.symm hI3
      by_cases h9 : y = (Fi, PySem.W.listOf (fv.push (.ref Wn)) n2'')
      · subst h9; exact Ne.symm hIF
      exact hn y (by simp only [List.cons_append, List.mem_cons, h7, h8, h9, false_or] at hy ⊢; exact .inr (.inr hy))
    case j1 =>
      intro z hz
      rw [hm' z hz]
      by_cases q1 : z = Str.ofString "first"
      · simp [q1]
      by_cases q2 : z = Str.ofString "rows"
      · simp [q2]
      by_cases q3 : z = Str.ofString "places"
      · simp [q3]
      simp only [if_neg q1, if_neg q2, if_neg q3]
      rw [hm z hz]
      simp only [if_neg q1, if_neg q2, if_neg q3]
    case j2 => rw [Array.size_push, hsz]
    case j3 =>
      intro t ht
      by_cases h : t = i
      · subst h
        refine ⟨?_, by simp⟩
        rw [← hsz, Array.getElem?_push_size]; simp
      · simp only [if_neg h]
        have hlt := hth t (Nat.lt_of_le_of_ne (Nat.le_of_lt_succ ht) h)
        refine ⟨?_, .tail _ hlt.2⟩
        rw [Array.getElem?_push, if_neg (hsz ▸ h)]
        exact hlt.1
    case j4 => exact List.forall_mem_cons.mpr ⟨⟨hWF, hW3⟩, hnt⟩
  case done =>
    rintro m' nw h' tk _ F' N'
    dsimp only
    exact wpAny_execs_nil (hret _ _ _ _ _ F' N' rfl)
end Mine
end

section
set_option maxRecDepth 100000
set_option maxHeartbeats 4000000
namespace Mine
/-- the worth below cut j -/
noncomputable abbrev wv (pre : List Int) (j : Nat) : Int := (wSt pre).1.getD j 0
noncomputable abbrev wlast (pre : List Int) : Int := (wSt pre).1.getLastD 0
noncomputable abbrev wstep (pre : List Int) : Int := (wSt pre).2.2
noncomputable abbrev wmet (pre : List Int) : List Int := (wSt pre).2.1
structure GI (pre : List Int) : Prop where
  met : wmet pre = pre.filter (fun k => decide (k ≠ 0))
  pw : ∃ h : Nat, wstep pre * 2 ^ h = 64 ∧ (h + 1 ≤ (wmet pre).length ∨ h = 0)
  same : ∀ a, wmet pre = List.replicate (wmet pre).length a → wstep pre = 64
  dv : wstep pre ∣ wlast pre
  a1 : ∀ j : Nat, pre[j]? = some 1 → wv pre j + wstep pre ≤ wlast pre
  a2 : ∀ j : Nat, pre[j]? = some (-1) → wlast pre + wstep pre ≤ wv pre j
  b1 : (∃ j : Nat, pre[j]? = some 1 ∧ wlast pre = wv pre j + wstep pre) ∨ ((1 : Int) ∉ pre ∧ wlast pre ≤ 0 ∧ wstep pre = 64)
  b2 : (∃ j : Nat, pre[j]? = some (-1) ∧ wv pre j = wlast pre + wstep pre) ∨ ((-1 : Int) ∉ pre ∧ 0 ≤ wlast pre ∧ wstep pre = 64)
  bd : -(64 * (pre.length : Int)) ≤ wlast pre ∧ wlast pre ≤ 64 * (pre.length : Int)
theorem wv_end (pre : List Int) : wv pre pre.length = wlast pre := by
  have h := (wSt_len pre).1
  show (wSt pre).1.getD pre.length 0 = (wSt pre).1.getLastD 0
  generalize (wSt pre).1 = l at h
  rw [List.getD_eq_getElem?_getD, List.getLastD_eq_getLast?, List.getLast?_eq_getElem?, h]; simp
theorem wv_snoc (pre : List Int) (k : Int) {j : Nat} (hj : j ≤ pre.length) : wv (pre ++ [k]) j = wv pre j := by
  have h := (wSt_len pre).1
  show (wSt (pre ++ [k])).1.getD j 0 = (wSt pre).1.getD j 0
  rw [wSt_snoc]
  unfold wStep
  simp only
  rw [List.getD_eq_getElem?_getD, List.getElem?_append_left (by lia), List.getD_eq_getElem?_getD]
theorem wlast_snoc (pre : List Int) (k : Int) : wlast (pre ++ [k]) = wlast pre + k * wstep (pre ++ [k]) := by
  show (wSt (pre ++ [k])).1.getLastD 0 = _ + k * (wSt (pre ++ [k])).2.2
  rw [wSt_snoc]
  unfold wStep
  simp
theorem wmet_snoc (pre : List Int) {k : Int} (hk : k ≠ 0) : wmet (pre ++ [k]) = wmet pre ++ [k] := by
  show (wSt (pre ++ [k])).2.1 = _
  rw [wSt_snoc]; unfold wStep; simp [hk]
theorem wstep_snoc (pre : List Int) {k : Int} (hk : k ≠ 0) : wstep (pre ++ [k]) = if wmet pre ++ [k] = List.replicate (wmet pre ++ [k]).length k then wstep pre else (wstep pre).fdiv 2 := by
  show (wSt (pre ++ [k])).2.2 = _
  rw [wSt_snoc]; unfold wStep; simp [hk]
theorem get_lt {α : Type} {l : List α} {j : Nat} {x : α} (h : l[j]? = some x) : j < l.length := by
  rcases Nat.lt_or_ge j l.length with q | q
  · exact q
  · rw [List.getElem?_eq_none q] at h; cases h
theorem get_app {α : Type} {l : List α} {j : Nat} {x y : α} (h : l[j]? = some x) : (l ++ [y])[j]? = some x := by rw [List.getElem?_append_left (get_lt h)]; exact h
theorem gi_zero {pre : List Int} (G : GI pre) : GI (pre ++ [0]) := by
  have e0 : wmet (pre ++ [0]) = wmet pre := by show (wSt (pre ++ [0])).2.1 = _; rw [wSt_snoc]; unfold wStep; simp
  have e1 : wstep (pre ++ [0]) = wstep pre := by show (wSt (pre ++ [0])).2.2 = _; rw [wSt_snoc]; unfold wStep; simp
  have e2 : wlast (pre ++ [0]) = wlast pre := by rw [wlast_snoc]; simp
  have hg : ∀ (j : Nat) (x : Int), x ≠ 0 → (pre ++ [0])[j]? = some x → pre[j]? = some x := fun j x hx h => by
    rcases get_snoc h with q | ⟨_, q⟩
    · exact q
    · exact absurd q hx
  refine ⟨by rw [e0, List.filter_append, G.met]; simp, by rw [e0, e1]; exact G.pw, by rw [e0, e1]; exact G.same, by rw [e1, e2]; exact G.dv, fun j hj => ?_, fun j hj => ?_, ?_, ?_, ?_⟩
  · have q := hg j 1 (by decide) hj
    rw [e1, e2, wv_snoc pre 0 (Nat.le_of_lt (get_lt q))]; exact G.a1 j q
  · have q := hg j (-1) (by decide) hj
    rw [e1, e2, wv_snoc pre 0 (Nat.le_of_lt (get_lt q))]; exact G.a2 j q
  · rw [e1, e2]
    rcases G.b1 with ⟨j, h1, h2⟩ | ⟨h1, h2⟩
    · exact .inl ⟨j, get_app h1, by rw [wv_snoc pre 0 (Nat.le_of_lt (get_lt h1))]; exact h2⟩
    · exact .inr ⟨by simp [h1], h2⟩
  · rw [e1, e2]
    rcases G.b2 with ⟨j, h1, h2⟩ | ⟨h1, h2⟩
    · exact .inl ⟨j, get_app h1, by rw [wv_snoc pre 0 (Nat.le_of_lt (get_lt h1))]; exact h2⟩
    · exact .inr ⟨by simp [h1], h2⟩
  · rw [e2, List.length_append]
    have := G.bd
    simp only [List.length_cons, List.length_nil]
    lia
theorem mem_met {pre : List Int} (G : GI pre) {k : Int} (hk : k ≠ 0) : k ∈ wmet pre ↔ k ∈ pre := by
  rw [G.met, List.mem_filter]; simp [hk]
theorem pw_two (h : Nat) : (0 : Int) < 2 ^ h := Int.pow_pos (by decide)
theorem pw_gt {s : Int} {h : Nat} (e : s * 2 ^ h = 64) : 0 < s := Int.pos_of_mul_pos_left (e ▸ (by decide : (0 : Int) < 64)) (pw_two h)
theorem pw_le {s : Int} {h : Nat} (e : s * 2 ^ h = 64) : s ≤ 64 := Int.le_of_dvd (by decide) ⟨2 ^ h, e.symm⟩
theorem pw_even {s : Int} {h : Nat} (e : s * 2 ^ h = 64) (hh : h ≤ 5) : ∃ q, s = 2 * q ∧ q * 2 ^ (h + 1) = 64 ∧ 1 ≤ q := by
  obtain ⟨d, hd⟩ := Nat.exists_eq_add_of_le hh
  have e6 : (2 : Int) ^ (1 + d) * 2 ^ h = 64 := by rw [← Int.pow_add, Nat.add_assoc, Nat.add_comm d, ← hd]; rfl
  have es : s = 2 ^ (1 + d) := Int.eq_of_mul_eq_mul_right (Int.ne_of_gt (pw_two h)) (e.trans e6.symm)
  refine ⟨2 ^ d, by rw [es, Int.pow_add]; rfl, ?_, pw_two d⟩
  rw [← e6, ← Int.pow_add, ← Int.pow_add, Nat.add_comm h, ← Nat.add_assoc, Nat.add_comm d]
/-- one more edge: what the worths below it become -/
theorem bd_step {L n q k : Int} (h : -(64 * n) ≤ L ∧ L ≤ 64 * n) (q1 : 0 ≤ q) (q2 : q ≤ 64) (hk : k = 1 ∨ k = -1) : -(64 * (n + 1)) ≤ L + k * q ∧ L + k * q ≤ 64 * (n + 1) := by
  rcases hk with rfl | rfl <;> constructor <;> lia
theorem up1 {a b c : Int} (h : a + c ≤ b) (q : 0 ≤ c) : a + c ≤ b + 1 * c := by lia
theorem up2 {a b q : Int} (h : a + 2 * q ≤ b) (k : Int) (hk : k = 1 ∨ k = -1) (h1 : 1 ≤ q) : a + q ≤ b + k * q := by rcases hk with rfl | rfl <;> lia
theorem dn1 {a b c : Int} (h : b + c ≤ a) (q : 0 ≤ c) : b + -1 * c + c ≤ a := by lia
theorem dn2 {a b q : Int} (h : b + 2 * q ≤ a) (k : Int) (hk : k = 1 ∨ k = -1) (h1 : 1 ≤ q) : b + k * q + q ≤ a := by rcases hk with rfl | rfl <;> lia
theorem one_mul' {b c : Int} : b + c ≤ b + 1 * c := Int.le_of_eq (by rw [Int.one_mul])
theorem neg_mul' {b c : Int} : b + -1 * c + c ≤ b := Int.le_of_eq (by lia)
theorem neg_eq' {b c : Int} : b = b + -1 * c + c := by lia
theorem pm_ne {k x : Int} (hk : k = 1 ∨ k = -1) (hx : x = -1 ∨ x = 0 ∨ x = 1) (h0 : x ≠ 0) (h1 : x ≠ k) : x = -k := by
  rcases hk with rfl | rfl <;> rcases hx with rfl | rfl | rfl <;> first | rfl | exact absurd rfl h0 | exact absurd rfl h1
theorem pm_0 {k : Int} (hk : k = 1 ∨ k = -1) : k ≠ 0 := by rcases hk with rfl | rfl <;> decide
theorem pm_neg {k : Int} (hk : k = 1 ∨ k = -1) : -k ≠ k := by rcases hk with rfl | rfl <;> decide
theorem pm_neg0 {k : Int} (hk : k = 1 ∨ k = -1) : -k ≠ 0 := by rcases hk with rfl | rfl <;> decide
theorem low0 {b c : Int} (h : b ≤ 0) (q : 0 ≤ c) : b + -1 * c ≤ 0 := by lia
theorem up0 {b c : Int} (h : 0 ≤ b) (q : 0 ≤ c) : 0 ≤ b + 1 * c := by lia
theorem dbl1 {a b q : Int} (h : b = a + 2 * q) : b + -1 * q = a + q := by lia
theorem dbl2 {a b q : Int} (h : a = b + 2 * q) : a = b + 1 * q + q := by lia
theorem gi_step {pre : List Int} (G : GI pre) (hl : pre.length ≤ 6) {k : Int} (hk : k = 1 ∨ k = -1) (hp : ∀ x ∈ pre, x = -1 ∨ x = 0 ∨ x = 1) : GI (pre ++ [k]) := by
  have hk0 : k ≠ 0 := pm_0 hk
  have hmet : wmet (pre ++ [k]) = (pre ++ [k]).filter (fun k => decide (k ≠ 0)) := by rw [wmet_snoc pre hk0, List.filter_append, G.met]; simp [hk0]
  have hend : wv (pre ++ [k]) pre.length = wlast pre := by rw [wv_snoc pre k (Nat.le_refl _), wv_end]
  have hnew : (pre ++ [k])[pre.length]? = some k := List.getElem?_concat_length
  have hlast := wlast_snoc pre k
  have hlen : ((pre ++ [k]).length : Int) = pre.length + 1 := by rw [List.length_append]; rfl
  have ww : ∀ {j : Nat} {x : Int}, pre[j]? = some x → wv (pre ++ [k]) j = wv pre j := fun q => wv_snoc pre k (Nat.le_of_lt (get_lt q))
  by_cases hs : wmet pre ++ [k] = List.replicate (wmet pre ++ [k]).length k
  · have est : wstep (pre ++ [k]) = wstep pre := by rw [wstep_snoc pre hk0, if_pos hs]
    have hall : ∀ x ∈ wmet pre ++ [k], x = k := fun x hx => by rw [hs] at hx; exact List.eq_of_mem_replicate hx
    have hm1 : wmet pre = List.replicate (wmet pre).length k := List.eq_replicate_iff.mpr ⟨rfl, fun x hx => hall x (List.mem_append_left _ hx)⟩
    have s64 := G.same k hm1
    have noopp : ∀ x, x = -k → x ∉ pre := fun x e h => pm_neg hk (e ▸ hall x (List.mem_append_left _ ((mem_met G (e ▸ pm_neg0 hk)).mpr h)))
    have G1 := G.a1
    have G2 := G.a2
    have G3 := G.dv
    rw [est, s64] at hlast
    rw [s64] at G1 G2 G3
    refine ⟨hmet, ⟨0, by rw [est, s64]; rfl, .inr rfl⟩, fun a _ => by rw [est]; exact s64, ?_, fun j hj => ?_, fun j hj => ?_, ?_, ?_, by rw [hlast, hlen]; exact bd_step G.bd (by decide) (by decide) hk⟩ <;> rw [est, hlast, s64]
    · exact Int.dvd_add G3 (Int.dvd_mul_left _ _)
    · rcases get_snoc hj with q | ⟨q1, q2⟩
      · rw [ww q]
        rcases hk with rfl | rfl
        · exact up1 (G1 j q) (by decide)
        · exact absurd (List.mem_of_getElem? q) (noopp _ rfl)
      · subst q1; rw [hend]; subst q2; exact one_mul'
    · rcases get_snoc hj with q | ⟨q1, q2⟩
      · rw [ww q]
        rcases hk with rfl | rfl
        · exact absurd (List.mem_of_getElem? q) (noopp _ rfl)
        · exact dn1 (G2 j q) (by decide)
      · subst q1; rw [hend]; subst q2; exact neg_mul'
    · rcases hk with rfl | rfl
      · exact .inl ⟨pre.length, hnew, by rw [hend, Int.one_mul]⟩
      · have n1 : (1 : Int) ∉ pre := noopp _ rfl
        refine .inr ⟨fun h => (List.mem_append.mp h).elim n1 fun h => absurd (List.mem_singleton.mp h) (by decide), ?_, rfl⟩
        rcases G.b1 with ⟨j, h1, _⟩ | ⟨_, h2, _⟩
        · exact absurd (List.mem_of_getElem? h1) n1
        · exact low0 h2 (by decide)
    · rcases hk with rfl | rfl
      · have n1 : (-1 : Int) ∉ pre := noopp _ rfl
        refine .inr ⟨fun h => (List.mem_append.mp h).elim n1 fun h => absurd (List.mem_singleton.mp h) (by decide), ?_, rfl⟩
        rcases G.b2 with ⟨j, h1, _⟩ | ⟨_, h2, _⟩
        · exact absurd (List.mem_of_getElem? h1) n1
        · exact up0 h2 (by decide)
      · exact .inl ⟨pre.length, hnew, by rw [hend]; exact neg_eq'⟩
  · have est : wstep (pre ++ [k]) = (wstep pre).fdiv 2 := by rw [wstep_snoc pre hk0, if_neg hs]
    obtain ⟨h, e, hh⟩ := G.pw
    have hh' : h ≤ 5 := by
      have ml : (wmet pre).length ≤ 6 := by rw [G.met]; exact Nat.le_trans (List.length_filter_le ..) hl
      rcases hh with hh | rfl
      · exact Nat.le_of_succ_le_succ (Nat.le_trans hh ml)
      · decide
    have hm : h + 1 ≤ (wmet pre).length := by
      rcases hh with hh | rfl
      · exact hh
      · rcases Nat.eq_zero_or_pos (wmet pre).length with h | h
        · exact absurd (by rw [List.eq_nil_of_length_eq_zero h]; rfl) hs
        · exact h
    obtain ⟨q, eq, e2, q1⟩ := pw_even e hh'
    have est2 : wstep (pre ++ [k]) = q := by rw [est, eq, Int.fdiv_eq_ediv_of_nonneg _ (by decide), Int.mul_ediv_cancel_left _ (by decide)]
    have both : -k ∈ pre := by
      have q2 : ∃ x ∈ wmet pre ++ [k], x ≠ k := by
        refine Classical.byContradiction fun hn => hs (List.eq_replicate_iff.mpr ⟨rfl, fun x hx => Classical.byContradiction fun hxk => hn ⟨x, hx, hxk⟩⟩)
      obtain ⟨x, hx, hxk⟩ := q2
      rcases List.mem_append.mp hx with hx | hx
      · rw [G.met] at hx
        obtain ⟨hx1, hx2⟩ := List.mem_filter.mp hx
        exact pm_ne hk (hp x hx1) (of_decide_eq_true hx2) hxk ▸ hx1
      · exact absurd (List.mem_singleton.mp hx) hxk
    have G1 := G.a1
    have G2 := G.a2
    have G3 := G.dv
    have G4 := G.b1
    have G5 := G.b2
    rw [est2] at hlast
    rw [eq] at G1 G2 G3 G4 G5
    refine ⟨hmet, ⟨h + 1, by rw [est2]; exact e2, .inl (by rw [wmet_snoc pre hk0, List.length_append]; exact Nat.succ_le_succ hm)⟩, fun a ha => ?_, ?_, fun j hj => ?_, fun j hj => ?_, ?_, ?_, by rw [hlast, hlen]; exact bd_step G.bd (Int.le_of_lt q1) (pw_le e2) hk⟩
    · exfalso
      rw [wmet_snoc pre hk0] at ha
      have q3 : k = a := List.eq_of_mem_replicate (ha ▸ (List.mem_append_right _ (List.mem_singleton.mpr rfl)))
      exact hs (q3 ▸ ha)
    all_goals rw [est2, hlast]
    · exact Int.dvd_add (Int.dvd_trans (Int.dvd_mul_left _ _) G3) (Int.dvd_mul_left _ _)
    · rcases get_snoc hj with r | ⟨r1, r2⟩
      · rw [ww r]
        exact up2 (G1 j r) k hk q1
      · subst r1; rw [hend]; subst r2; exact one_mul'
    · rcases get_snoc hj with r | ⟨r1, r2⟩
      · rw [ww r]
        exact dn2 (G2 j r) k hk q1
      · subst r1; rw [hend]; subst r2; exact neg_mul'
    · rcases hk with rfl | rfl
      · exact .inl ⟨pre.length, hnew, by rw [hend, Int.one_mul]⟩
      · rcases G4 with ⟨j, h1, h2⟩ | ⟨h1, _⟩
        · exact .inl ⟨j, get_app h1, by rw [ww h1]; exact dbl1 h2⟩
        · exact absurd both h1
    · rcases hk with rfl | rfl
      · rcases G5 with ⟨j, h1, h2⟩ | ⟨h1, _⟩
        · exact .inl ⟨j, get_app h1, by rw [ww h1]; exact dbl2 h2⟩
        · exact absurd both h1
      · exact .inl ⟨pre.length, hnew, by rw [hend]; exact neg_eq'⟩
theorem gi_nil : GI [] := ⟨rfl, ⟨0, by decide, .inr rfl⟩, fun _ _ => rfl, by decide, fun j h => by simp at h, fun j h => by simp at h, .inr ⟨by simp, by decide, rfl⟩, .inr ⟨by simp, by decide, rfl⟩, by decide⟩
theorem gi_all (l : List Int) (hl : l.length ≤ 7) (hk : ∀ k ∈ l, k = -1 ∨ k = 0 ∨ k = 1) : GI l := by
  rw [← List.reverse_reverse l] at hl hk ⊢
  generalize l.reverse = q at hl hk ⊢
  induction q with
  | nil => exact gi_nil
  | cons k q ih =>
    rw [List.reverse_cons] at hl hk ⊢
    have hl' : q.reverse.length ≤ 6 := by simp at hl ⊢; lia
    have hk' : ∀ x ∈ q.reverse, x = -1 ∨ x = 0 ∨ x = 1 := fun x hx => hk x (by simp at hx ⊢; exact .inl hx)
    have G := ih (by lia) hk'
    rcases hk k (by simp) with rfl | rfl | rfl
    · exact gi_step G hl' (.inr rfl) hk'
    · exact gi_zero G
    · exact gi_step G hl' (.inl rfl) hk'
end Mine
end

section
set_option maxRecDepth 100000
set_option maxHeartbeats 4000000
namespace Mine
/-- what one stalk cut at c tells -/
structure SF (R : List Int) (c : Nat) (s : Int) : Prop where
  ps : ∃ h : Nat, s * 2 ^ h = 64
  dv : s ∣ wv R c
  a1 : ∀ j : Nat, j < c → R.getD j 0 = 1 → wv R j < wv R c
  a2 : ∀ j : Nat, j < c → R.getD j 0 = -1 → wv R c < wv R j
  b1 : (∃ j : Nat, j < c ∧ R.getD j 0 = 1 ∧ wv R c = wv R j + s) ∨ (wv R c ≤ 0 ∧ s = 64)
  b2 : (∃ j : Nat, j < c ∧ R.getD j 0 = -1 ∧ wv R j = wv R c + s) ∨ (0 ≤ wv R c ∧ s = 64)
  bd : -(64 * (c : Int)) ≤ wv R c ∧ wv R c ≤ 64 * (c : Int)
theorem wv_take (R : List Int) (c : Nat) : ∀ j, j ≤ c → c ≤ R.length → wv (R.take c) j = wv R j := by
  have key : ∀ (b a : List Int) (j : Nat), j ≤ a.length → wv (a ++ b) j = wv a j := by
    intro b
    induction b with
    | nil => intro a j _; rw [List.append_nil]
    | cons k b ih =>
      intro a j hj
      rw [show a ++ k :: b = (a ++ [k]) ++ b by simp, ih (a ++ [k]) j (by simp; lia), wv_snoc a k hj]
  intro j hj hc
  have := key (R.drop c) (R.take c) j (by rw [List.length_take]; lia)
  rw [List.take_append_drop] at this
  exact this.symm
theorem sf_of (R : List Int) (hl : R.length ≤ 7) (hk : ∀ k ∈ R, k = -1 ∨ k = 0 ∨ k = 1) {c : Nat} (hc : c ≤ R.length) : ∃ s, SF R c s := by
  have G := gi_all (R.take c) (by rw [List.length_take]; lia) (fun k h => hk k (List.mem_of_mem_take h))
  have ln : (R.take c).length = c := by rw [List.length_take]; lia
  have el : wlast (R.take c) = wv R c := by rw [← wv_end, ln, wv_take R c c (Nat.le_refl _) hc]
  have eg : ∀ j x, j < c → (R.getD j 0 = x ↔ (R.take c)[j]? = some x) := fun j x hj => by
    rw [List.getElem?_take, if_pos hj, List.getD_eq_getElem?_getD, List.getElem?_eq_getElem (by lia)]; simp
  obtain ⟨h, e, hh⟩ := G.pw
  have wj : ∀ {j}, j < c → wv (R.take c) j = wv R j := fun hj => wv_take R c _ (Nat.le_of_lt hj) hc
  refine ⟨wstep (R.take c), ⟨h, e⟩, el ▸ G.dv, fun j hj hr => ?_, fun j hj hr => ?_, ?_, ?_, ?_⟩
  · have q := G.a1 j ((eg j 1 hj).mp hr)
    rw [el, wj hj] at q
    exact Int.lt_of_lt_of_le (Int.lt_add_of_pos_right _ (pw_gt e)) q
  · have q := G.a2 j ((eg j (-1) hj).mp hr)
    rw [el, wj hj] at q
    exact Int.lt_of_lt_of_le (Int.lt_add_of_pos_right _ (pw_gt e)) q
  · rcases G.b1 with ⟨j, h1, h2⟩ | ⟨_, h2, h3⟩
    · have hj : j < c := ln ▸ get_lt h1
      refine .inl ⟨j, hj, (eg j 1 hj).mpr h1, ?_⟩
      rw [el, wj hj] at h2; exact h2
    · exact .inr ⟨el ▸ h2, h3⟩
  · rcases G.b2 with ⟨j, h1, h2⟩ | ⟨_, h2, h3⟩
    · have hj : j < c := ln ▸ get_lt h1
      refine .inl ⟨j, hj, (eg j (-1) hj).mpr h1, ?_⟩
      rw [el, wj hj] at h2; exact h2
    · exact .inr ⟨el ▸ h2, h3⟩
  · have q := G.bd
    rw [el, ln] at q; exact q
theorem pow_dvd {a b : Int} {h g : Nat} (ea : a * 2 ^ h = 64) (eb : b * 2 ^ g = 64) (l : a ≤ b) : a ∣ b := by
  rcases Nat.le_total g h with q | q
  · obtain ⟨d, rfl⟩ := Nat.exists_eq_add_of_le q
    rw [Nat.add_comm, Int.pow_add, ← Int.mul_assoc, ← eb] at ea
    exact ⟨2 ^ d, (Int.eq_of_mul_eq_mul_right (Int.ne_of_gt (pw_two g)) ea).symm⟩
  · obtain ⟨d, rfl⟩ := Nat.exists_eq_add_of_le q
    rw [Nat.add_comm, Int.pow_add, ← Int.mul_assoc, ← ea] at eb
    have e := Int.eq_of_mul_eq_mul_right (Int.ne_of_gt (pw_two h)) eb
    have p : b * 1 ≤ b * 2 ^ d := Int.mul_le_mul_of_nonneg_left (pw_two d) (Int.le_trans (Int.le_of_lt (pw_gt ea)) l)
    rw [e, Int.mul_one] at p
    exact Int.le_antisymm l p ▸ Int.dvd_refl _
theorem lt3 {P : Nat → Prop} (h0 : P 0) (h1 : P 1) (h2 : P 2) : ∀ k, k < 3 → P k
  | 0, _ => h0
  | 1, _ => h1
  | 2, _ => h2
theorem least3 (a b c : Int) : (a ≤ b ∧ a ≤ c) ∨ (b ≤ a ∧ b ≤ c) ∨ (c ≤ a ∧ c ≤ b) := by lia
theorem pos3 {a b c : Int} (h : 0 < a + b + c) : 0 < a ∨ 0 < b ∨ 0 < c := by lia
/-- who has the better of it has a move that keeps it -/
theorem pick3 {P : Nat → Nat → Prop} {u : Nat → Nat → Int} {v s : Nat → Int} (ps : ∀ k, k < 3 → ∃ h : Nat, s k * 2 ^ h = 64) (dv : ∀ k, k < 3 → s k ∣ v k)
    (b : ∀ k, k < 3 → (∃ j, P k j ∧ v k = u k j + s k) ∨ (v k ≤ 0 ∧ s k = 64)) (hV : 0 < v 0 + v 1 + v 2) : ∃ k, k < 3 ∧ ∃ j, P k j ∧ v k - u k j ≤ v 0 + v 1 + v 2 := by
  obtain ⟨k, hk, l⟩ : ∃ k, k < 3 ∧ ∀ i, i < 3 → s k ≤ s i := by
    rcases least3 (s 0) (s 1) (s 2) with h | h | h
    · exact ⟨0, by decide, lt3 (Int.le_refl _) h.1 h.2⟩
    · exact ⟨1, by decide, lt3 h.1 (Int.le_refl _) h.2⟩
    · exact ⟨2, by decide, lt3 h.1 h.2 (Int.le_refl _)⟩
  have d : ∀ i, i < 3 → s k ∣ v i := fun i hi => by
    obtain ⟨_, ek⟩ := ps k hk
    obtain ⟨_, ei⟩ := ps i hi
    exact Int.dvd_trans (pow_dvd ek ei (l i hi)) (dv i hi)
  have dV := Int.le_of_dvd hV (Int.dvd_add (Int.dvd_add (d 0 (by decide)) (d 1 (by decide))) (d 2 (by decide)))
  have fin : ∀ i, i < 3 → s i ≤ v 0 + v 1 + v 2 → (∃ j, P i j ∧ v i = u i j + s i) → ∃ k, k < 3 ∧ ∃ j, P k j ∧ v k - u k j ≤ v 0 + v 1 + v 2 := fun i hi hs ⟨j, h1, h2⟩ =>
    ⟨i, hi, j, h1, by rw [h2, Int.add_comm, Int.add_sub_cancel]; exact hs⟩
  rcases b k hk with h | ⟨_, e⟩
  · exact fin k hk dV h
  · have go : ∀ i, i < 3 → 0 < v i → ∃ k, k < 3 ∧ ∃ j, P k j ∧ v k - u k j ≤ v 0 + v 1 + v 2 := fun i hi h => by
      rcases b i hi with q | ⟨q, _⟩
      · obtain ⟨_, ei⟩ := ps i hi
        exact fin i hi (Int.le_trans (pw_le ei) (e ▸ dV)) q
      · exact absurd h (Int.not_lt.mpr q)
    rcases pos3 hV with h | h | h
    · exact go 0 (by decide) h
    · exact go 1 (by decide) h
    · exact go 2 (by decide) h
theorem has_move (R : Nat → List Int) (c : Nat → Nat) (s : Nat → Int) (F : ∀ k, k < 3 → SF (R k) (c k) (s k)) (hV : 0 < wv (R 0) (c 0) + wv (R 1) (c 1) + wv (R 2) (c 2)) :
    ∃ k, k < 3 ∧ ∃ j, (j < c k ∧ (R k).getD j 0 = 1) ∧ wv (R k) (c k) - wv (R k) j ≤ wv (R 0) (c 0) + wv (R 1) (c 1) + wv (R 2) (c 2) :=
  pick3 (P := fun k j => j < c k ∧ (R k).getD j 0 = 1) (u := fun k j => wv (R k) j) (v := fun k => wv (R k) (c k)) (s := s) (fun k hk => (F k hk).ps) (fun k hk => (F k hk).dv)
    (fun k hk => (F k hk).b1.imp_left fun ⟨j, h1, h2, h3⟩ => ⟨j, ⟨h1, h2⟩, h3⟩) hV
theorem neg_sum (a b c : Int) : -a + -b + -c = -(a + b + c) := by lia
theorem neg_le {x y t : Int} (h : -x - -y ≤ -t) : t ≤ x - y := by lia
theorem neg_eq2 {a b c : Int} (h : a = b + c) : -b = -a + c := by lia
theorem has_move2 (R : Nat → List Int) (c : Nat → Nat) (s : Nat → Int) (F : ∀ k, k < 3 → SF (R k) (c k) (s k)) (hV : wv (R 0) (c 0) + wv (R 1) (c 1) + wv (R 2) (c 2) < 0) :
    ∃ k, k < 3 ∧ ∃ j, (j < c k ∧ (R k).getD j 0 = -1) ∧ wv (R 0) (c 0) + wv (R 1) (c 1) + wv (R 2) (c 2) ≤ wv (R k) (c k) - wv (R k) j := by
  have q := pick3 (P := fun k j => j < c k ∧ (R k).getD j 0 = -1) (u := fun k j => -wv (R k) j) (v := fun k => -wv (R k) (c k)) (s := s) (fun k hk => (F k hk).ps) (fun k hk => Int.dvd_neg.mpr (F k hk).dv)
    (fun k hk => (F k hk).b2.imp (fun ⟨j, h1, h2, h3⟩ => ⟨j, ⟨h1, h2⟩, neg_eq2 h3⟩) fun h => ⟨Int.neg_nonpos_of_nonneg h.1, h.2⟩) (neg_sum .. ▸ Int.neg_pos_of_neg hV)
  obtain ⟨k, hk, j, h1, h2⟩ := q
  exact ⟨k, hk, j, h1, neg_le (neg_sum .. ▸ h2)⟩
theorem accL_iff (p : Bool) (xf : Nat → Int) (bf : Nat → Bool) (v : Int) (i : Nat) : accL p xf bf v i = true ↔ p = true ∨ ∃ j, j < i ∧ xf j = v ∧ bf j = false := by
  unfold accL
  simp [List.any_eq_true]
theorem accK_iff (xf : Nat → Nat → Int) (bf : Nat → Nat → Bool) (v : Int) (cf : Nat → Int) : ∀ n, accK xf bf v cf n = true ↔ ∃ k, k < n ∧ ∃ j, j < (cf k).toNat ∧ xf k j = v ∧ bf k j = false
  | 0 => by simp [accK]
  | n + 1 => by
    rw [accK, accL_iff, accK_iff xf bf v cf n]
    constructor
    · rintro (⟨k, h1, h2⟩ | h)
      · exact ⟨k, by lia, h2⟩
      · exact ⟨n, by lia, h⟩
    · rintro ⟨k, h1, h2⟩
      by_cases e : k = n
      · subst e; exact .inr h2
      · exact .inl ⟨k, by lia, h2⟩
/-- the spot where the cuts are a -/
theorem digits {z0 z1 z2 : Int} {a0 a1 a2 : Int} (p0 : 0 ≤ a0 ∧ a0 < z0) (p1 : 0 ≤ a1 ∧ a1 < z1) (p2 : 0 ≤ a2 ∧ a2 < z2) :
    (((a0 * (z1 * z2) + a1 * z2 + a2).fdiv (z1 * z2)).fmod z0 = a0) ∧ (((a0 * (z1 * z2) + a1 * z2 + a2).fdiv z2).fmod z1 = a1) ∧ (((a0 * (z1 * z2) + a1 * z2 + a2).fdiv 1).fmod z2 = a2) := by
  have h2 : 0 < z2 := by lia
  have h1 : 0 < z1 := by lia
  have h12 : 0 < z1 * z2 := Int.mul_pos h1 h2
  have r1 : 0 ≤ a1 * z2 := Int.mul_nonneg p1.1 (by lia)
  have r2 : a1 * z2 + a2 < z1 * z2 := by
    have : (a1 + 1) * z2 ≤ z1 * z2 := Int.mul_le_mul_of_nonneg_right (by lia) (by lia)
    rw [Int.add_mul, Int.one_mul] at this
    lia
  refine ⟨?_, ?_, ?_⟩
  · rw [Int.fdiv_eq_ediv_of_nonneg _ (by lia), Int.fmod_eq_emod_of_nonneg _ (by lia), show a0 * (z1 * z2) + a1 * z2 + a2 = (a1 * z2 + a2) + a0 * (z1 * z2) by lia, Int.add_mul_ediv_right _ _ (by lia), Int.ediv_eq_zero_of_lt (by lia) r2, Int.zero_add]
    exact Int.emod_eq_of_lt p0.1 p0.2
  · rw [Int.fdiv_eq_ediv_of_nonneg _ (by lia), Int.fmod_eq_emod_of_nonneg _ (by lia), show a0 * (z1 * z2) + a1 * z2 + a2 = a2 + (a1 + a0 * z1) * z2 by rw [Int.add_mul, Int.mul_assoc]; lia, Int.add_mul_ediv_right _ _ (by lia), Int.ediv_eq_zero_of_lt p2.1 p2.2, Int.zero_add, Int.add_mul_emod_self_right]
    exact Int.emod_eq_of_lt p1.1 p1.2
  · rw [Int.fdiv_eq_ediv_of_nonneg _ (by lia), Int.ediv_one, Int.fmod_eq_emod_of_nonneg _ (by lia), show a0 * (z1 * z2) + a1 * z2 + a2 = a2 + (a1 + a0 * z1) * z2 by rw [Int.add_mul, Int.mul_assoc]; lia, Int.add_mul_emod_self_right]
    exact Int.emod_eq_of_lt p2.1 p2.2
theorem undigits {z0 z1 z2 spot : Int} (h0 : 0 < z0) (h1 : 0 < z1) (h2 : 0 < z2) (hs : 0 ≤ spot) (hz : spot < z0 * (z1 * z2)) :
    spot = ((spot.fdiv (z1 * z2)).fmod z0) * (z1 * z2) + ((spot.fdiv z2).fmod z1) * z2 + (spot.fdiv 1).fmod z2 := by
  have h12 : 0 < z1 * z2 := Int.mul_pos h1 h2
  rw [Int.fdiv_eq_ediv_of_nonneg _ (by lia), Int.fdiv_eq_ediv_of_nonneg _ (by lia), Int.fdiv_eq_ediv_of_nonneg _ (by lia), Int.fmod_eq_emod_of_nonneg _ (by lia), Int.fmod_eq_emod_of_nonneg _ (by lia), Int.fmod_eq_emod_of_nonneg _ (by lia), Int.ediv_one]
  have e0 : (spot / (z1 * z2)) % z0 = spot / (z1 * z2) := Int.emod_eq_of_lt (Int.ediv_nonneg hs (by lia)) (Int.ediv_lt_of_lt_mul h12 hz)
  have e1 : spot / (z1 * z2) = spot / z2 / z1 := by rw [Int.mul_comm, Int.ediv_ediv_of_nonneg (by lia)]
  have e2 : z1 * (spot / z2 / z1) + spot / z2 % z1 = spot / z2 := by rw [Int.emod_def]; lia
  have e3 : spot / z2 * z2 + spot % z2 = spot := by rw [Int.emod_def, Int.mul_comm]; lia
  rw [e0, e1]
  have e4 : spot / z2 / z1 * (z1 * z2) = (z1 * (spot / z2 / z1)) * z2 := by rw [← Int.mul_assoc, Int.mul_comm (spot / z2 / z1)]
  rw [e4]
  have e5 : (z1 * (spot / z2 / z1)) * z2 + (spot / z2 % z1) * z2 = (spot / z2) * z2 := by rw [← Int.add_mul, e2]
  rw [e5]
  lia
end Mine
end

section
set_option maxRecDepth 100000
set_option maxHeartbeats 4000000
namespace Mine
noncomputable def xfR (R : Nat → List Int) (k j : Nat) : Int := (R k).getD j 0
noncomputable def pfR (R : Nat → List Int) (k c : Nat) : Int := (wv (R k) c).fmod 1536
noncomputable def zfR (R : Nat → List Int) (k : Nat) : Int := ((R k).length : Int) + 1
noncomputable def sfR (R : Nat → List Int) (k : Nat) : Int := if k = 0 then zfR R 1 * zfR R 2 else if k = 1 then zfR R 2 else 1
structure Good3 (R : Nat → List Int) : Prop where
  mks : ∀ k, k < 3 → ∀ x ∈ R k, x = -1 ∨ x = 0 ∨ x = 1
  sm : (R 0).length + (R 1).length + (R 2).length ≤ 7
variable {R : Nat → List Int}
theorem three {k : Nat} (h : k < 3) : k = 0 ∨ k = 1 ∨ k = 2 := by lia
theorem gm1 {t x y : Int} (h : ¬ t - x + y < 0) (h2 : y < x) : 0 < t := by lia
theorem gm2 {t x y : Int} (h : ¬ 0 < t - x + y) (h2 : x < y) : t < 0 := by lia
theorem gm3 {t x y : Int} (h : x - y ≤ t) : ¬ t - x + y < 0 := by lia
theorem gm4 {t x y : Int} (h : t ≤ x - y) : ¬ 0 < t - x + y := by lia
theorem gm5 (x y b c : Int) : y + b + c = x + b + c - x + y := by lia
theorem gm6 (x y a c : Int) : a + y + c = a + x + c - x + y := by lia
theorem gm7 (x y a b : Int) : a + b + y = a + b + x - x + y := by lia
theorem cs0 {s a j m B C : Int} (e : s = a * m + B + C) : s - (a - j) * m = j * m + B + C := by rw [Int.sub_mul]; lia
theorem cs1 {s a j m A C : Int} (e : s = A + a * m + C) : s - (a - j) * m = A + j * m + C := by rw [Int.sub_mul]; lia
theorem cs2 {s a j A B : Int} (e : s = A + B + a) : s - (a - j) * 1 = A + B + j := by rw [Int.mul_one]; lia
theorem mod3 {x y z : Int} (h1 : -448 ≤ x + y + z) (h2 : x + y + z ≤ 448) : (x % 1536 + y % 1536 + z % 1536 + 768) % 1536 - 768 = x + y + z := by
  have e : (x % 1536 + y % 1536 + z % 1536 + 768) % 1536 = (x + y + z + 768) % 1536 := by
    rw [Int.add_emod (x % 1536 + y % 1536 + z % 1536), Int.add_emod (x % 1536 + y % 1536), Int.emod_emod_of_dvd z (Int.dvd_refl _), ← Int.add_emod x, ← Int.add_emod (x + y), ← Int.add_emod]
  rw [e, Int.emod_eq_of_lt (by lia) (by lia)]; lia
theorem bd3 {a b c : Nat} {x y z : Int} (sm : a + b + c ≤ 7) (h0 : -(64 * (a : Int)) ≤ x ∧ x ≤ 64 * a) (h1 : -(64 * (b : Int)) ≤ y ∧ y ≤ 64 * b) (h2 : -(64 * (c : Int)) ≤ z ∧ z ≤ 64 * c) : -448 ≤ x + y + z ∧ x + y + z ≤ 448 := by lia
theorem Good3.len (G : Good3 R) {k : Nat} (hk : k < 3) : (R k).length ≤ 7 := by
  have := G.sm
  rcases three hk with rfl | rfl | rfl <;> lia
theorem Good3.sf (G : Good3 R) {k : Nat} (hk : k < 3) {c : Nat} (hc : c ≤ (R k).length) : ∃ s, SF (R k) c s := sf_of (R k) (G.len hk) (G.mks k hk) hc
theorem tot_eq (G : Good3 R) (c : Nat → Int) (hc : ∀ k, k < 3 → (c k).toNat ≤ (R k).length) : totC (pfR R) c = wv (R 0) (c 0).toNat + wv (R 1) (c 1).toNat + wv (R 2) (c 2).toNat := by
  obtain ⟨_, F0⟩ := G.sf (by decide) (hc 0 (by decide))
  obtain ⟨_, F1⟩ := G.sf (by decide) (hc 1 (by decide))
  obtain ⟨_, F2⟩ := G.sf (by decide) (hc 2 (by decide))
  have h0 := F0.bd
  have h1 := F1.bd
  have h2 := F2.bd
  have sm : (c 0).toNat + (c 1).toNat + (c 2).toNat ≤ 7 := Nat.le_trans (Nat.add_le_add (Nat.add_le_add (hc 0 (by decide)) (hc 1 (by decide))) (hc 2 (by decide))) G.sm
  unfold totC pfR
  generalize wv (R 0) (c 0).toNat = x at *
  generalize wv (R 1) (c 1).toNat = y at *
  generalize wv (R 2) (c 2).toNat = z at *
  rw [Int.fmod_eq_emod_of_nonneg _ (by decide), Int.fmod_eq_emod_of_nonneg _ (by decide), Int.fmod_eq_emod_of_nonneg _ (by decide), Int.fmod_eq_emod_of_nonneg _ (by decide)]
  exact mod3 (bd3 sm h0 h1 h2).1 (bd3 sm h0 h1 h2).2
theorem zfR_pos (k : Nat) : 1 ≤ zfR R k := by unfold zfR; lia
theorem sfR_pos (k : Nat) : 1 ≤ sfR R k := by
  unfold sfR
  have a := zfR_pos (R := R) 1
  have b := zfR_pos (R := R) 2
  split
  · exact Int.mul_pos (by lia) (by lia)
  · split <;> lia
theorem cut_shift {spot : Int} (h0 : 0 ≤ spot) (hz : spot < zfR R 0 * sfR R 0) {k : Nat} (hk : k < 3) {j : Nat} (hj : (j : Int) < cutC spot (sfR R) (zfR R) k) :
    ∀ i, i < 3 → cutC (spot - (cutC spot (sfR R) (zfR R) k - j) * sfR R k) (sfR R) (zfR R) i = if i = k then (j : Int) else cutC spot (sfR R) (zfR R) i := by
  have z0 := zfR_pos (R := R) 0
  have z1 := zfR_pos (R := R) 1
  have z2 := zfR_pos (R := R) 2
  have s0 : sfR R 0 = zfR R 1 * zfR R 2 := rfl
  have s1 : sfR R 1 = zfR R 2 := rfl
  have s2 : sfR R 2 = 1 := rfl
  rw [s0] at hz
  have e := undigits (by lia) (by lia) (by lia) h0 hz
  have b0 := fmod_bd (spot.fdiv (zfR R 1 * zfR R 2)) (n := zfR R 0) (by lia)
  have b1 := fmod_bd (spot.fdiv (zfR R 2)) (n := zfR R 1) (by lia)
  have b2 := fmod_bd (spot.fdiv 1) (n := zfR R 2) (by lia)
  unfold cutC at hj ⊢
  rcases three hk with rfl | rfl | rfl
  · rw [s0] at hj ⊢
    generalize (spot.fdiv (zfR R 1 * zfR R 2)).fmod (zfR R 0) = a0 at *
    have e' : spot - (a0 - j) * (zfR R 1 * zfR R 2) = (j : Int) * (zfR R 1 * zfR R 2) + (spot.fdiv (zfR R 2)).fmod (zfR R 1) * zfR R 2 + (spot.fdiv 1).fmod (zfR R 2) := cs0 e
    rw [e']
    obtain ⟨d0, d1, d2⟩ := digits (z0 := zfR R 0) (a0 := j) ⟨by lia, by lia⟩ b1 b2
    intro i hi
    rcases three hi with rfl | rfl | rfl
    · rw [s0, if_pos rfl]; exact d0
    · rw [s1, if_neg (by decide)]; exact d1
    · rw [s2, if_neg (by decide)]; exact d2
  · rw [s1] at hj ⊢
    generalize (spot.fdiv (zfR R 2)).fmod (zfR R 1) = a1 at *
    have e' : spot - (a1 - j) * zfR R 2 = (spot.fdiv (zfR R 1 * zfR R 2)).fmod (zfR R 0) * (zfR R 1 * zfR R 2) + (j : Int) * zfR R 2 + (spot.fdiv 1).fmod (zfR R 2) := cs1 e
    rw [e']
    obtain ⟨d0, d1, d2⟩ := digits (z1 := zfR R 1) (a1 := j) b0 ⟨by lia, by lia⟩ b2
    intro i hi
    rcases three hi with rfl | rfl | rfl
    · rw [s0, if_neg (by decide)]; exact d0
    · rw [s1, if_pos rfl]; exact d1
    · rw [s2, if_neg (by decide)]; exact d2
  · rw [s2] at hj ⊢
    generalize (spot.fdiv 1).fmod (zfR R 2) = a2 at *
    have e' : spot - (a2 - j) * 1 = (spot.fdiv (zfR R 1 * zfR R 2)).fmod (zfR R 0) * (zfR R 1 * zfR R 2) + (spot.fdiv (zfR R 2)).fmod (zfR R 1) * zfR R 2 + (j : Int) := cs2 e
    rw [e']
    obtain ⟨d0, d1, d2⟩ := digits (z2 := zfR R 2) (a2 := j) b0 b1 ⟨by lia, by lia⟩
    intro i hi
    rcases three hi with rfl | rfl | rfl
    · rw [s0, if_neg (by decide)]; exact d0
    · rw [s1, if_neg (by decide)]; exact d1
    · rw [s2, if_pos rfl]; exact d2
/-- the spot behind one move -/
theorem moved (G : Good3 R) {spot : Int} (h0 : 0 ≤ spot) (hz : spot < zfR R 0 * sfR R 0) {k : Nat} (hk : k < 3) {j : Nat} (hj : j < (cutC spot (sfR R) (zfR R) k).toNat) :
    totC (pfR R) (cutC ((spot - (cutC spot (sfR R) (zfR R) k - j) * sfR R k).toNat : Int) (sfR R) (zfR R)) = totC (pfR R) (cutC spot (sfR R) (zfR R)) - wv (R k) (cutC spot (sfR R) (zfR R) k).toNat + wv (R k) j := by
  have cb : ∀ i, 0 ≤ cutC spot (sfR R) (zfR R) i ∧ cutC spot (sfR R) (zfR R) i < zfR R i ∧ cutC spot (sfR R) (zfR R) i * sfR R i ≤ spot := fun i => cut_bounds h0 (sfR_pos i) (zfR_pos i)
  have hj' : (j : Int) < cutC spot (sfR R) (zfR R) k := Int.lt_toNat.mp hj
  have sb := spot_bounds (sfR_pos k) hj' (cb k).2.2
  rw [Int.toNat_of_nonneg sb.1]
  have sh := cut_shift h0 hz hk hj'
  generalize hs' : spot - (cutC spot (sfR R) (zfR R) k - j) * sfR R k = s' at *
  have lz : ∀ i, zfR R i = ((R i).length : Int) + 1 := fun i => rfl
  have hc : ∀ i, i < 3 → (cutC spot (sfR R) (zfR R) i).toNat ≤ (R i).length := fun i _ => Int.toNat_le.mpr (Int.lt_add_one_iff.mp (lz i ▸ (cb i).2.1))
  have hc' : ∀ i, i < 3 → (cutC s' (sfR R) (zfR R) i).toNat ≤ (R i).length := fun i hi => by
    rw [sh i hi]
    split
    · rename_i e; subst e; rw [Int.toNat_natCast]; exact Nat.le_trans (Nat.le_of_lt hj) (hc i hi)
    · exact hc i hi
  rw [tot_eq G _ hc', tot_eq G _ hc, sh 0 (by decide), sh 1 (by decide), sh 2 (by decide)]
  rcases three hk with rfl | rfl | rfl
  · rw [if_pos rfl, if_neg (by decide), if_neg (by decide), Int.toNat_natCast]; exact gm5 _ _ _ _
  · rw [if_neg (by decide), if_pos rfl, if_neg (by decide), Int.toNat_natCast]; exact gm6 _ _ _ _
  · rw [if_neg (by decide), if_neg (by decide), if_pos rfl, Int.toNat_natCast]; exact gm7 _ _ _ _
theorem game1 (G : Good3 R) (spot : Int) (h0 : 0 ≤ spot) (hz : spot < zfR R 0 * sfR R 0) :
    accK (xfR R) (fun k j => decide (totC (pfR R) (cutC ((spot - (cutC spot (sfR R) (zfR R) k - j) * sfR R k).toNat : Int) (sfR R) (zfR R)) < 0)) 1 (cutC spot (sfR R) (zfR R)) 3 = decide (0 < totC (pfR R) (cutC spot (sfR R) (zfR R))) := by
  have cb : ∀ i, 0 ≤ cutC spot (sfR R) (zfR R) i ∧ cutC spot (sfR R) (zfR R) i < zfR R i ∧ cutC spot (sfR R) (zfR R) i * sfR R i ≤ spot := fun i => cut_bounds h0 (sfR_pos i) (zfR_pos i)
  have lz : ∀ i, zfR R i = ((R i).length : Int) + 1 := fun i => rfl
  have hc : ∀ i, i < 3 → (cutC spot (sfR R) (zfR R) i).toNat ≤ (R i).length := fun i _ => Int.toNat_le.mpr (Int.lt_add_one_iff.mp (lz i ▸ (cb i).2.1))
  rw [Bool.eq_iff_iff, accK_iff, decide_eq_true_iff]
  have ht := tot_eq G _ hc
  obtain ⟨s0, F0⟩ := G.sf (by decide) (hc 0 (by decide))
  obtain ⟨s1, F1⟩ := G.sf (by decide) (hc 1 (by decide))
  obtain ⟨s2, F2⟩ := G.sf (by decide) (hc 2 (by decide))
  have FF : ∀ k, k < 3 → SF (R k) (cutC spot (sfR R) (zfR R) k).toNat (if k = 0 then s0 else if k = 1 then s1 else s2) := fun k hk => by
    rcases three hk with rfl | rfl | rfl
    · exact F0
    · exact F1
    · exact F2
  constructor
  · rintro ⟨k, hk, j, hj, hx, hn⟩
    rw [decide_eq_false_iff_not, moved G h0 hz hk hj] at hn
    exact gm1 hn ((FF k hk).a1 j hj hx)
  · intro hp
    rw [ht] at hp
    obtain ⟨k, hk, j, ⟨hj, hx⟩, hle⟩ := has_move R (fun i => (cutC spot (sfR R) (zfR R) i).toNat) _ FF hp
    refine ⟨k, hk, j, hj, hx, ?_⟩
    rw [decide_eq_false_iff_not, moved G h0 hz hk hj, ht]
    exact gm3 hle
theorem game2 (G : Good3 R) (spot : Int) (h0 : 0 ≤ spot) (hz : spot < zfR R 0 * sfR R 0) :
    accK (xfR R) (fun k j => decide (0 < totC (pfR R) (cutC ((spot - (cutC spot (sfR R) (zfR R) k - j) * sfR R k).toNat : Int) (sfR R) (zfR R)))) (-1) (cutC spot (sfR R) (zfR R)) 3 = decide (totC (pfR R) (cutC spot (sfR R) (zfR R)) < 0) := by
  have cb : ∀ i, 0 ≤ cutC spot (sfR R) (zfR R) i ∧ cutC spot (sfR R) (zfR R) i < zfR R i ∧ cutC spot (sfR R) (zfR R) i * sfR R i ≤ spot := fun i => cut_bounds h0 (sfR_pos i) (zfR_pos i)
  have lz : ∀ i, zfR R i = ((R i).length : Int) + 1 := fun i => rfl
  have hc : ∀ i, i < 3 → (cutC spot (sfR R) (zfR R) i).toNat ≤ (R i).length := fun i _ => Int.toNat_le.mpr (Int.lt_add_one_iff.mp (lz i ▸ (cb i).2.1))
  rw [Bool.eq_iff_iff, accK_iff, decide_eq_true_iff]
  have ht := tot_eq G _ hc
  obtain ⟨s0, F0⟩ := G.sf (by decide) (hc 0 (by decide))
  obtain ⟨s1, F1⟩ := G.sf (by decide) (hc 1 (by decide))
  obtain ⟨s2, F2⟩ := G.sf (by decide) (hc 2 (by decide))
  have FF : ∀ k, k < 3 → SF (R k) (cutC spot (sfR R) (zfR R) k).toNat (if k = 0 then s0 else if k = 1 then s1 else s2) := fun k hk => by
    rcases three hk with rfl | rfl | rfl
    · exact F0
    · exact F1
    · exact F2
  constructor
  · rintro ⟨k, hk, j, hj, hx, hn⟩
    rw [decide_eq_false_iff_not, moved G h0 hz hk hj] at hn
    exact gm2 hn ((FF k hk).a2 j hj hx)
  · intro hp
    rw [ht] at hp
    obtain ⟨k, hk, j, ⟨hj, hx⟩, hle⟩ := has_move2 R (fun i => (cutC spot (sfR R) (zfR R) i).toNat) _ FF hp
    refine ⟨k, hk, j, hj, hx, ?_⟩
    rw [decide_eq_false_iff_not, moved G h0 hz hk hj, ht]
    exact gm4 hle
end Mine
end

end
section
open PySem PySem.W PyProof.Rows PySem.Spec PySem.Calls
local macro_rules | `(tactic| lcg_sub) => `(tactic| first | (with_reducible exact Mine.subI) | exact Mine.subN | (refine Mine.subC (by first | k_mem | (repeat (first | exact List.Mem.head _ | refine List.mem_append_right _ ?_ | refine List.Mem.tail _ ?_))) ?_; lcg_sub) | (refine Mine.subT ?_; lcg_sub) | (refine Mine.subR ?_; lcg_sub) | (refine Mine.subL ?_; lcg_sub) | (refine Mine.subA ?_ ?_ <;> lcg_sub))
section
open PySem PySem.W PyProof.Rows PySem.Spec PySem.Calls
set_option maxRecDepth 100000
set_option maxHeartbeats 4000000
namespace Mine
open PyProof.Rows.LCg PyProof.Rows.LCt
theorem turnR (w : World) (mean : ExcName → Option Value) (mg mb : Str → Option Value) (cl : List (Str × Addr)) (B : Str → Option Value) (news : List (Addr × Obj)) :
    SegC 60 w mean mg mb cl [stAt lawD.body 11] B news (fun f _ _ => f = .ret (.bool true)) := by
  w_top off
  unfold SegC; k_fill
  intro dp un gd a' ccd outer A₀ base h₀ L s Q E B' F X N T hd hu hret
  unfold stAt lawD lawQ
  dsimp only [List.getD, List.getElem?_cons_succ, List.getElem?_cons_zero, Option.getD, forBody]
  repeat' (first | (k_unfold; (try dsimp only)) | walk1 | (dsimp only; walk1) | (leave1; try dsimp only))
  rename Fr _ _ _ _ => F9
  rename News _ _ _ _ => N9
  exact hret _ _ _ _ _ F9 N9 rfl
theorem flX_cons (k : Nat) (x : Int) (ys : List Int) : (flX k (x :: ys)).length = (if stX x = k then 1 else 0) + (flX k ys).length := by
  unfold flX
  by_cases h : stX x = k
  · rw [List.filter_cons_of_pos (by simpa using h), if_pos h, List.length_cons]; lia
  · rw [List.filter_cons_of_neg (by simpa using h), if_neg h]; lia
theorem flX_sum (ys : List Int) : (flX 0 ys).length + (flX 1 ys).length + (flX 2 ys).length = ys.length := by
  induction ys with
  | nil => rfl
  | cons x ys ih =>
    have h := stX_bd x
    rw [flX_cons, flX_cons, flX_cons, List.length_cons]
    rcases (by lia : stX x = 0 ∨ stX x = 1 ∨ stX x = 2) with e | e | e
    · rw [if_pos (by lia), if_neg (by lia), if_neg (by lia)]; lia
    · rw [if_neg (by lia), if_pos (by lia), if_neg (by lia)]; lia
    · rw [if_neg (by lia), if_neg (by lia), if_pos (by lia)]; lia
theorem sort15 {a0 a1 a2 a3 a4 a5 a6 a7 a8 a9 a10 a11 a12 a13 a14 : Nat} (h : a0 < a1 ∧ a1 < a2 ∧ a2 < a3) (g : a3 < a4 ∧ a4 < a5 ∧ a5 < a6 ∧ a6 < a7 ∧ a7 < a8 ∧ a8 < a9 ∧ a9 < a10 ∧ a10 < a11 ∧ a11 < a12 ∧ a12 < a13 ∧ a13 < a14) : List.Pairwise (· < ·) [a0, a1, a2, a3, a4, a5, a6, a7, a8, a9, a10, a11, a12, a13, a14] :=
  (srtCons h.1 (srtCons h.2.1 (srtCons h.2.2 (srtCons g.1 (srtCons g.2.1 (srtCons g.2.2.1 (srtCons g.2.2.2.1 (srtCons g.2.2.2.2.1 (srtCons g.2.2.2.2.2.1 (srtCons g.2.2.2.2.2.2.1 (srtCons g.2.2.2.2.2.2.2.1 (srtCons g.2.2.2.2.2.2.2.2.1 (srtCons g.2.2.2.2.2.2.2.2.2.1 (srtCons g.2.2.2.2.2.2.2.2.2.2 (List.pairwise_singleton _ _)))))))))))))))
theorem lawRest (w : World) (mean : ExcName → Option Value) (mg mb : Str → Option Value) (B : Str → Option Value) (ext : List (Addr × Obj)) (c1 c2 c3 Td Tb H Du t0 t1 t2 Tl m0 m1 m2 Mk : Addr) (o1 o2 o3 : Obj) (v1 v2 v3 : Option Value) (k0 : Tok) (hs du : Array Value) (nh nd : Nat) (tvf mvf : Nat → Array Value) (ntf nmf : Nat → Nat) (ys : List Int) (hys : ys.length = 7)
    (d1 : o1.data = .cell v1) (d2 : o2.data = .cell v2) (d3 : o3.data = .cell v3) (hc : @LT.lt Nat _ c1 c2 ∧ @LT.lt Nat _ c2 c3 ∧ @LT.lt Nat _ c3 Td) (ho : @LT.lt Nat _ Td Tb ∧ @LT.lt Nat _ Tb H ∧ @LT.lt Nat _ H Du ∧ @LT.lt Nat _ Du t0 ∧ @LT.lt Nat _ t0 t1 ∧ @LT.lt Nat _ t1 t2 ∧ @LT.lt Nat _ t2 Tl ∧ @LT.lt Nat _ Tl m0 ∧ @LT.lt Nat _ m0 m1 ∧ @LT.lt Nat _ m1 m2 ∧ @LT.lt Nat _ m2 Mk) (inv : InvA ys hs du tvf mvf ext) (hext : ∀ p ∈ ext, @LT.lt Nat _ Mk p.1) :
    SegC 60 w mean mg mb (cells3 c1 c2 c3) ([stAt lawD.body 4] ++ ([stAt lawD.body 5, stAt lawD.body 6] ++ ([stAt lawD.body 7] ++ ([stAt lawD.body 8, stAt lawD.body 9] ++ ([stAt lawD.body 10] ++ [stAt lawD.body 11])))))
      (fun z => if z = Str.ofString "marks" then some (.ref Mk) else if z = Str.ofString "told" then some (.ref Tl) else if z = Str.ofString "due" then some (.ref Du) else if z = Str.ofString "table" then some (.ref Tb) else B z)
      ((Tb, instObj 220 Td) :: (Td, dictOf [{ hash := PyData.keyHash w.params (PySem.Str.ofString "_headers"), key := .str (PySem.Str.ofString "_headers") k0, val := .ref H }] 1) :: (H, PySem.W.listOf hs nh) :: (Du, PySem.W.listOf du nd) :: (t0, PySem.W.listOf (tvf 0) (ntf 0)) :: (t1, PySem.W.listOf (tvf 1) (ntf 1)) :: (t2, PySem.W.listOf (tvf 2) (ntf 2)) :: (m0, PySem.W.listOf (mvf 0) (nmf 0)) :: (m1, PySem.W.listOf (mvf 1) (nmf 1)) :: (m2, PySem.W.listOf (mvf 2) (nmf 2)) :: (Tl, PySem.W.listOf #[.ref t0, .ref t1, .ref t2] 0) :: (Mk, PySem.W.listOf #[.ref m0, .ref m1, .ref m2] 0) :: (c1, o1) :: (c2, o2) :: (c3, o3) :: ext)
      (fun f m' nw => f = .ret (.bool true)) := by
  have hS : List.Pairwise (· < ·) ([c1, c2, c3, Td, Tb, H, Du, t0, t1, t2, Tl, m0, m1, m2, Mk] : List Nat) := sort15 hc ho
  have big : ∀ p ∈ ext, ∀ a : Addr, @LE.le Nat _ a Mk → p.1 ≠ a := fun p hp a ha e => by have := hext p hp; rw [e] at this; exact absurd this (Nat.not_lt.mpr ha)
  have hx : ∀ j x, ys[j]? = some x → x ∈ ys := fun j x h => List.mem_of_getElem? h
  have hdl : (dataX ys).length = 7 := by unfold dataX; rw [List.length_map, hys]
  have hdg : ∀ j x, ys[j]? = some x → (dataX ys)[j]? = some (nmX x, txX x) := fun j x h => by unfold dataX; rw [List.getElem?_map, h]; rfl
  have hsr : ∀ (i : Nat) (v : Value), hs[i]? = some v → ∃ (a : Addr) (n T : PySem.Str) (t u : Tok), v = Value.ref a ∧ (a, tupS n T t u) ∈ ext ∧ (dataX ys)[i]? = some (n, T) ∧ n.length ≤ 3 := fun i v hv => by
    have hi : i < ys.length := by
      rw [← inv.h]
      rcases Nat.lt_or_ge i hs.size with q | q
      · exact q
      · rw [Array.getElem?_eq_none q] at hv; cases hv
    obtain ⟨⟨a, t, u, e1, e2⟩, _⟩ := inv.hd i ys[i] (List.getElem?_eq_getElem hi)
    rw [e1] at hv
    exact ⟨a, _, _, t, u, (Option.some.inj hv).symm, e2, hdg i _ (List.getElem?_eq_getElem hi), nmX_len _⟩
  have hdr : ∀ (i : Nat) (v : Value), du[i]? = some v → ∃ (a : Addr) (n T : PySem.Str) (t u : Tok), v = Value.ref a ∧ (a, tupS n T t u) ∈ ext ∧ (dataX ys)[i]? = some (n, T) := fun i v hv => by
    have hi : i < ys.length := by
      rw [← inv.d]
      rcases Nat.lt_or_ge i du.size with q | q
      · exact q
      · rw [Array.getElem?_eq_none q] at hv; cases hv
    obtain ⟨_, a, t, u, e1, e2⟩ := inv.hd i ys[i] (List.getElem?_eq_getElem hi)
    rw [e1] at hv
    exact ⟨a, _, _, t, u, (Option.some.inj hv).symm, e2, hdg i _ (List.getElem?_eq_getElem hi)⟩
  have hdok : ∀ p ∈ dataX ys, PyData.strOk p.1 = true ∧ PyData.strOk p.2 = true := fun p hp => by
    unfold dataX at hp
    obtain ⟨x, _, rfl⟩ := List.mem_map.mp hp
    have q1 := stX_bd x
    have q2 := grX_bd x
    have q3 := siX_bd x
    exact ⟨getD_all (d := PySem.Str.empty) strOk_name (by show _ < 6; lia), strOk_txT (by lia) (shX_bd x) (lvX_bd x)⟩
  -- the items against due
  refine SegC.seq (SegC.conv (turnI w mean mg mb (fun z => if z = Str.ofString "marks" then some (.ref Mk) else if z = Str.ofString "told" then some (.ref Tl) else if z = Str.ofString "due" then some (.ref Du) else if z = Str.ofString "table" then some (.ref Tb) else B z) ((t0, PySem.W.listOf (tvf 0) (ntf 0)) :: (t1, PySem.W.listOf (tvf 1) (ntf 1)) :: (t2, PySem.W.listOf (tvf 2) (ntf 2)) :: (m0, PySem.W.listOf (mvf 0) (nmf 0)) :: (m1, PySem.W.listOf (mvf 1) (nmf 1)) :: (m2, PySem.W.listOf (mvf 2) (nmf 2)) :: (Tl, PySem.W.listOf #[.ref t0, .ref t1, .ref t2] 0) :: (Mk, PySem.W.listOf #[.ref m0, .ref m1, .ref m2] 0) :: (c1, o1) :: (c2, o2) :: (c3, o3) :: ext) c1 c2 c3 Tb Td H Du k0 hs du nh nd (dataX ys) (by rw [hdl, inv.h, hys]) (by rw [hdl, inv.d, hys])
    (fun i v hv => let ⟨a, n, T, t, u, e1, e2, e3, _⟩ := hsr i v hv; ⟨a, n, T, t, u, e1, by repeat (first | exact e2 | refine List.Mem.tail _ ?_ | refine List.mem_append_right _ ?_), e3⟩) (fun i v hv => let ⟨a, n, T, t, u, e1, e2, e3⟩ := hdr i v hv; ⟨a, n, T, t, u, e1, by repeat (first | exact e2 | refine List.Mem.tail _ ?_ | refine List.mem_append_right _ ?_), e3⟩)
    hdok (by lia) (by lia) (by rw [inv.h]; lia) ?oI) (by decide) (fun z => ?fI) ?sI (fun _ _ _ h => h)) ?kI (fun f m' nw h => .inl h.1)
  case oI =>
    have n : ∀ x : Addr, @Ne Nat x H → ∀ (p : Addr × Obj), p.1 = x → p.1 ≠ H := fun x h p e => e ▸ h
    refine List.forall_mem_cons.mpr ⟨n Du (srtNe hS 6 5 rfl rfl (by decide)) _ rfl, List.forall_mem_cons.mpr ⟨n t0 (srtNe hS 7 5 rfl rfl (by decide)) _ rfl, List.forall_mem_cons.mpr ⟨n t1 (srtNe hS 8 5 rfl rfl (by decide)) _ rfl, List.forall_mem_cons.mpr ⟨n t2 (srtNe hS 9 5 rfl rfl (by decide)) _ rfl, List.forall_mem_cons.mpr ⟨n m0 (srtNe hS 11 5 rfl rfl (by decide)) _ rfl, List.forall_mem_cons.mpr ⟨n m1 (srtNe hS 12 5 rfl rfl (by decide)) _ rfl, List.forall_mem_cons.mpr ⟨n m2 (srtNe hS 13 5 rfl rfl (by decide)) _ rfl, List.forall_mem_cons.mpr ⟨n Tl (srtNe hS 10 5 rfl rfl (by decide)) _ rfl, List.forall_mem_cons.mpr ⟨n Mk (srtNe hS 14 5 rfl rfl (by decide)) _ rfl, List.forall_mem_cons.mpr ⟨n c1 (srtNe hS 0 5 rfl rfl (by decide)) _ rfl, List.forall_mem_cons.mpr ⟨n c2 (srtNe hS 1 5 rfl rfl (by decide)) _ rfl, List.forall_mem_cons.mpr ⟨n c3 (srtNe hS 2 5 rfl rfl (by decide)) _ rfl, fun p hp => big p hp H (srtLe hS 5 14 rfl rfl (by decide))⟩⟩⟩⟩⟩⟩⟩⟩⟩⟩⟩⟩
  case fI =>
    by_cases w1 : z = Str.ofString "table"
    · subst w1; rfl
    by_cases w2 : z = Str.ofString "due"
    · subst w2; rfl
    simp only [if_neg w1, if_neg w2]
  case sI => lcg_sub
  case kI =>
  rintro fr1 nw1 ⟨-, hm1, rfl⟩
  -- the stalks
  have lenF : ∀ k, (flX k ys).length ≤ 7 := fun k => Nat.le_trans (List.length_filter_le ..) (by lia)
  have hxk : ∀ k i, i < (flX k ys).length → (flX k ys)[i]? = some ((flX k ys).getD i 0) := fun k i hi => by rw [List.getD_eq_getElem?_getD, List.getElem?_eq_getElem hi]; rfl
  obtain ⟨tdf, htd⟩ := Classical.axiomOfChoice (fun p : Nat × Nat => show ∃ q : Addr × Tok × Tok × Tok, p.1 < 3 → p.2 < (flX p.1 ys).length → (q.2.1 ≠ 0 ∧ q.2.2.1 ≠ 0 ∧ q.2.2.2 ≠ 0) ∧ (tvf p.1)[p.2]? = some (.ref q.1) ∧ (q.1, tup3 (tldX ((flX p.1 ys).getD p.2 0)).1 (tldX ((flX p.1 ys).getD p.2 0)).2.1 (tldX ((flX p.1 ys).getD p.2 0)).2.2 q.2.1 q.2.2.1 q.2.2.2) ∈ ext from by
    by_cases h1 : p.1 < 3
    · by_cases h2 : p.2 < (flX p.1 ys).length
      · obtain ⟨a, u1, u2, u3, r1, r2, r3⟩ := inv.td p.1 h1 p.2 _ (hxk p.1 p.2 h2)
        exact ⟨(a, u1, u2, u3), fun _ _ => ⟨r1, r2, r3⟩⟩
      · exact ⟨(0, 0, 0, 0), fun _ h => absurd h h2⟩
    · exact ⟨(0, 0, 0, 0), fun h => absurd h h1⟩)
  refine SegC.seq (SegC.conv (turnBL w mean mg mb fr1 ((t0, PySem.W.listOf (tvf 0) (ntf 0)) :: (t1, PySem.W.listOf (tvf 1) (ntf 1)) :: (t2, PySem.W.listOf (tvf 2) (ntf 2)) :: (m0, PySem.W.listOf (mvf 0) (nmf 0)) :: (m1, PySem.W.listOf (mvf 1) (nmf 1)) :: (m2, PySem.W.listOf (mvf 2) (nmf 2)) :: (c1, o1) :: (c2, o2) :: (c3, o3) :: ext) c1 c2 c3 Tb Td H Tl Mk k0 hs #[.ref t0, .ref t1, .ref t2] #[.ref m0, .ref m1, .ref m2] nh 0 0 (dataX ys) (by rw [hdl, inv.h, hys])
    (fun i v hv => let ⟨a, n, T, t, u, e1, e2, e3⟩ := hsr i v hv; ⟨a, n, T, t, u, e1, by repeat (first | exact e2 | refine List.Mem.tail _ ?_ | refine List.mem_append_right _ ?_), e3⟩) (by lia) (by lia) (by rw [inv.h]; lia) ?oB
    (fun k => if k = 0 then t0 else if k = 1 then t1 else t2) (fun k => if k = 0 then m0 else if k = 1 then m1 else m2) tvf ntf nmf (fun k => (mvf k).toList)
    (fun k i => siX ((flX k ys).getD i 0)) (fun k i => shX ((flX k ys).getD i 0)) (fun k i => lvX ((flX k ys).getD i 0)) (fun k i => (tdf (k, i)).2.1) (fun k i => (tdf (k, i)).2.2.1) (fun k i => (tdf (k, i)).2.2.2) (fun k i => (tdf (k, i)).1)
    (fun k => (flX k ys).map mkX) ?hkB) (by decide) (fun z => ?fB) ?sB (fun _ _ _ h => h)) ?kB (fun f m' nw h => .inl h.1)
  case oB =>
    have n : ∀ x : Addr, @Ne Nat x H → ∀ (p : Addr × Obj), p.1 = x → p.1 ≠ H := fun x h p e => e ▸ h
    refine List.forall_mem_cons.mpr ⟨n Tl (srtNe hS 10 5 rfl rfl (by decide)) _ rfl, List.forall_mem_cons.mpr ⟨n Mk (srtNe hS 14 5 rfl rfl (by decide)) _ rfl, List.forall_mem_cons.mpr ⟨n t0 (srtNe hS 7 5 rfl rfl (by decide)) _ rfl, List.forall_mem_cons.mpr ⟨n t1 (srtNe hS 8 5 rfl rfl (by decide)) _ rfl, List.forall_mem_cons.mpr ⟨n t2 (srtNe hS 9 5 rfl rfl (by decide)) _ rfl, List.forall_mem_cons.mpr ⟨n m0 (srtNe hS 11 5 rfl rfl (by decide)) _ rfl, List.forall_mem_cons.mpr ⟨n m1 (srtNe hS 12 5 rfl rfl (by decide)) _ rfl, List.forall_mem_cons.mpr ⟨n m2 (srtNe hS 13 5 rfl rfl (by decide)) _ rfl, List.forall_mem_cons.mpr ⟨n c1 (srtNe hS 0 5 rfl rfl (by decide)) _ rfl, List.forall_mem_cons.mpr ⟨n c2 (srtNe hS 1 5 rfl rfl (by decide)) _ rfl, List.forall_mem_cons.mpr ⟨n c3 (srtNe hS 2 5 rfl rfl (by decide)) _ rfl, fun p hp => big p hp H (srtLe hS 5 14 rfl rfl (by decide))⟩⟩⟩⟩⟩⟩⟩⟩⟩⟩⟩
  case hkB =>
    intro k hk
    have hT := inv.t k hk
    refine ⟨⟨?_, ?_, ?_, ?_, by rw [hT]; exact lenF k⟩, ?_, fun i hi => ⟨⟨siX_bd _, shX_bd _, lvX_bd _, ?_⟩, ?_, ?_, ?_⟩, ?_, fun i hi => ?_, inv.m k hk⟩
    · rcases (by lia : k = 0 ∨ k = 1 ∨ k = 2) with rfl | rfl | rfl <;> rfl
    · rcases (by lia : k = 0 ∨ k = 1 ∨ k = 2) with rfl | rfl | rfl <;> simp
    · rcases (by lia : k = 0 ∨ k = 1 ∨ k = 2) with rfl | rfl | rfl <;> rfl
    · rcases (by lia : k = 0 ∨ k = 1 ∨ k = 2) with rfl | rfl | rfl <;> simp
    · rw [dataX_filter ys hk, List.length_map, hT]
    · exact (htd (k, i) hk (by rw [hT] at hi; exact hi)).1
    · rw [dataX_filter ys hk, List.map_map, List.getElem?_map, hxk k i (by rw [hT] at hi; exact hi)]; rfl
    · exact (htd (k, i) hk (by rw [hT] at hi; exact hi)).2.1
    · have q := (htd (k, i) hk (by rw [hT] at hi; exact hi)).2.2
      simp only [List.mem_cons]
      iterate 9 right
      exact q
    · rw [List.length_map, hT]
    · rw [List.getElem?_map, hxk k i (by rw [hT] at hi; exact hi)]; rfl
  case fB =>
    by_cases w1 : z = Str.ofString "table"
    · subst w1; rw [hm1]; rfl
    by_cases w2 : z = Str.ofString "told"
    · subst w2; rw [hm1]; rfl
    by_cases w3 : z = Str.ofString "marks"
    · subst w3; rw [hm1]; rfl
    simp only [if_neg w1, if_neg w2, if_neg w3]
  case sB => lcg_sub
  case kB =>
  rintro fr2 nw2 ⟨-, Rw, Pc, wv, pv, n1, n2, Ow, Pl, vs, pls, no, np, dyn, ⟨hm2, ewv, epv, hj, hdyn⟩, hst, hPR, rfl⟩
  have memc1 : (c1, o1) ∈ (Tb, instObj 220 Td) :: (Td, dictOf [{ hash := PyData.keyHash w.params (PySem.Str.ofString "_headers"), key := .str (PySem.Str.ofString "_headers") k0, val := .ref H }] 1) :: (H, PySem.W.listOf hs nh) :: (Tl, PySem.W.listOf #[.ref t0, .ref t1, .ref t2] 0) :: (Mk, PySem.W.listOf #[.ref m0, .ref m1, .ref m2] 0) :: (t0, PySem.W.listOf (tvf 0) (ntf 0)) :: (t1, PySem.W.listOf (tvf 1) (ntf 1)) :: (t2, PySem.W.listOf (tvf 2) (ntf 2)) :: (m0, PySem.W.listOf (mvf 0) (nmf 0)) :: (m1, PySem.W.listOf (mvf 1) (nmf 1)) :: (m2, PySem.W.listOf (mvf 2) (nmf 2)) :: (c1, o1) :: (c2, o2) :: (c3, o3) :: ext := by k_mem
  have memc2 : (c2, o2) ∈ (Tb, instObj 220 Td) :: (Td, dictOf [{ hash := PyData.keyHash w.params (PySem.Str.ofString "_headers"), key := .str (PySem.Str.ofString "_headers") k0, val := .ref H }] 1) :: (H, PySem.W.listOf hs nh) :: (Tl, PySem.W.listOf #[.ref t0, .ref t1, .ref t2] 0) :: (Mk, PySem.W.listOf #[.ref m0, .ref m1, .ref m2] 0) :: (t0, PySem.W.listOf (tvf 0) (ntf 0)) :: (t1, PySem.W.listOf (tvf 1) (ntf 1)) :: (t2, PySem.W.listOf (tvf 2) (ntf 2)) :: (m0, PySem.W.listOf (mvf 0) (nmf 0)) :: (m1, PySem.W.listOf (mvf 1) (nmf 1)) :: (m2, PySem.W.listOf (mvf 2) (nmf 2)) :: (c1, o1) :: (c2, o2) :: (c3, o3) :: ext := by k_mem
  have memc3 : (c3, o3) ∈ (Tb, instObj 220 Td) :: (Td, dictOf [{ hash := PyData.keyHash w.params (PySem.Str.ofString "_headers"), key := .str (PySem.Str.ofString "_headers") k0, val := .ref H }] 1) :: (H, PySem.W.listOf hs nh) :: (Tl, PySem.W.listOf #[.ref t0, .ref t1, .ref t2] 0) :: (Mk, PySem.W.listOf #[.ref m0, .ref m1, .ref m2] 0) :: (t0, PySem.W.listOf (tvf 0) (ntf 0)) :: (t1, PySem.W.listOf (tvf 1) (ntf 1)) :: (t2, PySem.W.listOf (tvf 2) (ntf 2)) :: (m0, PySem.W.listOf (mvf 0) (nmf 0)) :: (m1, PySem.W.listOf (mvf 1) (nmf 1)) :: (m2, PySem.W.listOf (mvf 2) (nmf 2)) :: (c1, o1) :: (c2, o2) :: (c3, o3) :: ext := by k_mem
  -- the marks of the stalks
  generalize hR : (fun k => (flX k ys).map mkX) = R at *
  have eR : ∀ k, R k = (flX k ys).map mkX := fun k => by rw [← hR]
  have lR : ∀ k, (R k).length = (flX k ys).length := fun k => by rw [eR, List.length_map]
  simp only [← eR] at hj
  have G : Good3 R := ⟨fun k _ x hx => by
    rw [eR] at hx
    obtain ⟨y, _, rfl⟩ := List.mem_map.mp hx
    exact mkT_three _ _, by rw [lR, lR, lR]; have := flX_sum ys; lia⟩
  have l7 : ∀ k, (R k).length ≤ 7 := fun k => by rw [lR]; exact lenF k
  have hz : ∀ k, k < 3 → ((vs k).toArray.size : Int) + 1 = zfR R k := fun k hk => by
    rw [List.size_toArray, (hj k hk).2.2.1.length]; rfl
  refine SegC.seq (SegC.conv (turnS1 w mean mg mb fr2 ((Pc, PySem.W.listOf pv n2) :: (c2, o2) :: (c3, o3) :: dyn) c1 c2 c3 Rw o1 v1 wv n1 Ow (fun k => (vs k).toArray) no d1 ewv
    (fun k hk => ⟨(hj k hk).1, by repeat (first | exact (hj k hk).2.2.2.2.1 | refine List.Mem.tail _ ?_ | refine List.mem_append_right _ ?_), by rw [List.size_toArray, (hj k hk).2.2.1.length]; exact l7 k⟩) ?e1 (hst _ memc1).1.symm) (by decide) (fun z => ?fS) ?sS (fun _ _ _ h => h)) ?kS (fun f m' nw h => .inl h.1)
  case e1 => exact List.forall_mem_cons.mpr ⟨(hst _ memc1).2.symm, List.forall_mem_cons.mpr ⟨Nat.ne_of_gt hc.1, List.forall_mem_cons.mpr ⟨Nat.ne_of_gt (Nat.lt_trans hc.1 hc.2.1), fun y hy => ((hdyn y hy).2.2 _ memc1).symm⟩⟩⟩
  case fS =>
    by_cases w1 : z = Str.ofString "rows"
    · subst w1; rw [hm2 _ (by unfold junkB; decide) (by decide)]; rfl
    simp only [if_neg w1]
  case sS => lcg_sub
  case kS =>
  rintro fr3 nw3 ⟨-, hm3, Sz, zv, o1', d1', hSz, lzv, hzv, rfl⟩
  obtain ⟨tz, htz⟩ := Classical.axiomOfChoice (fun k : Nat => show ∃ t, k < 3 → zv[k]? = some (.int (zfR R k) t) from
    if h : k < 3 then let ⟨t, e⟩ := hzv k h; ⟨t, fun _ => by rw [e]; simp only [hz k h]⟩ else ⟨0, fun x => absurd x h⟩)
  have zb : ∀ k, 1 ≤ zfR R k ∧ zfR R k ≤ 8 := fun k => ⟨zfR_pos k, by have := l7 k; unfold zfR; lia⟩
  refine SegC.seq (SegC.conv (turnS2 w mean mg mb fr3 ((Rw, PySem.W.listOf wv n1) :: (Pc, PySem.W.listOf pv n2) :: (c3, o3) :: dyn) c1 c2 c3 Sz o1' o2 v2 zv.toArray zv.length (zfR R 1) (zfR R 2) (tz 1) (tz 2) d1' d2
    (by rw [List.getElem?_toArray]; exact htz 1 (by decide)) (by rw [List.getElem?_toArray]; exact htz 2 (by decide)) (zb 1) (zb 2) (Nat.ne_of_lt hc.1) ?e2 ?e3) (by decide) (fun z => rfl) ?sT (fun _ _ _ h => h)) ?kT (fun f m' nw h => .inl h.1)
  case e2 => exact Ne.symm (hSz (c2, o2) (by k_mem))
  case e3 => exact List.forall_mem_cons.mpr ⟨(hst _ memc2).1.symm, List.forall_mem_cons.mpr ⟨(hst _ memc2).2.symm, List.forall_mem_cons.mpr ⟨Nat.ne_of_gt hc.2.1, fun y hy => ((hdyn y hy).2.2 _ memc2).symm⟩⟩⟩
  case sT => lcg_sub
  case kT =>
  rintro fr4 nw4 ⟨-, Fi, St, o2', n3, n4, u1, u2, u3, hm4, d2', nSt, nFi, nSF, rfl⟩
  have gets : ∀ (us : List Value) (ns : List Int), IntsAre us ns → ∀ j, j < ns.length → ∃ t, us[j]? = some (.int (ns.getD j 0) t) := fun us ns hI j hlt => by
    have hl := hI.length
    obtain ⟨n, t, e1, e2⟩ := hI.at j _ (List.getElem?_eq_getElem (by lia))
    exact ⟨t, by rw [List.getElem?_eq_getElem (by lia), e1, List.getD_eq_getElem?_getD, e2]; rfl⟩
  obtain ⟨tf, htf⟩ := Classical.axiomOfChoice (fun p : Nat × Nat => show ∃ t, p.1 < 3 → p.2 < (R p.1).length → (vs p.1)[p.2]? = some (.int (xfR R p.1 p.2) t) from
    if h : p.1 < 3 then if h2 : p.2 < (R p.1).length then let ⟨t, e⟩ := gets _ _ (hj p.1 h).2.2.1 p.2 h2; ⟨t, fun _ _ => e⟩ else ⟨0, fun _ x => absurd x h2⟩ else ⟨0, fun x => absurd x h⟩)
  obtain ⟨tq, htq⟩ := Classical.axiomOfChoice (fun p : Nat × Nat => show ∃ t, p.1 < 3 → p.2 < (R p.1).length + 1 → (pls p.1)[p.2]? = some (.int (pfR R p.1 p.2) t) from by
    by_cases h : p.1 < 3
    · by_cases h2 : p.2 < (R p.1).length + 1
      · have hI := (hj p.1 h).2.2.2.1
        have hwl := (wSt_len (R p.1)).1
        rw [places_worths (R p.1) (l7 _) (G.mks p.1 h)] at hI
        obtain ⟨t, e⟩ := gets _ _ hI p.2 (by rw [List.length_map, hwl]; exact h2)
        refine ⟨t, fun _ _ => ?_⟩
        rw [e, List.getD_eq_getElem?_getD, List.getElem?_map, List.getElem?_eq_getElem (by lia)]
        unfold pfR Mine.wv
        rw [List.getD_eq_getElem?_getD, List.getElem?_eq_getElem (by lia)]
        rfl
      · exact ⟨0, fun _ x => absurd x h2⟩
    · exact ⟨0, fun x => absurd x h⟩)
  refine SegC.seq (SegC.conv (turnE w mean mg mb fr4 dyn c1 c2 c3 Fi Sz St Rw Pc o1' o2' o3 (sfR R) (zfR R) (fun i => if i = 0 then u1 else if i = 1 then u2 else u3) tz v3 zv.toArray #[.int (zfR R 1 * zfR R 2) u1, .int (zfR R 2) u2, .int 1 u3] wv pv n3 zv.length n4 n1 n2
    Ow Pl (fun k => (vs k).toArray) (fun k => (pls k).toArray) no np (xfR R) (pfR R) (fun k j => tf (k, j)) (fun k j => tq (k, j)) d1' d2' d3 ?hS ?hZ ?hrow ?hpl ?hne ?hne3 ?hF3 (fun spot h0 h1 => game1 G spot h0 h1) (fun spot h0 h1 => game2 G spot h0 h1)) (by decide) (fun z => ?fE) ?sE (fun _ _ _ h => h)) ?kE (fun f m' nw h => .inl h)
  case hS =>
    intro i hi
    have a := zb 1
    have b := zb 2
    have ab : zfR R 1 * zfR R 2 ≤ 100 := Int.le_trans (Int.mul_le_mul a.2 b.2 (by lia) (by lia)) (by lia)
    have ab1 : 1 ≤ zfR R 1 * zfR R 2 := Int.mul_pos (by lia) (by lia)
    rcases (by lia : i = 0 ∨ i = 1 ∨ i = 2) with rfl | rfl | rfl
    · exact ⟨rfl, ab1, ab⟩
    · exact ⟨rfl, b.1, by show zfR R 2 ≤ 100; lia⟩
    · exact ⟨rfl, by show (1 : Int) ≤ 1; decide, by show (1 : Int) ≤ 100; decide⟩
  case hZ => exact fun i hi => ⟨by rw [List.getElem?_toArray]; exact htz i hi, zb i⟩
  case hrow => exact fun k hk => ⟨(hj k hk).1, (hj k hk).2.2.2.2.1, fun j hlt => by rw [List.getElem?_toArray]; exact htf (k, j) hk (show j < (R k).length by unfold zfR at hlt; lia)⟩
  case hpl => exact fun k hk => ⟨(hj k hk).2.1, (hj k hk).2.2.2.2.2, fun j hlt => by rw [List.getElem?_toArray]; exact htq (k, j) hk (show j < (R k).length + 1 by unfold zfR at hlt; lia)⟩
  case hne => exact List.forall_mem_cons.mpr ⟨nFi (Sz, PySem.W.listOf zv.toArray zv.length) (.tail _ (.tail _ (.head _))), List.forall_mem_cons.mpr ⟨nSF, List.forall_mem_cons.mpr ⟨nFi (Rw, PySem.W.listOf wv n1) (.tail _ (.tail _ (.tail _ (.head _)))), List.forall_mem_cons.mpr ⟨nFi (Pc, PySem.W.listOf pv n2) (.tail _ (.tail _ (.tail _ (.tail _ (.head _))))), List.forall_mem_cons.mpr ⟨nFi (c1, o1') (.tail _ (.head _)), List.forall_mem_cons.mpr ⟨nFi (c2, o2) (.head _), fun y hy => nFi y (.tail _ (.tail _ (.tail _ (.tail _ (.tail _ (.tail _ hy))))))⟩⟩⟩⟩⟩⟩
  case hne3 => exact List.forall_mem_cons.mpr ⟨Ne.symm (hSz (c3, o3) (by k_mem)), List.forall_mem_cons.mpr ⟨Ne.symm (nSt (c3, o3) (by k_mem)), List.forall_mem_cons.mpr ⟨(hst _ memc3).1.symm, List.forall_mem_cons.mpr ⟨(hst _ memc3).2.symm, List.forall_mem_cons.mpr ⟨Nat.ne_of_lt (Nat.lt_trans hc.1 hc.2.1), List.forall_mem_cons.mpr ⟨Nat.ne_of_lt hc.2.1, fun y hy => ((hdyn y hy).2.2 _ memc3).symm⟩⟩⟩⟩⟩⟩
  case hF3 => exact nFi (c3, o3) (by k_mem)
  case fE =>
    by_cases w1 : z = Str.ofString "first"
    · subst w1; rw [hm4]; rfl
    by_cases w2 : z = Str.ofString "rows"
    · subst w2; rw [hm4, if_neg w1, hm3]; rfl
    by_cases w3 : z = Str.ofString "places"
    · subst w3; rw [hm4, if_neg w1, hm3, if_neg w2, hm2 _ (by unfold junkB; decide) (by decide)]; rfl
    simp only [if_neg w1, if_neg w2, if_neg w3]
  case sE => lcg_sub
  case kE =>
  rintro fr5 nw5 -
  exact turnR w mean mg mb (cells3 c1 c2 c3) fr5 nw5
end Mine
end

section
open PySem PySem.W PyProof.Rows PySem.Spec PySem.Calls
set_option maxRecDepth 100000
set_option maxHeartbeats 4000000
namespace Mine
theorem bodyL : lawD.body = [stAt lawD.body 0, stAt lawD.body 1, stAt lawD.body 2] ++ ([stAt lawD.body 3] ++ ([stAt lawD.body 4] ++ ([stAt lawD.body 5, stAt lawD.body 6] ++ ([stAt lawD.body 7] ++ ([stAt lawD.body 8, stAt lawD.body 9] ++ ([stAt lawD.body 10] ++ [stAt lawD.body 11])))))) := by rfl
theorem lawAll (w : World) (mean : ExcName → Option Value) (mg mb : Str → Option Value) (B : Str → Option Value) (c1 c2 c3 Sc : Addr) (o1 o2 o3 : Obj) (v1 v2 v3 : Option Value) (vs : List Value) (xs : List Int) (hI : IntsAre vs xs) (hx : xs.length ≤ 63)
    (d1 : o1.data = .cell v1) (d2 : o2.data = .cell v2) (d3 : o3.data = .cell v3) (hc : @LT.lt Nat _ c1 c2 ∧ @LT.lt Nat _ c2 c3) :
    SegH 60 w mean mg mb (cells3 c1 c2 c3) Sc vs lawD.body (fun z => if z = Str.ofString "script" then some (.ref Sc) else B z) [(c3, o3), (c2, o2), (c1, o1)] (fun f m' nw => f = .ret (.bool true)) := by
  intro dp un gd a ccd outer A₀ base h₀ L s Q E hL B' F X N T hd hu hret
  rw [bodyL, execs_append]
  refine wpAny_bind (turnP1 w mean mg mb _ [(c3, o3), (c2, o2), (c1, o1)] c1 c2 c3 dp un gd a ccd outer A₀ base h₀ L s _ E B' F X N T hd hu ?_)
  rintro f m1 nw1 h1 tk1 F1 N1 ⟨rfl, Sg, La, Td, Tb, H, Du, t0, t1, t2, Tl, m0, m1', m2', Mk, k0, k1, k2, k3, k4, k5, k6, k7, sg, hm1, hsg, ho, hr, rfl⟩
  dsimp only
  rw [execs_append]
  obtain rfl : m1 = _ := funext fun z => show m1 z = (if z = Str.ofString "script" then some (.ref Sc) else if z = Str.ofString "lacking" then some (.ref La) else if z = Str.ofString "marks" then some (.ref Mk) else if z = Str.ofString "told" then some (.ref Tl) else if z = Str.ofString "due" then some (.ref Du) else if z = Str.ofString "table" then some (.ref Tb) else if z = Str.ofString "signs" then some (.ref Sg) else B z) from by
    rw [hm1 z]
    by_cases w1 : z = Str.ofString "script"
    · subst w1; rfl
    by_cases w2 : z = Str.ofString "lacking"
    · subst w2; rfl
    simp only [if_neg w1, if_neg w2]
  refine wpAny_bind (turnQ w mean mg mb B [(c3, o3), (c2, o2), (c1, o1)] c1 c2 c3 Sc La Sg Td Tb H Du t0 t1 t2 Tl m0 m1' m2' Mk k0 sg vs [.int 1562 k1, .int 4615 k2, .int 3548 k3, .int 3893 k4, .int 1389 k5, .int 5492 k6, .int 552 k7] xs 0 hI hx [1562, 4615, 3548, 3893, 1389, 5492, 552] rfl
    (.cons _ _ (.cons _ _ (.cons _ _ (.cons _ _ (.cons _ _ (.cons _ _ (.cons _ _ .nil))))))) hsg ho hr dp un gd a ccd outer A₀ base h₀ L { s with heap := h1, toks := tk1 } _ E hL B' F1 X N1 T hd hu ?_)
  rintro f m2 nw2 h2 tk2 F2 N2 ⟨rfl, hs, du, nh, nd, tvf, mvf, ntf, nmf, ext, Li, ws, nw0, hm2, inv, hext, rfl⟩
  dsimp only
  have q3 := hr (c3, o3) (.head _)
  have hys : (xs.take 7 ++ [1562, 4615, 3548, 3893, 1389, 5492, 552].drop (xs.take 7).length).length = 7 := by
    exact seven xs _ rfl
  have F3 : Fr h₀ L h2 (fun z => if z = Str.ofString "marks" then some (.ref Mk) else if z = Str.ofString "told" then some (.ref Tl) else if z = Str.ofString "due" then some (.ref Du) else if z = Str.ofString "table" then some (.ref Tb) else m2 z) := by
    refine (congrArg (Fr h₀ L h2) (funext fun z => ?_)).mp F2
    by_cases w1 : z = Str.ofString "marks"
    · subst w1; exact hm2 _ (by unfold junkA; decide)
    by_cases w2 : z = Str.ofString "told"
    · subst w2; exact hm2 _ (by unfold junkA; decide)
    by_cases w3 : z = Str.ofString "due"
    · subst w3; exact hm2 _ (by unfold junkA; decide)
    by_cases w4 : z = Str.ofString "table"
    · subst w4; exact hm2 _ (by unfold junkA; decide)
    simp only [if_neg w1, if_neg w2, if_neg w3, if_neg w4]
  exact lawRest w mean mg mb m2 ext c1 c2 c3 Td Tb H Du t0 t1 t2 Tl m0 m1' m2' Mk o1 o2 o3 v1 v2 v3 k0 hs du nh nd tvf mvf ntf nmf _ hys d1 d2 d3 ⟨hc.1, hc.2, Nat.lt_trans q3 (Nat.lt_trans ho.1 ho.2.1)⟩ ho.2.2 inv (fun p hp => hext p (.tail _ hp)) dp un gd a ccd outer A₀ base h₀ L { s with heap := h2, toks := tk2 } Q E B' F3 X (news_sub N2 (by lcg_sub)) T hd hu fun f m' nw h' tk' F' N' hR => hret f m' nw h' tk' F' N' hR
end Mine
end

section
open PySem PySem.W PyProof.Rows PySem.Spec PySem.Calls
set_option maxRecDepth 100000
set_option maxHeartbeats 4000000
namespace Mine
theorem frame_ex {h₀ h : Heap} {L : Addr} {m : Str → Option Value} {x : Str} {v : Value} (F : Fr h₀ L h m) (e : m x = some v) : Fr h₀ L h (fun z => if z = x then some v else m z) := by
  refine (congrArg (Fr h₀ L h) (funext fun z => ?_)).mp F
  by_cases w1 : z = x
  · rw [if_pos w1, w1, e]
  · rw [if_neg w1]
theorem walk : WalkL PySem.Challenge.rw_sr0079_01.row.toRowW := by
  w_top off
  unfold WalkL lawD lawQ
  dsimp only
  w_on
  k_go0
  rename Below _ _ _ _ => K0
  rename Fr _ _ _ _ => frX
  rename News _ _ _ _ => N
  rename Top _ _ _ _ _ _ => T
  rename Frag.In _ _ => KX
  rename PySem.Heap.IsList _ _ _ => hL
  rename IntsAre _ _ => hI
  rename_i o3 o2 o1 d3 d2 d1 _
  refine lawAll _ _ _ _ _ _ _ _ _ _ _ _ _ _ _ _ _ hI ?hx d1 d2 d3 ?hc _ _ _ _ _ _ _ _ _ _ _ _ _ hL K0 (frame_ex frX ?eFr) KX N T ?hd ?hu ?hret
  case hx => omega
  case hc => exact ⟨Nat.lt_succ_self _, Nat.lt_succ_self _⟩
  case hd => decide
  case hu => decide
  case eFr => with_unfolding_all rfl
  case hret =>
    rintro f m' nw h' tk' F' N' rfl
    first | (k_end; wrow_close) | wrow_close
end Mine
end

section
open PySem PySem.W PyProof.Rows PySem.Spec PySem.Calls
set_option maxRecDepth 100000
set_option maxHeartbeats 8000000
namespace Mine
/-- what the top of the program leaves, as thr's head has shown it -/
theorem leftO : LeftO PySem.Challenge.rw_sr0079_01.row.toRowW.prog thr.view_1_2 [Str.ofString "EXACT_TOKEN_TYPES", Str.ofString "tspecials", Str.ofString "_name_disallowed_re", Str.ofString "_value_disallowed_re", Str.ofString "_formatparam"]
    (fun s => xlAt thr.view_1_2 [] s && recOk (RowW.records PySem.Challenge.rw_sr0079_01.row.toRowW) s)
    (kHook thr.heap_1_1 [2,3,32,34,35,37,38,39,42,44,45,47,48,49,51,52,54,55,56,58,59,61,62,63,65,66,68,69,70,72,73,75,76,80,81,85,86,90,91,92,93,95,96,98,99,107,108,110,111,113,114,115,117,118,120,121,122,124,125,127,128,129,131,132,134,135,136,139,140,141,143,144,146,147,148,150,151,153,154,155,158,159,160,161,163,164,166,167,168,171,172,173,176,177,178,180,181,183,184,185,187,188,190,191,192,195,196,197,199,200,202,203,204,206,207,209,210,211,213,214,216,217,218,219,220,221,222,225,227,228,230,231,232,235,236,237,240,241] (fun _ => by kernel_rfl)).obs (kHook thr.heap_1_1 [2,3,32,34,35,37,38,39,42,44,45,47,48,49,51,52,54,55,56,58,59,61,62,63,65,66,68,69,70,72,73,75,76,80,81,85,86,90,91,92,93,95,96,98,99,107,108,110,111,113,114,115,117,118,120,121,122,124,125,127,128,129,131,132,134,135,136,139,140,141,143,144,146,147,148,150,151,153,154,155,158,159,160,161,163,164,166,167,168,171,172,173,176,177,178,180,181,183,184,185,187,188,190,191,192,195,196,197,199,200,202,203,204,206,207,209,210,211,213,214,216,217,218,219,220,221,222,225,227,228,230,231,232,235,236,237,240,241] (fun _ => by kernel_rfl)).val 5572 :=
  LeftO.of_pieces (H₀ := thr.heap_1_34) (H₁ := thr.heap_1_374) (gs₀ := #[]) (gs₁ := #[]) (d₀ := {}) (d₁ := {}) (k₀ := 276) (k₁ := 831) (m₀ := 28) (ann := some (.ref 6)) (M := _)
    (open_cut (He := fun P => absHeap (thr.tree_1_482 P) 28 {}) (ge := #[]) (de := {}) (ke := 276) thr._proof_1_488 rfl thr._proof_1_490) thr._proof_1_492 thr._proof_1_377 rfl (fun w => funext fun os => thr._proof_1_523 w os)
end Mine
end

section
open PySem PySem.W PyProof.Rows PySem.Spec PySem.Calls
set_option maxRecDepth 100000
set_option maxHeartbeats 4000000
namespace Mine
theorem law5 : PySem.Challenge.rw_sr0079_01.Holds := by
  refine holds_law said0 fun said => ?_
  exact holds_open (XP := XL thr.view_1_2 []) (YP := (kHook thr.heap_1_1 [2,3,32,34,35,37,38,39,42,44,45,47,48,49,51,52,54,55,56,58,59,61,62,63,65,66,68,69,70,72,73,75,76,80,81,85,86,90,91,92,93,95,96,98,99,107,108,110,111,113,114,115,117,118,120,121,122,124,125,127,128,129,131,132,134,135,136,139,140,141,143,144,146,147,148,150,151,153,154,155,158,159,160,161,163,164,166,167,168,171,172,173,176,177,178,180,181,183,184,185,187,188,190,191,192,195,196,197,199,200,202,203,204,206,207,209,210,211,213,214,216,217,218,219,220,221,222,225,227,228,230,231,232,235,236,237,240,241] (fun _ => by kernel_rfl)).says) leftO
    (Hook.of (kHook thr.heap_1_1 [2,3,32,34,35,37,38,39,42,44,45,47,48,49,51,52,54,55,56,58,59,61,62,63,65,66,68,69,70,72,73,75,76,80,81,85,86,90,91,92,93,95,96,98,99,107,108,110,111,113,114,115,117,118,120,121,122,124,125,127,128,129,131,132,134,135,136,139,140,141,143,144,146,147,148,150,151,153,154,155,158,159,160,161,163,164,166,167,168,171,172,173,176,177,178,180,181,183,184,185,187,188,190,191,192,195,196,197,199,200,202,203,204,206,207,209,210,211,213,214,216,217,218,219,220,221,222,225,227,228,230,231,232,235,236,237,240,241] (fun _ => by kernel_rfl))) (Hook.keeps (kHook thr.heap_1_1 [2,3,32,34,35,37,38,39,42,44,45,47,48,49,51,52,54,55,56,58,59,61,62,63,65,66,68,69,70,72,73,75,76,80,81,85,86,90,91,92,93,95,96,98,99,107,108,110,111,113,114,115,117,118,120,121,122,124,125,127,128,129,131,132,134,135,136,139,140,141,143,144,146,147,148,150,151,153,154,155,158,159,160,161,163,164,166,167,168,171,172,173,176,177,178,180,181,183,184,185,187,188,190,191,192,195,196,197,199,200,202,203,204,206,207,209,210,211,213,214,216,217,218,219,220,221,222,225,227,228,230,231,232,235,236,237,240,241] (fun _ => by kernel_rfl)))
    (fun s e => xl_of s (Bool.and_eq_true_iff.mp e).1) XL.keeps (by rfl) (by rfl) (by rfl) (fun s e => recFacts_of (Bool.and_eq_true_iff.mp e).2) (by rfl) said (by decide +kernel)
    ⟨rfl, rfl, rfl, rfl, rfl, by decide +kernel⟩ (by w_witness2) walk
end Mine
end

end
theorem PySem.Challenge.cw_sr0079_01_holds : PySem.Challenge.rw_sr0079_01.Holds :=
  Mine.law5

import PyProof.Rows.All
import Wide.All
import OpenK.AllK
import Wide.FinOn
import PySem.Challenge.RW_pm0069_01
open PySem PySem.W PyProof.Rows PySem.Calls
set_option Elab.async false
namespace Mine
set_option maxRecDepth 100000 in
set_option maxHeartbeats 8000000 in
open_top hd for PySem.Challenge.rw_pm0069_01
section
/-- a goal set aside: the walk stops at it -/
def Halt (P : Prop) : Prop := P
theorem Halt.out {P : Prop} (h : Halt P) : P := h
theorem ltS {n m : Nat} (h : n + 1 < m) : n < m := Nat.lt_of_succ_lt h
theorem and_out2 {a1 a2 G : Prop} (h : a1 ∧ a2) (k : a1 → a2 → G) : G := k h.1 h.2
theorem and_out4 {a1 a2 a3 a4 G : Prop} (h : a1 ∧ a2 ∧ a3 ∧ a4) (k : a1 → a2 → a3 → a4 → G) : G := k h.1 h.2.1 h.2.2.1 h.2.2.2
theorem and_out8 {a1 a2 a3 a4 a5 a6 a7 a8 G : Prop} (h : a1 ∧ a2 ∧ a3 ∧ a4 ∧ a5 ∧ a6 ∧ a7 ∧ a8) (k : a1 → a2 → a3 → a4 → a5 → a6 → a7 → a8 → G) : G := k h.1 h.2.1 h.2.2.1 h.2.2.2.1 h.2.2.2.2.1 h.2.2.2.2.2.1 h.2.2.2.2.2.2.1 h.2.2.2.2.2.2.2
theorem iat {vs : List Value} {ns : List Int} (h : IntsAre vs ns) {k : Int} (h0 : 0 ≤ k) (h1 : k < ns.length) : ∃ t, vs[k.toNat]? = some (.int (ns.getD k.toNat 0) t) := by
  obtain ⟨t, ht⟩ := h.get k.toNat (ns.getD k.toNat 0) (by rw [List.getD_eq_getElem?_getD, List.getElem?_eq_getElem (by omega)]; rfl)
  exact ⟨t, ht⟩
/-- how many of the list are less -/
def nlt (ns : List Int) (x : Int) : Nat := ns.countP (fun y => decide (y < x))
/-- how many of the list are not greater -/
def nle (ns : List Int) (x : Int) : Nat := ns.countP (fun y => decide (y ≤ x))
theorem nlt_le (ns : List Int) (x : Int) : nlt ns x ≤ ns.length := List.countP_le_length
theorem nle_le (ns : List Int) (x : Int) : nle ns x ≤ ns.length := List.countP_le_length
theorem cut_lt {p : Int → Bool} (hp : ∀ a b, a ≤ b → p b = true → p a = true) : ∀ {ns : List Int}, ns.Pairwise (· ≤ ·) → ∀ {i : Nat}, i < ns.length → (p (ns.getD i 0) = true ↔ i < ns.countP p)
  | [], _, i, h => by simp at h
  | a :: r, hs, i, h => by
    obtain ⟨h1, h2⟩ := List.pairwise_cons.mp hs
    rw [List.countP_cons]
    by_cases ha : p a = true
    · rw [if_pos ha]
      cases i with
      | zero => simp [ha]
      | succ j =>
        have := cut_lt hp h2 (i := j) (by simpa using h)
        simpa using this
    · rw [if_neg ha]
      have hz : r.countP p = 0 := by
        rw [List.countP_eq_zero]
        intro b hb hpb
        exact ha (hp a b (h1 b hb) hpb)
      rw [hz]
      cases i with
      | zero => simp [ha]
      | succ j =>
        have := cut_lt hp h2 (i := j) (by simpa using h)
        rw [hz] at this
        simpa using this
theorem nlt_iff {ns : List Int} (hs : ns.Pairwise (· ≤ ·)) {x : Int} {i : Nat} (h : i < ns.length) : (ns.getD i 0 < x ↔ i < nlt ns x) := by
  have := cut_lt (p := fun y => decide (y < x)) (fun a b h1 h2 => by simp at h2 ⊢; omega) hs h
  simpa [nlt] using this
theorem nle_iff {ns : List Int} (hs : ns.Pairwise (· ≤ ·)) {x : Int} {i : Nat} (h : i < ns.length) : (ns.getD i 0 ≤ x ↔ i < nle ns x) := by
  have := cut_lt (p := fun y => decide (y ≤ x)) (fun a b h1 h2 => by simp at h2 ⊢; omega) hs h
  simpa [nle] using this
end
section
section
variable {prog : Program} {w : World} {A : Around} {E : Value → Shared → Prop} {Q : Flow → Shared → Prop} {s : Shared} {env : Env} {h₀ : Heap} {L : Addr}

theorem kst_same {m : Str → Option Value} {ps : List (Str × Value)} (hk : ∀ p ∈ ps, m p.1 = some p.2) : kstB m ps = m := funext fun _ => kstB_eq hk fun _ => rfl
/-- what is known of a frame's names, the rest forgotten -/
theorem fr_know {h : Heap} {m : Str → Option Value} (ps : List (Str × Value)) (F : Fr h₀ L h m) (hk : ∀ p ∈ ps, m p.1 = some p.2) : ∃ u, Fr h₀ L h (kstB u ps) := ⟨m, (kst_same hk).symm ▸ F⟩

/-- a turn's end of a loop over a state c -/
inductive LEnd {σ : Type} (h₀ : Heap) (L : Addr) (s : Shared) (Led : σ → List (Addr × Obj)) (ps : σ → List (Str × Value)) (P : σ → Prop) (s₂ : Shared) : Prop
  | mk (c : σ) (h' : Heap) (tk : Nat) (m' : Str → Option Value) : (s₂ = { s with heap := h', toks := tk }) → (Fr h₀ L h' m') → (News h₀ L h' (Led c)) → ((∀ p ∈ ps c, m' p.1 = some p.2)) → (P c) → LEnd h₀ L s Led ps P s₂
def LPost {σ : Type} (h₀ : Heap) (L : Addr) (s : Shared) (Led : σ → List (Addr × Obj)) (ps : σ → List (Str × Value)) (P : σ → Prop) (Q : Flow → Shared → Prop) (f : Flow) (s₂ : Shared) : Prop :=
  match f with
  | .ret v => Q (.ret v) s₂
  | .brk => Q .next s₂
  | _ => LEnd h₀ L s Led ps P s₂
theorem lend {σ : Type} {Led : σ → List (Addr × Obj)} {ps : σ → List (Str × Value)} {P : σ → Prop} (c : σ) {h' : Heap} {tk : Nat} {m' : Str → Option Value} {news : List (Addr × Obj)} (F : Fr h₀ L h' m') (N : News h₀ L h' news) (hs : ∀ p ∈ Led c, p ∈ news)
    (hk : ∀ p ∈ ps c, m' p.1 = some p.2) (hp : P c) : LEnd h₀ L s Led ps P { s with heap := h', toks := tk } := ⟨c, h', tk, m', rfl, F, fun p hp => N p (hs p hp), hk, hp⟩

theorem kw_while {σ : Type} {test : Expr} {body : List Stmt} {pos : Pos} {m₀ : Str → Option Value} (Led : σ → List (Addr × Obj)) (ps : σ → List (Str × Value)) (P : σ → Prop) (μ : σ → Nat) (c₀ : σ) {news : List (Addr × Obj)}
    (F : Fr h₀ L s.heap m₀) (N : News h₀ L s.heap news) (hs : ∀ p ∈ Led c₀, p ∈ news) (hk : ∀ p ∈ ps c₀, m₀ p.1 = some p.2) (hp : P c₀)
    (turn : ∀ (c : σ) (u : Str → Option Value) h tk, P c → Fr h₀ L h (kstB u (ps c)) → News h₀ L h (Led c) →
      wpAny (model prog w) A (isTrue test env (eval test env)) (fun b s₂ =>
        if b = true then wpAny (model prog w) A (execs body env) (LPost h₀ L s Led ps (fun c' => P c' ∧ μ c' < μ c) Q) E s₂ else Q .next s₂) E { s with heap := h, toks := tk })
    (hE : PassesOwn (model prog w) A env E) :
    wpAny (model prog w) A (exec (.While test body [] pos) env) Q E s := by
  refine While_inv2 (fun n m nx => ∃ c : σ, nx = Led c ∧ μ c = n ∧ (∀ p ∈ ps c, m p.1 = some p.2) ∧ P c) F (fun p hp => N p (hs p hp)) ⟨c₀, rfl, rfl, hk, hp⟩ (fun n m₁ nx h tk F₁ N₁ J => ?_) hE
  obtain ⟨c, rfl, rfl, known, holds⟩ := J
  refine wpAny_mono (turn c m₁ h tk holds ((kst_same known).symm ▸ F₁) N₁) (fun b s₂ p => ?_) fun _ _ x => x
  by_cases hb : b = true
  · rw [if_pos hb] at p ⊢
    refine wpAny_mono p (fun f s₃ q => ?_) fun _ _ x => x
    cases f <;> first | exact q | (cases q with | mk c' h' tk' m' e F' N' k' p' => exact ⟨h', tk', m', Led c', μ c', e, F', N', p'.2, c', rfl, rfl, k', p'.1⟩)
  · rw [if_neg hb] at p ⊢
    exact p

/-- a for over an iterator that walks: the state before the turn, the iterator's own objects beside -/
inductive ForAt {σ : Type} (h₀ : Heap) (L : Addr) (s : Shared) (k : Nat) (St : Nat → Heap → Prop) (Led : σ → List (Addr × Obj)) (ps : σ → List (Str × Value)) (P : Nat → σ → Prop) (n : Nat) (s' : Shared) : Prop
  | mk (i : Nat) (c : σ) (h' : Heap) (tk : Nat) (m' : Str → Option Value) : (n = k - i) → (i ≤ k) → (s' = { s with heap := h', toks := tk }) → (St i h') → (Fr h₀ L h' m') → (News h₀ L h' (Led c)) → ((∀ p ∈ ps c, m' p.1 = some p.2)) → (P i c) → ForAt h₀ L s k St Led ps P n s'
theorem kw_for {σ : Type} {target : Expr} {body : List Stmt} {I : Addr} {fp wr : List Addr} {k : Nat} {Pv : Nat → Value → Prop} {St : Nat → Heap → Prop}
    (W : Walks prog w A I fp wr k Pv St) (Led : σ → List (Addr × Obj)) (ps : σ → List (Str × Value)) (P : Nat → σ → Prop) (c₀ : σ) {m₀ : Str → Option Value} {news : List (Addr × Obj)}
    (F : Fr h₀ L s.heap m₀) (N : News h₀ L s.heap news) (hs : ∀ p ∈ Led c₀, p ∈ news) (hk : ∀ p ∈ ps c₀, m₀ p.1 = some p.2) (hp : P 0 c₀) (h0 : St 0 s.heap)
    (hwr : ∀ b ∈ wr, h₀.get? b = none ∧ b ≠ L) (hoff : ∀ i c, P i c → ∀ p ∈ Led c, p.1 ∉ wr)
    (turn : ∀ i v (c : σ) (u : Str → Option Value) h tk, i < k → Pv i v → P i c → St (i + 1) h → Fr h₀ L h (kstB u (ps c)) → News h₀ L h (Led c) →
      wpAny (model prog w) A (letOwnedTupleGo target (.ref I) v) (fun _ s₁ => wpAny (model prog w) A (assign target env v) (fun _ s₂ => wpAny (model prog w) A (execs body env)
        (fun f s₃ => LPost h₀ L s Led ps (P (i + 1)) Q f s₃ ∧ (f = .next ∨ f = .cont → St (i + 1) s₃.heap)) E s₂) E s₁) E { s with heap := h, toks := tk })
    (done : ∀ (c : σ) (u : Str → Option Value) h tk, P k c → Fr h₀ L h (kstB u (ps c)) → News h₀ L h (Led c) → Q .next { s with heap := h, toks := tk })
    (hE : PassesOwn (model prog w) A env E) :
    codeAny (model prog w) A (.forLoop target (.ref I) body [] env) (fun r s' => match r with | .ok f => Q f s' | .error e => cameBackBy (model prog w) A env E e s') s := by
  have keepF : ∀ {h h' : Heap} {m}, Fr h₀ L h m → (∀ b o, b ∉ wr → h.get? b = some o → h'.get? b = some o) → Fr h₀ L h' m := fun {h h' m} F kp =>
    ⟨F.ns.at' fun o e => kp L o (fun hb => (hwr L hb).2 rfl) e, fun b o e => kp b o (fun hb => by rw [(hwr b hb).1] at e; cases e) (F.keep b o e), F.above⟩
  have fr' : ∀ {h : Heap} {m} {c : σ}, Fr h₀ L h m → (∀ p ∈ ps c, m p.1 = some p.2) → Fr h₀ L h (kstB m (ps c)) := fun {h m c} F hk => (kst_same hk).symm ▸ F
  refine codeAny_forLoop_any
    (ForAt h₀ L s k St Led ps P) ?_ k
    ⟨0, c₀, s.heap, s.toks, m₀, rfl, Nat.zero_le _, rfl, h0, F, fun p hp => N p (hs p hp), hk, hp⟩
  rintro n s' ⟨i, c, h', tk, m', rfl, hi, rfl, hSt, F', N', hk', hp'⟩
  by_cases hik : i < k
  · refine W.item i _ _ _ hik hSt fun v h1 tk1 hv hSt1 kp => ?_
    have F1 := keepF F' kp
    have N1 : News h₀ L h1 (Led c) := fun p hp => ⟨kp p.1 p.2 (hoff i c hp' p hp) (N' p hp).1, (N' p hp).2⟩
    refine wpAny_mono (turn i v c m' h1 tk1 hik hv hp' hSt1 (fr' F1 hk') N1) (fun _ s₁ q1 => ?_) hE
    refine wpAny_mono q1 (fun _ s₂ q2 => ?_) hE
    refine wpAny_mono q2 (fun f s₃ q3 => ?_) hE
    obtain ⟨q3, q4⟩ := q3
    cases f with
    | ret v => exact q3
    | brk => exact q3
    | next =>
      obtain ⟨c', h', tk', m', rfl, F', N', hk9, hp9⟩ := q3
      exact ⟨k - (i + 1), by omega, i + 1, c', h', tk', m', rfl, hik, rfl, q4 (.inl rfl), F', N', hk9, hp9⟩
    | cont =>
      obtain ⟨c', h', tk', m', rfl, F', N', hk9, hp9⟩ := q3
      exact ⟨k - (i + 1), by omega, i + 1, c', h', tk', m', rfl, hik, rfl, q4 (.inr rfl), F', N', hk9, hp9⟩
  · have hik' : i = k := by omega
    subst hik'
    refine W.done _ _ _ hSt fun h1 tk1 kp => wpAny_execs_nil ?_
    have F1 := keepF F' kp
    have N1 : News h₀ L h1 (Led c) := fun p hp => ⟨kp p.1 p.2 (hoff i c hp' p hp) (N' p hp).1, (N' p hp).2⟩
    exact done c m' h1 tk1 hp' (fr' F1 hk') N1

theorem owned_list {I l : Addr} {i : Nat} {target : Expr} {v : Value} {R : Unit → Shared → Prop} (hit : s.heap.IsListIter I l i) (h : R () s) :
    wpAny (model prog w) A (letOwnedTupleGo target (.ref I) v) R E s := by
  obtain ⟨o, ho, hc, hd⟩ := hit
  unfold letOwnedTupleGo
  split
  · cases v with
    | ref a =>
      refine wpAny_bind (wpAny_load ho ?_)
      rw [hc, hd]
      exact wpAny_pure h
    | _ => exact wpAny_pure h
  · cases v with
    | ref a =>
      refine wpAny_bind (wpAny_load ho ?_)
      rw [hc, hd]
      exact wpAny_pure h
    | _ => exact wpAny_pure h
  · exact wpAny_pure h

theorem kw_list {σ : Type} {target : Expr} {body : List Stmt} {items : List Value} {l : Addr} {nl : Nat} (hh : A.handled = none)
    (Led : σ → List (Addr × Obj)) (ps : σ → List (Str × Value)) (P : Nat → σ → Prop) (c₀ : σ) {m₀ : Str → Option Value} {news : List (Addr × Obj)}
    (F : Fr h₀ L s.heap m₀) (N : News h₀ L s.heap news) (hs : ∀ p ∈ Led c₀, p ∈ news) (hk : ∀ p ∈ ps c₀, m₀ p.1 = some p.2) (hp : P 0 c₀)
    (hl : ∀ c, (l, listOf items.toArray nl) ∈ Led c)
    (turn : ∀ i v (c : σ) (u : Str → Option Value) I oI h tk, items[i]? = some v → P i c → (∀ p ∈ Led c, p.1 ≠ I) → Fr h₀ L h (kstB u (ps c)) → News h₀ L h ((I, oI) :: Led c) →
      wpAny (model prog w) A (assign target env v) (fun _ s₂ => wpAny (model prog w) A (execs body env)
        (LPost h₀ L s (fun c => (I, oI) :: Led c) ps (fun c' => P (i + 1) c' ∧ ∀ p ∈ Led c', p.1 ≠ I) Q) E s₂) E { s with heap := h, toks := tk })
    (done : ∀ (c : σ) (u : Str → Option Value) h tk, P items.length c → Fr h₀ L h (kstB u (ps c)) → News h₀ L h (Led c) → Q .next { s with heap := h, toks := tk })
    (hE : PassesOwn (model prog w) A env E) :
    wpAny (model prog w) A (pyIter (.ref l)) (fun it s₂ => codeAny (model prog w) A (.forLoop target it body [] env) (fun r s' => match r with | .ok f => Q f s' | .error e => cameBackBy (model prog w) A env E e s') s₂) E s := by
  have hl0 : s.heap.get? l = some (listOf items.toArray nl) := (N _ (hs _ (hl c₀))).1
  refine wpAny_pyIter_list ⟨_, hl0, rfl, nl, rfl⟩ ?_
  have hlt : l < s.heap.objs.size := Heap.lt_size hl0
  have hne : l ≠ s.heap.objs.size := Nat.ne_of_lt hlt
  have W := Walks.list (prog := prog) (w := w) hh s.heap.objs.size l hne items.toArray
  have hI0 : h₀.get? s.heap.objs.size = none := by
    cases hq : h₀.get? s.heap.objs.size with
    | none => rfl
    | some o' => exact absurd (Heap.lt_size (F.keep _ _ hq)) (Nat.lt_irrefl _)
  have hIL : s.heap.objs.size ≠ L := Nat.ne_of_gt F.ns.lt
  refine kw_for W Led ps (fun i c => P i c ∧ ∀ p ∈ Led c, p.1 ≠ s.heap.objs.size) c₀ (F.push _) (News.push F N _) (fun p hp => .tail _ (hs p hp)) hk
    ⟨hp, fun p hp => Nat.ne_of_lt (Heap.lt_size (N p (hs p hp)).1)⟩ ⟨⟨_, Heap.get?_push_size _ rfl, rfl, rfl⟩, ⟨_, Heap.get?_push_of_some _ hl0, rfl, nl, rfl⟩⟩
    (fun b hb => by rw [List.mem_singleton.mp hb]; exact ⟨hI0, hIL⟩) (fun i c hc p hp hb => hc.2 p hp (List.mem_singleton.mp hb)) ?_ ?_ hE
  · rintro i v c u h tk hik hv ⟨hPi, hoff⟩ hSt F1 N1
    refine owned_list hSt.1 ?_
    obtain ⟨oI, hoI, hcI, hdI⟩ := hSt.1
    have N2 : News h₀ L h ((s.heap.objs.size, oI) :: Led c) := fun p hp => by
      rcases List.mem_cons.mp hp with rfl | hp
      · exact ⟨hoI, hIL, hI0⟩
      · exact N1 p hp
    have ht := turn i v c u s.heap.objs.size oI h tk (by simpa using hv) hPi hoff F1 N2
    refine wpAny_mono ht (fun _ s₂ q2 => ?_) fun _ _ x => x
    refine wpAny_mono q2 (fun f s₃ q3 => ?_) fun _ _ x => x
    have fin : ∀ s₃, LEnd h₀ L s (fun c => (s.heap.objs.size, oI) :: Led c) ps (fun c' => P (i + 1) c' ∧ ∀ p ∈ Led c', p.1 ≠ s.heap.objs.size) s₃ →
        LEnd h₀ L { s with heap := s.heap.push { cls := .type "list_iterator", data := .fields #[.ref l, .int 0 0] } } Led ps (fun c => P (i + 1) c ∧ ∀ p ∈ Led c, p.1 ≠ s.heap.objs.size) s₃ ∧ (s₃.heap.IsListIter s.heap.objs.size l (i + 1) ∧ s₃.heap.IsList l items.toArray) := by
      rintro s₃ ⟨c', h', tk', m', rfl, F', N', hk', hP'⟩
      refine ⟨⟨c', h', tk', m', rfl, F', fun p hp => N' p (.tail _ hp), hk', hP'⟩, ⟨oI, (N' _ (.head _)).1, hcI, hdI⟩, ⟨_, (N' _ (.tail _ (hl c'))).1, rfl, nl, rfl⟩⟩
    cases f with
    | ret v => exact ⟨q3, fun h => by rcases h with h | h <;> cases h⟩
    | brk => exact ⟨q3, fun h => by rcases h with h | h <;> cases h⟩
    | next => exact ⟨(fin _ q3).1, fun _ => (fin _ q3).2⟩
    | cont => exact ⟨(fin _ q3).1, fun _ => (fin _ q3).2⟩
  · rintro c u h tk ⟨hPk, hoff⟩ F1 N1
    exact done c u h tk (by simpa using hPk) F1 N1
end
end
section
section
variable {prog : Program} {w : World} {A : Around} {E : Value → Shared → Prop} {Q : Flow → Shared → Prop} {s : Shared} {env : Env} {h₀ : Heap} {L : Addr} {K : Type} [DecidableEq K] {knd : KeyKind prog w K}

inductive ItemsAt {σ : Type} (h₀ : Heap) (L : Addr) (s : Shared) (k : Nat) (d : Addr) (ep : Nat) (Led : σ → List (Addr × Obj)) (ps : σ → List (Str × Value)) (P : Nat → σ → Prop) (n : Nat) (s' : Shared) : Prop
  | mk (i : Nat) (c : σ) (h' : Heap) (tk : Nat) (m' : Str → Option Value) (ok : Value) (xv : Value) : (n = k - i) → (i ≤ k) → (s' = { s with heap := h', toks := tk }) → (IsItemIter h' s.heap.objs.size d i k ep ok xv) → (Fr h₀ L h' m') → (News h₀ L h' (Led c)) → ((∀ p ∈ ps c, m' p.1 = some p.2)) → (P i c) → (∀ p ∈ Led c, p.1 ≠ s.heap.objs.size) → ItemsAt h₀ L s k d ep Led ps P n s'
theorem kw_items {σ : Type} {elts : List Expr} {k0 : Nat} {tpos : Pos} {body : List Stmt} {kvs : List (K × Value)} {d v : Addr} {od ov : Obj} (hh : A.handled = none) (hd : od.IsDictOf knd kvs)
    (hv : ov.cls = .type "dict_items" ∧ ov.data = .fields #[.ref d])
    (Led : σ → List (Addr × Obj)) (ps : σ → List (Str × Value)) (P : Nat → σ → Prop) (c₀ : σ) {m₀ : Str → Option Value} {news : List (Addr × Obj)}
    (F : Fr h₀ L s.heap m₀) (N : News h₀ L s.heap news) (hvm : (v, ov) ∈ news) (hs : ∀ p ∈ Led c₀, p ∈ news) (hk : ∀ p ∈ ps c₀, m₀ p.1 = some p.2) (hp : P 0 c₀)
    (hl : ∀ c, (d, od) ∈ Led c)
    (turn : ∀ i k x key (c : σ) (u : Str → Option Value) I oI T h tk, kvs[i]? = some (k, x) → knd.is k key = true → P i c → (∀ p ∈ Led c, p.1 ≠ I) → (∀ p ∈ Led c, p.1 ≠ T) → Fr h₀ L h (kstB u (ps c)) →
      News h₀ L h ((T, { cls := .type "tuple", data := .seq #[key, x] }) :: (I, oI) :: Led c) →
      wpAny (model prog w) A (assign (.Tuple elts k0 tpos) env (.ref T)) (fun _ s₂ => wpAny (model prog w) A (execs body env)
        (LPost h₀ L s (fun c => (I, oI) :: Led c) ps (fun c' => P (i + 1) c' ∧ ∀ p ∈ Led c', p.1 ≠ I) Q) E s₂) E { s with heap := h, toks := tk })
    (done : ∀ (c : σ) (u : Str → Option Value) h tk, P kvs.length c → Fr h₀ L h (kstB u (ps c)) → News h₀ L h (Led c) → Q .next { s with heap := h, toks := tk })
    (hE : PassesOwn (model prog w) A env E) :
    wpAny (model prog w) A (pyIter (.ref v)) (fun it s₂ => codeAny (model prog w) A (.forLoop (.Tuple elts k0 tpos) it body [] env) (fun r s' => match r with | .ok f => Q f s' | .error e => cameBackBy (model prog w) A env E e s') s₂) E s := by
  obtain ⟨ep, es, hod⟩ := KdkAt.of hd
  have hda : ∀ {h : Heap}, h.get? d = some od → h.DictAt knd d kvs ep := fun {h} e => ⟨od, es, e, hod⟩
  have hd0 : s.heap.get? d = some od := (N _ (hs _ (hl c₀))).1
  refine wpAny_pyIter_items (knd := knd) (d := d) (kvs := kvs) (ep := ep) ⟨ov, (N _ hvm).1, hv.1, hv.2⟩ (hda hd0) ?_
  have hI0 : h₀.get? s.heap.objs.size = none := by
    cases hq : h₀.get? s.heap.objs.size with
    | none => rfl
    | some o' => exact absurd (Heap.lt_size (F.keep _ _ hq)) (Nat.lt_irrefl _)
  have hIL : s.heap.objs.size ≠ L := Nat.ne_of_gt F.ns.lt
  have keepF : ∀ {h h' : Heap} {m}, Fr h₀ L h m → (∀ b o, b ≠ s.heap.objs.size → h.get? b = some o → h'.get? b = some o) → Fr h₀ L h' m := fun {h h' m} F kp =>
    ⟨F.ns.at' fun o e => kp L o (Ne.symm hIL) e, fun b o e => kp b o (fun hb => by rw [hb, hI0] at e; cases e) (F.keep b o e), F.above⟩
  have fr' : ∀ {h : Heap} {m} {c : σ}, Fr h₀ L h m → (∀ p ∈ ps c, m p.1 = some p.2) → Fr h₀ L h (kstB m (ps c)) := fun {h m c} F hk => (kst_same hk).symm ▸ F
  refine codeAny_forLoop_any
    (ItemsAt h₀ L s kvs.length d ep Led ps P) ?_ kvs.length
    ⟨0, c₀, _, s.toks, m₀, .none, .none, rfl, Nat.zero_le _, rfl, Heap.get?_push_size _ rfl, F.push _, fun p hp => ⟨Heap.get?_push_of_some _ (N p (hs p hp)).1, (N p (hs p hp)).2⟩, hk, hp, fun p hp => Nat.ne_of_lt (Heap.lt_size (N p (hs p hp)).1)⟩
  rintro n s' ⟨i, c, h', tk, m', ok, xv, rfl, hi, rfl, hit, F', N', hk', hp', hoff⟩
  have hd1 : h'.get? d = some od := (N' _ (hl c)).1
  cases hx : kvs[i]? with
  | some kx =>
    obtain ⟨k, x⟩ := kx
    have hik : i < kvs.length := by
      rcases Nat.lt_or_ge i kvs.length with h | h
      · exact h
      · simp [List.getElem?_eq_none h] at hx
    refine wpAny_pyNext_items_item (knd := knd) hit (hda hd1) hx fun key h1 hkey hit1 hT hsz kp => ?_
    dsimp only at hit1 hT hsz kp
    refine wpAny_letOwnedTupleGo_items hit1 fun h2 hit2 hs2 => ?_
    have hTI : h'.objs.size ≠ s.heap.objs.size := Nat.ne_of_gt (Heap.lt_size hit)
    have kp2 : ∀ b o, b ≠ s.heap.objs.size → h'.get? b = some o → h2.get? b = some o := fun b o hb e => hs2.extBut b o hb (kp b o hb e)
    have F1 := keepF F' kp2
    have hTL : h'.objs.size ≠ L := Nat.ne_of_gt F'.ns.lt
    have hT0 : h₀.get? h'.objs.size = none := by
      cases hq : h₀.get? h'.objs.size with
      | none => rfl
      | some o' => exact absurd (Heap.lt_size (F'.keep _ _ hq)) (Nat.lt_irrefl _)
    have hoT : ∀ p ∈ Led c, p.1 ≠ h'.objs.size := fun p hp => Nat.ne_of_lt (Heap.lt_size (N' p hp).1)
    have N2 : News h₀ L h2 ((h'.objs.size, { cls := .type "tuple", data := .seq #[key, x] }) :: (s.heap.objs.size, { cls := .type "dict_itemiterator", dict := none, data := .fields #[.none, .bool false, .ref d, .int (i + 1 : Nat) 0, .int kvs.length 0, .int ep 0, key, x], slots := #[] }) :: Led c) := fun p hp => by
      rcases List.mem_cons.mp hp with rfl | hp
      · exact ⟨hs2.extBut _ _ hTI hT, hTL, hT0⟩
      · rcases List.mem_cons.mp hp with rfl | hp
        · exact ⟨hit2, hIL, hI0⟩
        · exact ⟨kp2 _ _ (hoff p hp) (N' p hp).1, (N' p hp).2⟩
    have ht := turn i k x key c m' s.heap.objs.size _ h'.objs.size h2 tk hx hkey hp' hoff hoT (fr' F1 hk') N2
    refine wpAny_mono ht (fun _ s₂ q2 => ?_) hE
    refine wpAny_mono q2 (fun f s₃ q3 => ?_) hE
    cases f with
    | ret v => exact q3
    | brk => exact q3
    | next =>
      obtain ⟨c', h3, tk3, m3, rfl, F3, N3, hk3, hp3, ho3⟩ := q3
      exact ⟨kvs.length - (i + 1), by omega, i + 1, c', h3, tk3, m3, key, x, rfl, hik, rfl, (N3 _ (.head _)).1, F3, fun p hp => N3 p (.tail _ hp), hk3, hp3, ho3⟩
    | cont =>
      obtain ⟨c', h3, tk3, m3, rfl, F3, N3, hk3, hp3, ho3⟩ := q3
      exact ⟨kvs.length - (i + 1), by omega, i + 1, c', h3, tk3, m3, key, x, rfl, hik, rfl, (N3 _ (.head _)).1, F3, fun p hp => N3 p (.tail _ hp), hk3, hp3, ho3⟩
  | none =>
    have hik : i = kvs.length := Nat.le_antisymm hi (by simpa using hx)
    refine wpAny_pyNext_items_end (knd := knd) hh hit (hda hd1) hx fun h1 he1 => wpAny_execs_nil ?_
    have kp : ∀ b o, b ≠ s.heap.objs.size → h'.get? b = some o → h1.get? b = some o := fun b o hb e => he1 b o hb e
    rw [hik] at hp'
    exact done c m' h1 tk hp' (fr' (keepF F' kp) hk') fun p hp => ⟨kp _ _ (hoff p hp) (N' p hp).1, (N' p hp).2⟩

theorem kw_values {σ : Type} {target : Expr} {body : List Stmt} {kvs : List (K × Value)} {d v : Addr} {od ov : Obj} (hh : A.handled = none) (hd : od.IsDictOf knd kvs)
    (hv : ov.cls = .type "dict_values" ∧ ov.data = .fields #[.ref d])
    (Led : σ → List (Addr × Obj)) (ps : σ → List (Str × Value)) (P : Nat → σ → Prop) (c₀ : σ) {m₀ : Str → Option Value} {news : List (Addr × Obj)}
    (F : Fr h₀ L s.heap m₀) (N : News h₀ L s.heap news) (hvm : (v, ov) ∈ news) (hs : ∀ p ∈ Led c₀, p ∈ news) (hk : ∀ p ∈ ps c₀, m₀ p.1 = some p.2) (hp : P 0 c₀)
    (hl : ∀ c, (d, od) ∈ Led c) (hgo : ∀ it x, letOwnedTupleGo target it x = pure ())
    (turn : ∀ i k x (c : σ) (u : Str → Option Value) I oI h tk, kvs[i]? = some (k, x) → P i c → (∀ p ∈ Led c, p.1 ≠ I) → Fr h₀ L h (kstB u (ps c)) → News h₀ L h ((I, oI) :: Led c) →
      wpAny (model prog w) A (assign target env x) (fun _ s₂ => wpAny (model prog w) A (execs body env)
        (LPost h₀ L s (fun c => (I, oI) :: Led c) ps (fun c' => P (i + 1) c' ∧ ∀ p ∈ Led c', p.1 ≠ I) Q) E s₂) E { s with heap := h, toks := tk })
    (done : ∀ (c : σ) (u : Str → Option Value) h tk, P kvs.length c → Fr h₀ L h (kstB u (ps c)) → News h₀ L h (Led c) → Q .next { s with heap := h, toks := tk })
    (hE : PassesOwn (model prog w) A env E) :
    wpAny (model prog w) A (pyIter (.ref v)) (fun it s₂ => codeAny (model prog w) A (.forLoop target it body [] env) (fun r s' => match r with | .ok f => Q f s' | .error e => cameBackBy (model prog w) A env E e s') s₂) E s := by
  obtain ⟨ep, es, hod⟩ := KdkAt.of hd
  have hda : ∀ {h : Heap}, h.get? d = some od → h.DictAt knd d kvs ep := fun {h} e => ⟨od, es, e, hod⟩
  have hd0 : s.heap.get? d = some od := (N _ (hs _ (hl c₀))).1
  refine wpAny_pyIter_values (knd := knd) (d := d) (kvs := kvs) (ep := ep) ⟨ov, (N _ hvm).1, hv.1, hv.2⟩ (hda hd0) ?_
  have hne : d ≠ s.heap.objs.size := Nat.ne_of_lt (Heap.lt_size hd0)
  have W := Walks.dictValues (prog := prog) (w := w) (knd := knd) hh s.heap.objs.size d hne kvs ep
  have hI0 : h₀.get? s.heap.objs.size = none := by
    cases hq : h₀.get? s.heap.objs.size with
    | none => rfl
    | some o' => exact absurd (Heap.lt_size (F.keep _ _ hq)) (Nat.lt_irrefl _)
  have hIL : s.heap.objs.size ≠ L := Nat.ne_of_gt F.ns.lt
  refine kw_for W Led ps (fun i c => P i c ∧ ∀ p ∈ Led c, p.1 ≠ s.heap.objs.size) c₀ (F.push _) (News.push F N _) (fun p hp => .tail _ (hs p hp)) hk
    ⟨hp, fun p hp => Nat.ne_of_lt (Heap.lt_size (N p (hs p hp)).1)⟩ ⟨⟨_, Heap.get?_push_size _ rfl, rfl, rfl⟩, hda (Heap.get?_push_of_some _ hd0)⟩
    (fun b hb => by rw [List.mem_singleton.mp hb]; exact ⟨hI0, hIL⟩) (fun i c hc p hp hb => hc.2 p hp (List.mem_singleton.mp hb)) ?_ ?_ hE
  · rintro i x c u h tk hik ⟨k, hx⟩ ⟨hPi, hoff⟩ hSt F1 N1
    refine wpAny_of_eq (hgo _ _) ?_
    obtain ⟨oI, hoI, hcI, hdI⟩ := hSt.1
    have N2 : News h₀ L h ((s.heap.objs.size, oI) :: Led c) := fun p hp => by
      rcases List.mem_cons.mp hp with rfl | hp
      · exact ⟨hoI, hIL, hI0⟩
      · exact N1 p hp
    have ht := turn i k x c u s.heap.objs.size oI h tk hx hPi hoff F1 N2
    refine wpAny_mono ht (fun _ s₂ q2 => ?_) fun _ _ x => x
    refine wpAny_mono q2 (fun f s₃ q3 => ?_) fun _ _ x => x
    have fin : ∀ s₃, LEnd h₀ L s (fun c => (s.heap.objs.size, oI) :: Led c) ps (fun c' => P (i + 1) c' ∧ ∀ p ∈ Led c', p.1 ≠ s.heap.objs.size) s₃ →
        LEnd h₀ L { s with heap := s.heap.push { cls := .type "dict_valueiterator", data := .fields #[.ref d, .int 0 0, .int kvs.length 0, .int ep 0] } } Led ps (fun c => P (i + 1) c ∧ ∀ p ∈ Led c, p.1 ≠ s.heap.objs.size) s₃ ∧ (s₃.heap.IsValIter s.heap.objs.size d (i + 1) kvs.length ep ∧ s₃.heap.DictAt knd d kvs ep) := by
      rintro s₃ ⟨c', h', tk', m', rfl, F', N', hk', hP'⟩
      exact ⟨⟨c', h', tk', m', rfl, F', fun p hp => N' p (.tail _ hp), hk', hP'⟩, ⟨oI, (N' _ (.head _)).1, hcI, hdI⟩, hda (N' _ (.tail _ (hl c'))).1⟩
    cases f with
    | ret v => exact ⟨q3, fun h => by rcases h with h | h <;> cases h⟩
    | brk => exact ⟨q3, fun h => by rcases h with h | h <;> cases h⟩
    | next => exact ⟨(fin _ q3).1, fun _ => (fin _ q3).2⟩
    | cont => exact ⟨(fin _ q3).1, fun _ => (fin _ q3).2⟩
  · rintro c u h tk ⟨hPk, hoff⟩ F1 N1
    exact done c u h tk hPk F1 N1
end
end
section
/-- a dict's pairs are these counts -/
inductive CountsAre : List (Str × Value) → List (Str × Int) → Prop where
  | nil : CountsAre [] []
  | cons {k : Str} {c : Int} {t : Tok} {kvs A} : CountsAre kvs A → CountsAre ((k, .int c t) :: kvs) ((k, c) :: A)
theorem CountsAre.length {kvs A} (h : CountsAre kvs A) : kvs.length = A.length := by induction h <;> simp_all
theorem CountsAre.keys {kvs A} (h : CountsAre kvs A) : kvs.map (·.1) = A.map (·.1) := by induction h <;> simp_all
theorem CountsAre.get {kvs A} (h : CountsAre kvs A) : ∀ {i : Nat} {k : Str} {x : Value}, kvs[i]? = some (k, x) → ∃ c t, x = .int c t ∧ A[i]? = some (k, c) := by
  induction h with
  | nil => intro i k x h; simp at h
  | cons _ ih =>
    intro i k x h
    cases i with
    | zero => simp at h; obtain ⟨rfl, rfl⟩ := h; exact ⟨_, _, rfl, rfl⟩
    | succ j => simpa using ih (by simpa using h)
theorem CountsAre.append {kvs A kvs' A'} (h : CountsAre kvs A) (h' : CountsAre kvs' A') : CountsAre (kvs ++ kvs') (A ++ A') := by
  induction h with
  | nil => exact h'
  | cons _ ih => exact .cons ih
theorem CountsAre.take {kvs A} (h : CountsAre kvs A) : ∀ i, CountsAre (kvs.take i) (A.take i) := by
  induction h with
  | nil => intro i; simp; exact .nil
  | cons _ ih =>
    intro i
    cases i with
    | zero => exact .nil
    | succ j => exact .cons (ih j)
/-- the total of the counts -/
def total (A : List (Str × Int)) : Int := (A.map (·.2)).sum
theorem total_take_succ {A : List (Str × Int)} {i : Nat} {k : Str} {c : Int} (h : A[i]? = some (k, c)) : total (A.take (i + 1)) = total (A.take i) + c := by
  unfold total
  rw [List.take_add_one, h]
  simp
/-- one more (or c more) of a key -/
def bump (A : List (Str × Int)) (k : Str) (c : Int) : List (Str × Int) :=
  if A.any (fun p => p.1 = k) then A.map (fun p => if p.1 = k then (p.1, p.2 + c) else p) else A ++ [(k, c)]
/-- two counts in one -/
def addC (A B : List (Str × Int)) : List (Str × Int) := B.foldl (fun acc p => bump acc p.1 p.2) A
section
variable {prog : Program} {w : World} {A : Around} {E : Value → Shared → Prop} {s : Shared} {h₀ : Heap} {L d : Addr} {m : Str → Option Value} {news rest : List (Addr × Obj)} {o : Obj} {kvs : List (Str × Value)} {x : Str} {t : Tok} {v : Value}
theorem set_knd {K : Type} [DecidableEq K] {knd : KeyKind prog w K} {kvs : List (K × Value)} {k : K} {key : Value} {Q : Unit → Shared → Prop} (hkey : knd.is k key = true) (F : Fr h₀ L s.heap m) (N : News h₀ L s.heap ((d, o) :: rest)) (hap : ∀ p ∈ rest, p.1 ≠ d) (hd : o.IsDictOf knd kvs) (hz : kvs.length ≤ sizeLine)
    (h : ∀ h' o', Fr h₀ L h' m → News h₀ L h' ((d, o') :: rest) → o'.IsDictOf knd (stored kvs k v) → Q () { s with heap := h', toks := s.toks + 1 }) :
    wpAny (model prog w) A (setItem (.ref d) key v) Q E s := kda_set F N (.head hap) hd hkey hz h
theorem set_str {Q : Unit → Shared → Prop} (F : Fr h₀ L s.heap m) (N : News h₀ L s.heap ((d, o) :: rest)) (hap : ∀ p ∈ rest, p.1 ≠ d) (hd : o.IsDictOf (strKind prog w) kvs) (hz : kvs.length ≤ sizeLine)
    (h : ∀ h' o', Fr h₀ L h' m → News h₀ L h' ((d, o') :: rest) → o'.IsDictOf (strKind prog w) (stored kvs x v) → Q () { s with heap := h', toks := s.toks + 1 }) :
    wpAny (model prog w) A (setItem (.ref d) (.str x t) v) Q E s := set_knd (strKind_is prog w x t) F N hap hd hz h
theorem in_str {Q : Value → Shared → Prop} (N : News h₀ L s.heap news) (hm : (d, o) ∈ news) (hd : o.IsDictOf (strKind prog w) kvs) (lo : (d == sysModules) = false)
    (h : Q (.bool (valueAt kvs x).isSome) { s with toks := s.toks + 1 }) : wpAny (model prog w) A (compareOp .In (.str x t) (.ref d)) Q E s :=
  kda_in N hm hd lo (strKind_is prog w x t) _ rfl h
theorem get_str {Q : Value → Shared → Prop} (N : News h₀ L s.heap news) (hm : (d, o) ∈ news) (hd : o.IsDictOf (strKind prog w) kvs) (hv : valueAt kvs x = some v)
    (h : Q v { s with toks := s.toks + 1 }) : wpAny (model prog w) A (getItem (.ref d) (.str x t)) Q E s :=
  wpAny_getItem_of (strKind_is prog w x t) (kda_dict N hm hd).mapOf hv h
end
theorem ne_of_allLt1 {d k : Addr} {l : List (Addr × Obj)} (h : AllLt d l) : ∀ p ∈ l, p.1 ≠ d + k := fun p hp => Nat.ne_of_lt (Nat.lt_of_lt_of_le (tb_ltOf h p hp) (Nat.le_add_right _ _))
theorem IsDictOf_nodup {prog : Program} {w : World} {o : Obj} {kvs : List (Str × Value)} (h : o.IsDictOf (strKind prog w) kvs) : (kvs.map (·.1)).Nodup := let ⟨_, _, _, _, _, _, n⟩ := h; n
theorem stored_fresh {kvs : List (Str × Value)} (hn : (kvs.map (·.1)).Nodup) {i : Nat} {k : Str} {x : Value} (h : kvs[i]? = some (k, x)) : stored (kvs.take i) k x = kvs.take (i + 1) := by
  have hi : i < kvs.length := by
    rcases Nat.lt_or_ge i kvs.length with h' | h'
    · exact h'
    · simp [List.getElem?_eq_none h'] at h
  unfold stored
  have hno : (kvs.take i).any (fun kv => decide (kv.1 = k)) = false := by
    rw [List.any_eq_false]
    intro q hq
    simp only [decide_eq_true_eq]
    intro e
    obtain ⟨j, hj, rfl⟩ := List.getElem_of_mem hq
    rw [List.length_take] at hj
    have hjl : j < kvs.length := by omega
    rw [List.getElem_take] at e
    have hki : kvs[i] = (k, x) := by
      rw [List.getElem?_eq_getElem hi] at h; exact Option.some.inj h
    have := List.pairwise_iff_getElem.mp hn j i (by simpa using hjl) (by simpa using hi) (by omega)
    rw [List.getElem_map, List.getElem_map, e, hki] at this
    exact this rfl
  rw [if_neg (by rw [hno]; exact Bool.false_ne_true), List.take_add_one, h]
  rfl
theorem CountsAre.map_off {kvs A} (h : CountsAre kvs A) {k : Str} (hk : k ∉ kvs.map (·.1)) (v : Value) (c : Int) :
    CountsAre (kvs.map fun p => if p.1 = k then (p.1, v) else p) (A.map fun p => if p.1 = k then (p.1, p.2 + c) else p) := by
  induction h with
  | nil => exact .nil
  | @cons k1 c1 t1 kvs A h ih =>
    simp only [List.map_cons, List.mem_cons, not_or] at hk
    have hne : ¬ k1 = k := fun e => hk.1 e.symm
    simp only [List.map_cons, if_neg hne]
    exact .cons (ih hk.2)
theorem CountsAre.any {kvs A} (h : CountsAre kvs A) (k : Str) : A.any (fun p => p.1 = k) = kvs.any (fun p => p.1 = k) := by
  induction h with
  | nil => rfl
  | cons _ ih => simp only [List.any_cons, ih]
theorem valueAt_any {kvs : List (Str × Value)} {k : Str} : (valueAt kvs k).isSome = kvs.any (fun p => p.1 = k) := by
  unfold valueAt
  rw [Option.isSome_map]
  induction kvs with
  | nil => rfl
  | cons p r ih =>
    rw [List.find?_cons, List.any_cons]
    by_cases e : p.1 = k
    · simp [e]
    · simp only [e, decide_false, Bool.false_or]; exact ih
theorem CountsAre.old {kvs A} (h : CountsAre kvs A) : ∀ {k : Str} {v : Value}, (kvs.map (·.1)).Nodup → valueAt kvs k = some v → ∃ c0 t0, v = .int c0 t0 ∧
    ∀ c t, CountsAre (kvs.map fun p => if p.1 = k then (p.1, .int (c0 + c) t) else p) (A.map fun p => if p.1 = k then (p.1, p.2 + c) else p) := by
  induction h with
  | nil => intro k v _ h; cases h
  | @cons k1 c1 t1 kvs A h ih =>
    intro k v hn hv
    simp only [List.map_cons, List.nodup_cons] at hn
    by_cases e : k1 = k
    · subst e
      have hv' : v = .int c1 t1 := by
        simp [valueAt, List.find?_cons] at hv
        exact hv.symm
      refine ⟨c1, t1, hv', fun c t => ?_⟩
      simp only [List.map_cons, if_true]
      exact .cons (h.map_off hn.1 _ _)
    · have hv' : valueAt kvs k = some v := by
        simpa [valueAt, List.find?_cons, e] using hv
      obtain ⟨c0, t0, e1, h1⟩ := ih hn.2 hv'
      refine ⟨c0, t0, e1, fun c t => ?_⟩
      simp only [List.map_cons, if_neg e]
      exact .cons (h1 c t)
theorem CountsAre.stored_old {kvs A} (h : CountsAre kvs A) {k : Str} {v : Value} (hn : (kvs.map (·.1)).Nodup) (hv : valueAt kvs k = some v) : ∃ c0 t0, v = .int c0 t0 ∧
    ∀ c t, CountsAre (stored kvs k (.int (c0 + c) t)) (bump A k c) := by
  obtain ⟨c0, t0, e, h1⟩ := h.old hn hv
  have ha : kvs.any (fun p => decide (p.1 = k)) = true := by rw [← valueAt_any, hv]; rfl
  refine ⟨c0, t0, e, fun c t => ?_⟩
  unfold stored bump
  rw [h.any, if_pos ha, if_pos ha]
  exact h1 c t
theorem CountsAre.stored_new {kvs A} (h : CountsAre kvs A) {k : Str} (hv : valueAt kvs k = none) (c : Int) (t : Tok) : CountsAre (stored kvs k (.int c t)) (bump A k c) := by
  have ha : kvs.any (fun p => decide (p.1 = k)) = false := by rw [← valueAt_any, hv]; rfl
  unfold stored bump
  rw [h.any, ha]
  exact h.append (.cons .nil)
theorem stored_length {kvs : List (Str × Value)} {k : Str} {v : Value} : (stored kvs k v).length ≤ kvs.length + 1 := by
  unfold stored
  split <;> simp
theorem addC_take_succ {C C2 : List (Str × Int)} {i : Nat} {k : Str} {c : Int} (h : C2[i]? = some (k, c)) : addC C (C2.take (i + 1)) = bump (addC C (C2.take i)) k c := by
  unfold addC
  rw [List.take_add_one, h]
  simp
end
section
theorem slot_search : Slot "re.Pattern" "search" "re.Pattern.search" :=
  .of (owner := "re.Pattern") (n := "search") (by rw [typeLookup_type, builtinLookup_eq_fast]; kernel_rfl) (by decide +kernel) (by decide +kernel) (by decide +kernel)
    (by first | exact .inl (by decide +kernel) | exact .inr (by decide +kernel)) (by rw [isSubtype_type]; kernel_rfl)
theorem entry_search : entryFor table "re.Pattern.search" = some Builtin.«re.Pattern.search» := entryFor_of_tree (by kernel_rfl)
theorem args_search (a b : Value) : argsOk "re.Pattern.search" ⟨[a, b], []⟩ := by unfold argsOk; kernel_rfl
theorem type_search : typeOf (.builtin "re.Pattern.search") = pure (.type "method_descriptor") := by show builtinType _ = _; rw [builtinType_eq_fast]; kernel_rfl
theorem plain_pattern : PlainAttrs "re.Pattern" :=
  ⟨⟨"object.__getattribute__", by rw [typeLookup_type, builtinLookup_eq_fast]; kernel_rfl, by decide +kernel⟩, by rw [typeLookup_type, builtinLookup_eq_fast]; kernel_rfl⟩
section
variable {prog : Program} {w : World} {A : Around} {E : Value → Shared → Prop} {s : Shared} {K : Frag} {P : Addr} {o : Obj}
theorem get_search {pl : Sem Bool} {Q : Value × List Value → Shared → Prop} (X : K.In s.heap) (ho : K.lookup P = some o) (hc : o.cls = .type "re.Pattern") (hd : o.dict = none)
    (h : Q (.builtin "re.Pattern.search", [.ref P]) s) : wpAny (model prog w) A (getMethod (.ref P) (Str.ofString "search") pl) Q E s :=
  getMethod_builtin (T := "re.Pattern") ⟨o, X _ _ ho, hc⟩ plain_pattern slot_search type_search (fun a e => by cases e; exact ⟨o, X _ _ ho, hd⟩) h
theorem call_search {x : Str} {t : Tok} {Q : Value → Shared → Prop} (X : K.In s.heap) (ho : K.lookup P = some o) (hc : o.cls = .type "re.Pattern")
    (hx : peek K ⟨prog, w.params⟩ (Builtin.«re.Pattern.search» ⟨[.ref P, .str x t], []⟩) = some (.done (.ret .none))) (h : Q .none s) :
    wpAny (model prog w) A (call (.builtin "re.Pattern.search") [.ref P, .str x t]) Q E s :=
  wpAny_call_entry slot_search ⟨o, X _ _ ho, hc⟩ entry_search (Looks.here (Looks.of_peek X hx) ⟨_, rfl, h⟩) (args_search _ _)
end
end
section
def lc (p : Nat) : Str := ⟨#[97 + p]⟩
def uc (p : Nat) : Str := ⟨#[65 + p]⟩
def fg (k : Nat) : Str := ⟨#[48 + k]⟩
theorem lower_lc : ∀ p, p < 5 → Txt.lower (lc p) = lc p := by decide +kernel
theorem lower_uc : ∀ p, p < 5 → Txt.lower (uc p) = lc p := by decide +kernel
theorem lc_inj {p q : Nat} (h : lc p = lc q) : p = q := by simp [lc] at h; exact h
theorem fg_inj {p q : Nat} (h : fg p = fg q) : p = q := by simp [fg] at h; exact h
theorem uc_inj {p q : Nat} (h : uc p = uc q) : p = q := by simp [uc] at h; exact h
theorem lc_ne_fg {p k : Nat} (hk : k < 6) : lc p ≠ fg k := by intro h; simp [lc, fg] at h; omega
theorem lc_len (p : Nat) : (lc p).length = 1 := rfl
theorem uc_len (p : Nat) : (uc p).length = 1 := rfl
theorem fg_len (p : Nat) : (fg p).length = 1 := rfl
/-- the diary's pairs: at these tuples stand these hours and jobs -/
inductive HdrAre (news : List (Addr × Obj)) : List Addr → List (Nat × Nat) → Prop where
  | nil : HdrAre news [] []
  | cons {r : Addr} {p k : Nat} {t1 t2 : Tok} {rs D} : (r, ({ cls := .type "tuple", data := .seq #[.str (uc p) t1, .str (fg k) t2] } : Obj)) ∈ news → HdrAre news rs D → HdrAre news (r :: rs) ((p, k) :: D)
theorem HdrAre.length {news rs D} (h : HdrAre news rs D) : rs.length = D.length := by induction h <;> simp_all
theorem HdrAre.mono {news news' rs D} (h : HdrAre news rs D) (hs : ∀ p ∈ news, p ∈ news') : HdrAre news' rs D := by
  induction h with
  | nil => exact .nil
  | cons hm _ ih => exact .cons (hs _ hm) ih
theorem HdrAre.get {news rs D} (h : HdrAre news rs D) : ∀ {i : Nat} {r : Addr}, rs[i]? = some r → ∃ p k t1 t2, D[i]? = some (p, k) ∧ (r, ({ cls := .type "tuple", data := .seq #[.str (uc p) t1, .str (fg k) t2] } : Obj)) ∈ news := by
  induction h with
  | nil => intro i r h; simp at h
  | cons hm _ ih =>
    intro i r h
    cases i with
    | zero => simp at h; subst h; exact ⟨_, _, _, _, rfl, hm⟩
    | succ j => simpa using ih (by simpa using h)
theorem HdrAre.append {news rs D rs' D'} (h : HdrAre news rs D) (h' : HdrAre news rs' D') : HdrAre news (rs ++ rs') (D ++ D') := by
  induction h with
  | nil => exact h'
  | cons hm _ ih => exact .cons hm ih
/-- who has the hour -/
def hget (D : List (Nat × Nat)) (p : Nat) : Option Nat := (D.find? fun x => x.1 = p).map (·.2)
/-- the hour is given to a job: told last -/
def hset (D : List (Nat × Nat)) (p k : Nat) : List (Nat × Nat) := D.filter (fun x => !decide (x.1 = p)) ++ [(p, k)]
theorem hget_at {D : List (Nat × Nat)} {q k : Nat} : ∀ {i : Nat}, (∀ x ∈ D.take i, x.1 ≠ q) → D[i]? = some (q, k) → hget D q = some k := by
  unfold hget
  induction D with
  | nil => intro i _ h; simp at h
  | cons x r ih =>
    intro i h1 h2
    cases i with
    | zero =>
      simp at h2
      subst h2
      simp
    | succ j =>
      have hx : x.1 ≠ q := h1 x (by simp)
      rw [List.find?_cons]
      simp only [hx, decide_false]
      exact ih (i := j) (fun y hy => h1 y (by simp [hy])) (by simpa using h2)
theorem hget_none {D : List (Nat × Nat)} {q : Nat} (h : ∀ x ∈ D, x.1 ≠ q) : hget D q = none := by
  unfold hget
  rw [List.find?_eq_none.mpr (by intro x hx; simpa using h x hx)]
  rfl
end
section
section
variable {prog : Program} {w : World} {A : Around} {E : Value → Shared → Prop} {s : Shared} {env : Env} {h₀ : Heap} {L : Addr} {m : Str → Option Value} {news : List (Addr × Obj)}

/-- a ground for a block within a frame: all that stands but what is hidden -/
theorem ground0 {h : Heap} (hid : List Addr) (F : Fr h₀ L h m) (hh : ∀ b ∈ hid, h₀.get? b = none ∧ b ≠ L) :
    ∃ g, (∀ b o, h₀.get? b = some o → g.get? b = some o) ∧ g.objs.size = h.objs.size ∧ (∀ b o, g.get? b = some o → h.get? b = some o) ∧ (∀ b ∈ hid, g.get? b = none) ∧
      ∀ h' C m' h'' news', Fr g C h' m' → News g C h' news' → Heap.SameBut C h' h'' → Fr h₀ L h'' m ∧ News h₀ L h'' news' := by
  have st : ∀ b o, h₀.get? b = some o → (hideAll h hid).get? b = some o := fun b o e =>
    hideAll_get _ (F.keep b o e) fun hb => by rw [(hh b hb).1] at e; cases e
  obtain ⟨oL, es, ep, hL, hLr⟩ := id F.ns
  have hLg : (hideAll h hid).get? L = some oL := hideAll_get _ hL fun hb => (hh L hb).2 rfl
  refine ⟨hideAll h hid, st, hideAll_size _ _, fun b o e => of_hideAll _ e, fun b hb => hideAll_none _ hb, fun h' C m' h'' news' F' N' hs => ?_⟩
  have hLC : L ≠ C := by
    intro e
    have h1 := Heap.lt_size hLg
    have h2 := F'.above
    rw [e] at h1
    exact absurd h1 (Nat.not_lt.mpr h2)
  refine ⟨⟨⟨oL, es, ep, (hs.2 L hLC).trans (F'.keep L oL hLg), hLr⟩, fun b o e => ?_, F.above⟩, fun p hp => ⟨(hs.2 p.1 (N' p hp).2.1).trans (N' p hp).1, fun q => ?_, ?_⟩⟩
  · have h1 := st b o e
    have hbC : b ≠ C := by
      intro e'
      have h3 := Heap.lt_size h1
      rw [e'] at h3
      exact absurd h3 (Nat.not_lt.mpr F'.above)
    exact (hs.2 b hbC).trans (F'.keep b o h1)
  · have := (N' p hp).2.2; rw [q, hLg] at this; cases this
  · cases q : h₀.get? p.1 with
    | none => rfl
    | some o => have := (N' p hp).2.2; rw [st _ _ q] at this; cases this

/-- the tests of a comprehension's clause -/
abbrev testsOf (ifs : List Expr) (env : Env) : Sem Bool := forIn ifs true fun c r => if r = true then do let ok ← isTrue c env (eval c env); pure (ForInStep.yield ok) else pure (ForInStep.yield r)

theorem wp_next {α β : Type} {M : Model} {t : Sem α} {f : α → Sem β} {Q : α → Shared → Prop} {Q' : β → Shared → Prop} (h : wpAny M A t Q E s) (k : ∀ a s', Q a s' → wpAny M A (f a) Q' E s') : wpAny M A (t >>= f) Q' E s :=
  wpAny_bind (wpAny_mono h k fun _ _ x => x)

/-- a clause that no other follows, by what is so between its turns -/
theorem last_clause {elt : Expr} {gens : List Comprehension} {d : Nat} {target iter : Expr} {ifs : List Expr} {scope : Scope} {pos : Pos} {it acc : Value} {R : Result → Shared → Prop} (hg : gens[d]? = some ⟨target, iter, ifs, 0⟩) (hl : gens[d + 1]? = none) (I : Nat → Shared → Prop)
    (turn : ∀ n s, I n s → wpAny (model prog w) A (pyNext it) (fun r s₁ => match r with
      | none => R (.ok .next) s₁
      | some v => wpAny (model prog w) A (letOwnedTupleGo target it v) (fun _ s₁' => wpAny (model prog w) A (assign target env v) (fun _ s₂ =>
          wpAny (model prog w) A (testsOf ifs env) (fun ok s₃ =>
            if ok = true then wpAny (model prog w) A (eval elt env) (fun x s₄ =>
              wpAny (model prog w) A (call (.builtin "list.append") [acc, x]) (fun _ s₅ => ∃ m, m < n ∧ I m s₅) (fun _ _ => False) s₄) (fun _ _ => False) s₃
            else ∃ m, m < n ∧ I m s₃) (fun _ _ => False) s₂) (fun _ _ => False) s₁') (fun _ _ => False) s₁) (fun _ _ => False) s)
    (n : Nat) (h : I n s) : codeAny (model prog w) A (.compLoop (.ListComp elt gens scope pos) d it acc env) R s := by
  refine codeAny_loop rfl I (fun n s hI => ?_) n h
  show wpAny _ A (Sem.onRaise (compTurn _ d it acc env) _) _ _ s
  refine wpAny_noted (wpAny_noRaise ?_)
  unfold compTurn
  dsimp only
  rw [hg]
  simp only [hl, bne_self_eq_false, Bool.false_eq_true, if_false]
  refine wpAny_bind (wpAny_standAt (wp_next (turn n s hI) fun r s₁ h₁ => ?_))
  rcases r with _ | v
  · exact wpAny_pure h₁
  refine wp_next h₁ fun _ _ h₂ => wp_next h₂ fun _ _ h₃ => wp_next h₃ fun ok _ h₄ => ?_
  by_cases hok : ok = true
  · rw [if_pos hok] at h₄ ⊢
    exact wpAny_bind (wp_next h₄ fun x _ h₅ => wp_next h₅ fun _ _ h₆ => wpAny_pure (wpAny_pure ⟨rfl, h₆⟩))
  · rw [if_neg hok] at h₄ ⊢
    exact wpAny_pure ⟨rfl, h₄⟩

/-- a comprehension's turn ends: the block's names, the list so far, what was made -/
inductive CEnd {σ : Type} (g : Heap) (C D : Addr) (nD : Nat) (s : Shared) (Led : σ → List (Addr × Obj)) (P : σ → List Value → Prop) (wr : List Addr) (St : Heap → Prop) (ys ys' : List Value) (s₂ : Shared) : Prop
  | mk (c : σ) (h' : Heap) (tk : Nat) (m' : Str → Option Value) : (s₂ = { s with heap := h', toks := tk }) → (Fr g C h' m') → (News g C h' ((D, listOf ys.toArray nD) :: Led c)) → (P c ys') → ((∀ p ∈ Led c, p.1 ≠ D ∧ p.1 ∉ wr)) → (St h') → CEnd g C D nD s Led P wr St ys ys' s₂

inductive WalkAt {σ : Type} (s : Shared) (g : Heap) (C D : Addr) (k : Nat) (St : Nat → Heap → Prop) (wr : List Addr) (Led : σ → List (Addr × Obj)) (P : Nat → σ → List Value → Prop) (n : Nat) (s' : Shared) : Prop
  | mk (i : Nat) (c : σ) (ys : List Value) (h' : Heap) (tk : Nat) (m' : Str → Option Value) (nD : Nat) : (n = k - i) → (i ≤ k) → (s' = { s with heap := h', toks := tk }) → (St i h') → (Fr g C h' m') → (News g C h' ((D, listOf ys.toArray nD) :: Led c)) → (P i c ys) → ((∀ p ∈ Led c, p.1 ≠ D ∧ p.1 ∉ wr)) → (ys.length ≤ i) → WalkAt s g C D k St wr Led P n s'
theorem comp_walk {σ : Type} {elt target iter : Expr} {ifs : List Expr} {scope : Scope} {pos : Pos} {cl : List (Str × Addr)} {I : Addr} {fp wr : List Addr} {k : Nat} {Pv : Nat → Value → Prop} {St : Nat → Heap → Prop} {RR : Value → Addr → Result → Shared → Prop}
    (W : Walks prog w A I fp wr k Pv St) (hkz : k ≤ sizeLine) (hcell : ∀ y ∈ scope.names, y.2 ≠ .cell) (hkind : scope.kind = .function)
    (Led : σ → List (Addr × Obj)) (P : Nat → σ → List Value → Prop) (c₀ : σ)
    (F : Fr h₀ L s.heap m) (N : News h₀ L s.heap news) (hs : ∀ p ∈ Led c₀, p ∈ news) (hp : P 0 c₀ []) (h0 : St 0 s.heap)
    (hwr : ∀ b ∈ wr, h₀.get? b = none ∧ b ≠ L ∧ b < s.heap.objs.size) (hfp : ∀ b ∈ fp, b < s.heap.objs.size) (hoff : ∀ p ∈ news, p.1 ∉ wr)
    (hgo : ∀ i v s Q, St i s.heap → Q () s → wpAny (model prog w) A (letOwnedTupleGo target (.ref I) v) Q (fun _ _ => False) s)
    (turn : ∀ g C D, (∀ b o, h₀.get? b = some o → g.get? b = some o) → D < C → (∀ p ∈ news, p.1 < D) → (∀ b ∈ wr, b < D) →
      ∀ i v c ys u h tk nD, i < k → Pv i v → P i c ys → (∀ p ∈ Led c, p.1 ≠ D ∧ p.1 ∉ wr) → St (i + 1) h → Fr g C h u → News g C h ((D, listOf ys.toArray nD) :: Led c) → (∀ b ∈ wr, g.get? b = none) →
        wpAny (model prog w) A (assign target (compEnvC scope cl C env) v) (fun _ s₁ => wpAny (model prog w) A (testsOf ifs (compEnvC scope cl C env)) (fun ok s₂ =>
          if ok = true then wpAny (model prog w) A (eval elt (compEnvC scope cl C env)) (fun y s₃ => CEnd g C D nD s Led (P (i + 1)) wr (St (i + 1)) ys (ys ++ [y]) s₃) (fun _ _ => False) s₂
          else CEnd g C D nD s Led (P (i + 1)) wr (St (i + 1)) ys ys s₂) (fun _ _ => False) s₁) (fun _ _ => False) { s with heap := h, toks := tk })
    (done : ∀ c ys D C h tk nD u, P k c ys → h.Ns C u → h₀.get? C = none → C ≠ L → (∀ h'', Heap.SameBut C h h'' → Fr h₀ L h'' m ∧ News h₀ L h'' ((D, listOf ys.toArray nD) :: Led c)) → D < C → (∀ p ∈ news, p.1 < D) → (∀ p ∈ Led c, p.1 ≠ D ∧ p.1 ≠ C) →
      RR (.ref D) C (.ok .next) { s with heap := h, toks := tk }) :
    wpAny (model prog w) A (newList []) (fun acc s₃ => wpAny (model prog w) A (newFunctionEnv scope env.globals cl [] env.qual none .none (some env)) (fun cenv s₄ =>
      codeAny (model prog w) A (.compStart (.ListComp elt [⟨target, iter, ifs, 0⟩] scope pos) 0 (.ref I) acc { cenv with scope := relabel scope env }) (RR acc cenv.locals) s₄) E s₃) E s := by
  have hhid : ∀ b ∈ wr ++ news.map (·.1), h₀.get? b = none ∧ b ≠ L := by
    intro b hb
    rcases List.mem_append.mp hb with hb | hb
    · exact ⟨(hwr b hb).1, (hwr b hb).2.1⟩
    · obtain ⟨p, hp, rfl⟩ := List.mem_map.mp hb
      exact ⟨(N p hp).2.2, (N p hp).2.1⟩
  obtain ⟨g, g1, g2, g3, g4, g5⟩ := ground0 (wr ++ news.map (·.1)) F hhid
  refine wpAny_newObj_type (wpAny_newFunctionEnv hcell (by intro y hy; simp at hy) (fun h₁ hns₁ hsb₁ => ?_) hkind)
  dsimp only at hns₁ hsb₁ ⊢
  generalize hH2 : s.heap.push { cls := .type "list", dict := none, data := .seq ([] : List Value).toArray } = H2 at hns₁ hsb₁ ⊢
  have hC : H2.objs.size = s.heap.objs.size + 1 := by rw [← hH2, Heap.size_push]
  have hDC : s.heap.objs.size < H2.objs.size := by omega
  have old : ∀ b o, s.heap.get? b = some o → h₁.get? b = some o := fun b o e =>
    hsb₁.extBut b o (neN (by have h9 := ltN (Heap.lt_size e); omega)) (Heap.get?_push_of_some _ (hH2 ▸ Heap.get?_push_of_some _ e))
  have hF1 : Fr g H2.objs.size h₁ (fun x => ([] : List (Str × Value)).reverse.lookup x) := ⟨hns₁, fun b o e => old b o (g3 b o e), by rw [g2]; omega⟩
  have gnone : ∀ a, s.heap.objs.size ≤ a → g.get? a = none := fun a ha => by
    cases e : g.get? a with
    | none => rfl
    | some o' => exact absurd (Heap.lt_size e) (by rw [g2]; exact Nat.not_lt.mpr ha)
  have hD1 : h₁.get? s.heap.objs.size = some (listOf ([] : List Value).toArray 0) :=
    hsb₁.extBut _ _ (neN (by omega)) (Heap.get?_push_of_some _ (hH2 ▸ Heap.get?_push_size _ rfl))
  have hN1 : News g H2.objs.size h₁ ((s.heap.objs.size, listOf ([] : List Value).toArray 0) :: Led c₀) := fun p hp => by
    rcases List.mem_cons.mp hp with rfl | hp
    · exact ⟨hD1, by show s.heap.objs.size ≠ H2.objs.size; omega, gnone _ (Nat.le_refl _)⟩
    · have hn := N p (hs p hp)
      have hlt := ltN (Heap.lt_size hn.1)
      exact ⟨old _ _ hn.1, neN (by omega), g4 _ (List.mem_append_right _ (List.mem_map_of_mem (hs p hp)))⟩
  have hSt1 : St 0 h₁ := W.frame _ _ _ h0 fun b _ o e => old b o e
  have hnewsD : ∀ p ∈ news, p.1 < s.heap.objs.size := fun p hp => Heap.lt_size (N p hp).1
  have hwrD : ∀ b ∈ wr, b < s.heap.objs.size := fun b hb => (hwr b hb).2.2
  have keepF : ∀ {h h' : Heap} {m}, Fr g H2.objs.size h m → (∀ b o, b ∉ wr → h.get? b = some o → h'.get? b = some o) → Fr g H2.objs.size h' m := fun {h h' m} F kp =>
    ⟨F.ns.at' fun o e => kp _ o (fun hb => by have h9 := ltN (hwrD _ hb); omega) e, fun b o e => kp b o (fun hb => by rw [g4 b (List.mem_append_left _ hb)] at e; cases e) (F.keep b o e), F.above⟩
  have loop : ∀ s₃ : Shared, s₃ = { s with heap := h₁, toks := s.toks + ([] : List (Str × Value)).length } →
      codeAny (model prog w) A (.compLoop (.ListComp elt [⟨target, iter, ifs, 0⟩] scope pos) 0 (.ref I) (.ref s.heap.objs.size) (compEnvC scope cl H2.objs.size env))
        (RR (.ref s.heap.objs.size) H2.objs.size) s₃ := by
    rintro s₃ rfl
    refine last_clause rfl rfl
      (WalkAt s g H2.objs.size s.heap.objs.size k St wr Led P) ?_ k
      ⟨0, c₀, [], h₁, _, _, 0, rfl, Nat.zero_le _, rfl, hSt1, hF1, hN1, hp, fun p hp => ⟨Nat.ne_of_lt (hnewsD p (hs p hp)), hoff p (hs p hp)⟩, Nat.le_refl _⟩
    rintro n s' ⟨i, c, ys, h', tk, m', nD, rfl, hi, rfl, hSt, F', N', hP, ho, hlen⟩
    by_cases hik : i < k
    · refine W.item i _ _ _ hik hSt fun v h2 tk2 hv hSt2 kp => ?_
      refine hgo _ v _ _ hSt2 ?_
      have F2 := keepF F' kp
      have hDwr : s.heap.objs.size ∉ wr := fun hb => Nat.lt_irrefl _ (hwrD _ hb)
      have N2 : News g H2.objs.size h2 ((s.heap.objs.size, listOf ys.toArray nD) :: Led c) := fun p hp => by
        refine ⟨kp p.1 p.2 ?_ (N' p hp).1, (N' p hp).2⟩
        rcases List.mem_cons.mp hp with rfl | hp
        · exact hDwr
        · exact (ho p hp).2
      refine wpAny_mono (turn g H2.objs.size s.heap.objs.size g1 hDC hnewsD hwrD i v c ys m' h2 tk2 nD hik hv hP ho hSt2 F2 N2 (fun b hb => g4 b (List.mem_append_left _ hb))) (fun _ s₁ q1 => ?_) fun _ _ x => x
      refine wpAny_mono q1 (fun ok s₂ q2 => ?_) fun _ _ x => x
      cases ok with
      | false =>
        simp only [Bool.false_eq_true, if_false] at q2 ⊢
        obtain ⟨c', h3, tk3, m3, rfl, F3, N3, hP3, ho3, hSt3⟩ := q2
        exact ⟨k - (i + 1), by omega, i + 1, c', ys, h3, tk3, m3, nD, rfl, hik, rfl, hSt3, F3, N3, hP3, ho3, by omega⟩
      | true =>
        simp only [if_true] at q2 ⊢
        refine wpAny_mono q2 (fun y s₃ q3 => ?_) fun _ _ x => x
        obtain ⟨c', h3, tk3, m3, rfl, F3, N3, hP3, ho3, hSt3⟩ := q3
        have hz := N3 _ (.head _)
        refine append_at (n := nD) (its := ys.toArray) (hsz := by rw [List.size_toArray]; omega) hz.1 fun h4 hs4 ho4 => ?_
        have F4 := F3.change hs4 hz.2.1 hz.2.2
        have N4 := News.setHead N3 (fun p hp => (ho3 p hp).1) hs4 ho4
        refine ⟨k - (i + 1), by omega, i + 1, c', ys ++ [y], h4, tk3, m3, nD + 1, rfl, hik, rfl, ?_, F4, ?_, hP3, ho3, by simp; omega⟩
        · exact W.frame _ _ _ hSt3 fun b hb o e => (hs4.2 b (Nat.ne_of_lt (hfp b hb))).trans e
        · simpa using N4
    · have hik' : i = k := by omega
      subst hik'
      refine W.done _ _ _ hSt fun h2 tk2 kp => ?_
      have hDwr : s.heap.objs.size ∉ wr := fun hb => Nat.lt_irrefl _ (hwrD _ hb)
      have F2 := keepF F' kp
      have N2 : News g H2.objs.size h2 ((s.heap.objs.size, listOf ys.toArray nD) :: Led c) := fun p hp => by
        refine ⟨kp p.1 p.2 ?_ (N' p hp).1, (N' p hp).2⟩
        rcases List.mem_cons.mp hp with rfl | hp
        · exact hDwr
        · exact (ho p hp).2
      refine done c ys _ _ h2 tk2 nD m' hP F2.ns ?_ ?_ (fun h3 hs3 => g5 h2 _ m' h3 _ F2 N2 hs3) hDC hnewsD (fun p hp => ⟨(ho p hp).1, (N2 p (.tail _ hp)).2.1⟩)
      · cases e : h₀.get? H2.objs.size with
        | none => rfl
        | some o' =>
          have h9 := g1 _ _ e
          rw [gnone _ (Nat.le_of_lt hDC)] at h9
          cases h9
      · intro e
        obtain ⟨oL, _, _, hL, _⟩ := F.ns
        have h9 := Heap.lt_size hL
        rw [← e] at h9
        exact absurd h9 (Nat.not_lt.mpr (Nat.le_of_lt hDC))
  exact codeAny_compStart_list (loop _ rfl) (W.self 0 _ _ _ hSt1 (loop _ rfl))
end
end
section
section
variable {prog : Program} {w : World} {A : Around} {E : Value → Shared → Prop} {s : Shared} {env : Env} {h₀ : Heap} {L : Addr} {m : Str → Option Value} {news : List (Addr × Obj)}

/-- a list comprehension's source stands: what is left of it -/
def CompAt (prog : Program) (w : World) (A : Around) (E : Value → Shared → Prop) (use : Option (Value → Sem Unit)) (Q : Value → Shared → Prop) (elt target iter : Expr) (ifs : List Expr) (scope : Scope) (pos : Pos) (env : Env) (cl : List (Str × Addr)) (x : Value) (s₁ : Shared) : Prop :=
  wpAny (model prog w) A (pyIter x) (fun it s₂ => wpAny (model prog w) A (newList []) (fun acc s₃ => wpAny (model prog w) A (newFunctionEnv scope env.globals cl [] env.qual none .none (some env)) (fun cenv s₄ =>
      codeAny (model prog w) A (.compStart (.ListComp elt [⟨target, iter, ifs, 0⟩] scope pos) 0 it acc { cenv with scope := relabel scope env }) (compPost (model prog w) A E use Q acc cenv.locals) s₄) E s₃) E s₂) E s₁

theorem comp_start {elt target iter : Expr} {ifs : List Expr} {scope : Scope} {pos : Pos} {cl : List (Str × Addr)} {Q : Value → Shared → Prop} (hclos : closureFor scope env = pure cl) (hkind : scope.kind = .function)
    (hnames : ∀ x ∈ scope.names, x.2 = .local → scope.names.lookup x.1 = some .local) (hs : ∀ x, foldedSetIterable iter env x = pure x)
    (h : wpAny (model prog w) A (eval iter env) (CompAt prog w A E none Q elt target iter ifs scope pos env cl) E s) :
    wpAny (model prog w) A (eval (.ListComp elt [⟨target, iter, ifs, 0⟩] scope pos) env) Q E s := by
  rw [eval_ListComp]
  exact wpAny_comprehension_free rfl hs hclos hkind hnames h

theorem comp_start_used {elt target iter : Expr} {ifs : List Expr} {scope : Scope} {pos apos npos : Pos} {x : Str} {cl : List (Str × Addr)} {Q : Flow → Shared → Prop} (hsw : swapsWith (.ListComp elt [⟨target, iter, ifs, 0⟩] scope pos) (some (.Name x npos)) apos.line env = pure true)
    (hclos : closureFor scope env = pure cl) (hkind : scope.kind = .function)
    (hnames : ∀ x ∈ scope.names, x.2 = .local → scope.names.lookup x.1 = some .local) (hs : ∀ x, foldedSetIterable iter env x = pure x)
    (h : wpAny (model prog w) A (eval iter env) (CompAt prog w A E (some (assign (.Name x npos) env)) (fun _ s' => Q .next s') elt target iter ifs scope pos env cl) E s) :
    wpAny (model prog w) A (exec (.Assign [.Name x npos] (.ListComp elt [⟨target, iter, ifs, 0⟩] scope pos) apos) env) Q E s := by
  rw [exec_Assign_Name_used _ _ _ _ hsw]
  refine wpAny_bind (wpAny_standAt (wpAny_bind ?_))
  have h1 := wpAny_comprehension_free (e := .ListComp elt [⟨target, iter, ifs, 0⟩] scope pos) (pos := firstIterPos [⟨target, iter, ifs, 0⟩] pos) (newAcc := newList []) (use := some (assign (.Name x npos) env)) (Q := fun _ s' => Q .next s') (first := firstIter [⟨target, iter, ifs, 0⟩] env) rfl hs hclos hkind hnames h
  exact wpAny_mono (show wpAny (model prog w) A (evalThenUse (.ListComp elt [⟨target, iter, ifs, 0⟩] scope pos) env (assign (.Name x npos) env)) (fun _ s' => Q .next s') E s from wpAny_map h1) (fun _ s' q => wpAny_pure q) fun _ _ x => x

/-- a turn's end -/
inductive CE {σ : Type} (g : Heap) (C D : Addr) (nD : Nat) (I : Addr) (oI : Obj) (s : Shared) (Led : σ → List (Addr × Obj)) (P : σ → List Value → Prop) (ys ys' : List Value) (s₂ : Shared) : Prop
  | mk (c : σ) (h' : Heap) (tk : Nat) (m' : Str → Option Value) : (s₂ = { s with heap := h', toks := tk }) → (Fr g C h' m') → (News g C h' ((D, listOf ys.toArray nD) :: (I, oI) :: Led c)) → (P c ys') → (∀ p ∈ Led c, p.1 ≠ D ∧ p.1 ≠ I) → CE g C D nD I oI s Led P ys ys' s₂
theorem ce {σ : Type} {g : Heap} {C D : Addr} {nD : Nat} {I : Addr} {oI : Obj} {Led : σ → List (Addr × Obj)} {P : σ → List Value → Prop} {ys ys' : List Value} (c : σ) {h' : Heap} {tk : Nat} {m' : Str → Option Value} {news' : List (Addr × Obj)}
    (F : Fr g C h' m') (N : News g C h' news') (hs : ∀ p ∈ (D, listOf ys.toArray nD) :: (I, oI) :: Led c, p ∈ news') (hp : P c ys') (ho : ∀ p ∈ Led c, p.1 ≠ D ∧ p.1 ≠ I) : CE g C D nD I oI s Led P ys ys' { s with heap := h', toks := tk } :=
  ⟨c, h', tk, m', rfl, F, fun p hp => N p (hs p hp), hp, ho⟩

/-- the block's list is stored: what must hold then -/
inductive UEnd (h₀ : Heap) (L C : Addr) (oC : Obj) (Q : Shared → Prop) (s₂ : Shared) : Prop
  | mk (m' : Str → Option Value) (news' : List (Addr × Obj)) : (Fr h₀ L s₂.heap m') → (News h₀ L s₂.heap ((C, oC) :: news')) → ((∀ p ∈ news', p.1 ≠ C)) → (∀ h'', Fr h₀ L h'' m' → News h₀ L h'' news' → Q { s₂ with heap := h'' }) → UEnd h₀ L C oC Q s₂
theorem uend {h₀ : Heap} {L C : Addr} {oC : Obj} {Q : Shared → Prop} {s₂ : Shared} {m' : Str → Option Value} (news' : List (Addr × Obj)) {nx : List (Addr × Obj)} (F : Fr h₀ L s₂.heap m') (N : News h₀ L s₂.heap nx) (hs : ∀ p ∈ (C, oC) :: news', p ∈ nx) (ho : ∀ p ∈ news', p.1 ≠ C)
    (h : ∀ h'', Fr h₀ L h'' m' → News h₀ L h'' news' → Q { s₂ with heap := h'' }) : UEnd h₀ L C oC Q s₂ := ⟨m', news', F, fun p hp => N p (hs p hp), ho, h⟩

theorem comp_list0 {σ : Type} {elt target iter : Expr} {ifs : List Expr} {scope : Scope} {pos : Pos} {cl : List (Str × Addr)} {items : List Value} {l : Addr} {nl : Nat} {RR : Value → Addr → Result → Shared → Prop} (hh : A.handled = none)
    (hkz : items.length ≤ sizeLine) (hcell : ∀ y ∈ scope.names, y.2 ≠ .cell) (hkind : scope.kind = .function)
    (Led : σ → List (Addr × Obj)) (P : Nat → σ → List Value → Prop) (c₀ : σ)
    (F : Fr h₀ L s.heap m) (N : News h₀ L s.heap news) (hs : ∀ p ∈ Led c₀, p ∈ news) (hp : P 0 c₀ []) (hl : ∀ c, (l, listOf items.toArray nl) ∈ Led c)
    (turn : ∀ g C D I oI, (∀ b o, h₀.get? b = some o → g.get? b = some o) → I < D → D < C → (∀ p ∈ news, p.1 < I) →
      ∀ i v c ys u h tk nD, items[i]? = some v → P i c ys → (∀ p ∈ Led c, p.1 ≠ D ∧ p.1 ≠ I) → Fr g C h u → News g C h ((D, listOf ys.toArray nD) :: (I, oI) :: Led c) →
        wpAny (model prog w) A (assign target (compEnvC scope cl C env) v) (fun _ s₁ => wpAny (model prog w) A (testsOf ifs (compEnvC scope cl C env)) (fun ok s₂ =>
          if ok = true then wpAny (model prog w) A (eval elt (compEnvC scope cl C env)) (fun y s₃ => CE g C D nD I oI s Led (P (i + 1)) ys (ys ++ [y]) s₃) (fun _ _ => False) s₂
          else CE g C D nD I oI s Led (P (i + 1)) ys ys s₂) (fun _ _ => False) s₁) (fun _ _ => False) { s with heap := h, toks := tk })
    (done : ∀ c ys D C h tk nD u, P items.length c ys → h.Ns C u → h₀.get? C = none → C ≠ L → (∀ h'', Heap.SameBut C h h'' → Fr h₀ L h'' m ∧ News h₀ L h'' ((D, listOf ys.toArray nD) :: Led c)) → D < C → (∀ p ∈ news, p.1 < D) → (∀ p ∈ Led c, p.1 ≠ D ∧ p.1 ≠ C) →
      RR (.ref D) C (.ok .next) { s with heap := h, toks := tk }) :
    wpAny (model prog w) A (pyIter (.ref l)) (fun it s₂ => wpAny (model prog w) A (newList []) (fun acc s₃ => wpAny (model prog w) A (newFunctionEnv scope env.globals cl [] env.qual none .none (some env)) (fun cenv s₄ =>
      codeAny (model prog w) A (.compStart (.ListComp elt [⟨target, iter, ifs, 0⟩] scope pos) 0 it acc { cenv with scope := relabel scope env }) (RR acc cenv.locals) s₄) E s₃) E s₂) E s := by
  have hl0 : s.heap.get? l = some (listOf items.toArray nl) := (N _ (hs _ (hl c₀))).1
  refine wpAny_pyIter_list ⟨_, hl0, rfl, nl, rfl⟩ ?_
  have hlt : l < s.heap.objs.size := Heap.lt_size hl0
  have hne : l ≠ s.heap.objs.size := Nat.ne_of_lt hlt
  have W := Walks.list (prog := prog) (w := w) hh s.heap.objs.size l hne items.toArray
  have hI0 : h₀.get? s.heap.objs.size = none := by
    cases hq : h₀.get? s.heap.objs.size with
    | none => rfl
    | some o' => exact absurd (Heap.lt_size (F.keep _ _ hq)) (Nat.lt_irrefl _)
  have hIL : s.heap.objs.size ≠ L := Nat.ne_of_gt F.ns.lt
  have hsz1 : (s.heap.push { cls := .type "list_iterator", data := .fields #[.ref l, .int 0 0] }).objs.size = s.heap.objs.size + 1 := Heap.size_push ..
  have hN1 : News h₀ L (s.heap.push { cls := .type "list_iterator", data := .fields #[.ref l, .int 0 0] }) news := fun p hp => ⟨Heap.get?_push_of_some _ (N p hp).1, (N p hp).2⟩
  have hnI : ∀ p ∈ news, p.1 < s.heap.objs.size := fun p hp => Heap.lt_size (N p hp).1
  refine comp_walk (s := { s with heap := s.heap.push { cls := .type "list_iterator", data := .fields #[.ref l, .int 0 0] } }) W (by simpa using hkz) hcell hkind Led P c₀ (F.push _) hN1 hs hp ⟨⟨_, Heap.get?_push_size _ rfl, rfl, rfl⟩, ⟨_, Heap.get?_push_of_some _ hl0, rfl, nl, rfl⟩⟩
    (fun b hb => by rw [List.mem_singleton.mp hb]; exact ⟨hI0, hIL, by show s.heap.objs.size < _; rw [hsz1]; exact Nat.lt_succ_self _⟩)
    (fun b hb => by
      show b < (s.heap.push _).objs.size
      rw [hsz1]
      simp only [List.mem_cons, List.not_mem_nil, or_false] at hb
      rcases hb with rfl | rfl
      · exact Nat.lt_succ_self _
      · exact Nat.lt_succ_of_lt hlt)
    (fun p hp hb => Nat.lt_irrefl _ ((List.mem_singleton.mp hb) ▸ hnI p hp))
    (fun i v s' Q' hSt hQ => owned_list hSt.1 hQ) ?_ ?_
  · intro g C D hg hDC hnD hwD i v c ys u h tk nD hik hv hP ho hSt F1 N1 hgwr
    obtain ⟨oI, hoI, hcI, hdI⟩ := hSt.1
    have hIC : s.heap.objs.size ≠ C := Nat.ne_of_lt (Nat.lt_trans (hwD _ (List.mem_singleton.mpr rfl)) hDC)
    have hgI : g.get? s.heap.objs.size = none := hgwr _ (List.mem_singleton.mpr rfl)
    have N2 : News g C h ((D, listOf ys.toArray nD) :: (s.heap.objs.size, oI) :: Led c) := fun p hp => by
      rcases List.mem_cons.mp hp with rfl | hp
      · exact N1 _ (.head _)
      · rcases List.mem_cons.mp hp with rfl | hp
        · exact ⟨hoI, hIC, hgI⟩
        · exact N1 p (.tail _ hp)
    have ht := turn g C D s.heap.objs.size oI hg (hwD _ (List.mem_singleton.mpr rfl)) hDC hnI i v c ys u h tk nD (by simpa using hv) hP (fun p hp => ⟨(ho p hp).1, fun e => (ho p hp).2 (e ▸ List.mem_singleton.mpr rfl)⟩) F1 N2
    have fin : ∀ ys' s₃, CE g C D nD s.heap.objs.size oI s Led (P (i + 1)) ys ys' s₃ →
        CEnd g C D nD { s with heap := s.heap.push { cls := .type "list_iterator", data := .fields #[.ref l, .int 0 0] } } Led (P (i + 1)) [s.heap.objs.size] (fun h => h.IsListIter s.heap.objs.size l (i + 1) ∧ h.IsList l items.toArray) ys ys' s₃ := by
      rintro ys' s₃ ⟨c', h', tk', m', rfl, F', N', hP', ho'⟩
      refine ⟨c', h', tk', m', rfl, F', fun p hp => ?_, hP', fun p hp => ⟨(ho' p hp).1, fun hb => (ho' p hp).2 (List.mem_singleton.mp hb)⟩, ⟨oI, (N' _ (.tail _ (.head _))).1, hcI, hdI⟩, ⟨_, (N' _ (.tail _ (.tail _ (hl c')))).1, rfl, nl, rfl⟩⟩
      rcases List.mem_cons.mp hp with rfl | hp
      · exact N' _ (.head _)
      · exact N' p (.tail _ (.tail _ hp))
    refine wpAny_mono ht (fun _ s₁ q1 => wpAny_mono q1 (fun ok s₂ q2 => ?_) fun _ _ x => x) fun _ _ x => x
    cases ok with
    | false => simp only [Bool.false_eq_true, if_false] at q2 ⊢; exact fin _ _ q2
    | true => simp only [if_true] at q2 ⊢; exact wpAny_mono q2 (fun y s₃ q3 => fin _ _ q3) fun _ _ x => x
  · intro c ys D C h tk nD u hP hNs hC0 hCL hb hDC hnD ho
    exact done c ys D C h tk nD u (by simpa using hP) hNs hC0 hCL hb hDC hnD ho

theorem comp_list {σ : Type} {elt target iter : Expr} {ifs : List Expr} {scope : Scope} {pos : Pos} {cl : List (Str × Addr)} {items : List Value} {l : Addr} {nl : Nat} {Q : Value → Shared → Prop} (hh : A.handled = none)
    (hkz : items.length ≤ sizeLine) (hcell : ∀ y ∈ scope.names, y.2 ≠ .cell) (hkind : scope.kind = .function)
    (Led : σ → List (Addr × Obj)) (P : Nat → σ → List Value → Prop) (c₀ : σ)
    (F : Fr h₀ L s.heap m) (N : News h₀ L s.heap news) (hs : ∀ p ∈ Led c₀, p ∈ news) (hp : P 0 c₀ []) (hl : ∀ c, (l, listOf items.toArray nl) ∈ Led c)
    (turn : ∀ g C D I oI, (∀ b o, h₀.get? b = some o → g.get? b = some o) → I < D → D < C → (∀ p ∈ news, p.1 < I) →
      ∀ i v c ys u h tk nD, items[i]? = some v → P i c ys → (∀ p ∈ Led c, p.1 ≠ D ∧ p.1 ≠ I) → Fr g C h u → News g C h ((D, listOf ys.toArray nD) :: (I, oI) :: Led c) →
        wpAny (model prog w) A (assign target (compEnvC scope cl C env) v) (fun _ s₁ => wpAny (model prog w) A (testsOf ifs (compEnvC scope cl C env)) (fun ok s₂ =>
          if ok = true then wpAny (model prog w) A (eval elt (compEnvC scope cl C env)) (fun y s₃ => CE g C D nD I oI s Led (P (i + 1)) ys (ys ++ [y]) s₃) (fun _ _ => False) s₂
          else CE g C D nD I oI s Led (P (i + 1)) ys ys s₂) (fun _ _ => False) s₁) (fun _ _ => False) { s with heap := h, toks := tk })
    (done : ∀ c ys D h tk nD, P items.length c ys → Fr h₀ L h m → News h₀ L h ((D, listOf ys.toArray nD) :: Led c) → (∀ p ∈ news, p.1 < D) → (∀ p ∈ Led c, p.1 ≠ D) → Q (.ref D) { s with heap := h, toks := tk }) :
    CompAt prog w A E none Q elt target iter ifs scope pos env cl (.ref l) s := by
  unfold CompAt
  refine comp_list0 hh hkz hcell hkind Led P c₀ F N hs hp hl turn fun c ys D C h tk nD u hP hNs hC0 hCL hb hDC hnD ho => ?_
  exact ⟨u, hNs, fun h' hs' => done c ys D h' tk nD hP (hb h' hs').1 (hb h' hs').2 hnD (fun p hp => (ho p hp).1)⟩

theorem comp_list_used {σ : Type} {elt target iter : Expr} {ifs : List Expr} {scope : Scope} {pos : Pos} {cl : List (Str × Addr)} {items : List Value} {l : Addr} {nl : Nat} {use : Value → Sem Unit} {Q : Shared → Prop} (hh : A.handled = none)
    (hkz : items.length ≤ sizeLine) (hcell : ∀ y ∈ scope.names, y.2 ≠ .cell) (hkind : scope.kind = .function)
    (Led : σ → List (Addr × Obj)) (P : Nat → σ → List Value → Prop) (c₀ : σ)
    (F : Fr h₀ L s.heap m) (N : News h₀ L s.heap news) (hs : ∀ p ∈ Led c₀, p ∈ news) (hp : P 0 c₀ []) (hl : ∀ c, (l, listOf items.toArray nl) ∈ Led c)
    (turn : ∀ g C D I oI, (∀ b o, h₀.get? b = some o → g.get? b = some o) → I < D → D < C → (∀ p ∈ news, p.1 < I) →
      ∀ i v c ys u h tk nD, items[i]? = some v → P i c ys → (∀ p ∈ Led c, p.1 ≠ D ∧ p.1 ≠ I) → Fr g C h u → News g C h ((D, listOf ys.toArray nD) :: (I, oI) :: Led c) →
        wpAny (model prog w) A (assign target (compEnvC scope cl C env) v) (fun _ s₁ => wpAny (model prog w) A (testsOf ifs (compEnvC scope cl C env)) (fun ok s₂ =>
          if ok = true then wpAny (model prog w) A (eval elt (compEnvC scope cl C env)) (fun y s₃ => CE g C D nD I oI s Led (P (i + 1)) ys (ys ++ [y]) s₃) (fun _ _ => False) s₂
          else CE g C D nD I oI s Led (P (i + 1)) ys ys s₂) (fun _ _ => False) s₁) (fun _ _ => False) { s with heap := h, toks := tk })
    (done : ∀ c ys D C oC h tk nD, P items.length c ys → Fr h₀ L h m → News h₀ L h ((C, oC) :: (D, listOf ys.toArray nD) :: Led c) → D < C → (∀ p ∈ news, p.1 < D) → (∀ p ∈ Led c, p.1 ≠ D ∧ p.1 ≠ C) →
      wpAny (model prog w) A (use (.ref D)) (fun _ s₂ => UEnd h₀ L C oC Q s₂) E { s with heap := h, toks := tk }) :
    CompAt prog w A E (some use) (fun _ s' => Q s') elt target iter ifs scope pos env cl (.ref l) s := by
  unfold CompAt
  refine comp_list0 hh hkz hcell hkind Led P c₀ F N hs hp hl turn fun c ys D C h tk nD u hP hNs hC0 hCL hb hDC hnD ho => ?_
  obtain ⟨oC, es, ep, hoC, hrC⟩ := hNs
  obtain ⟨F1, N1⟩ := hb h (.refl ..)
  refine wpAny_mono (done c ys D C oC h tk nD hP F1 (fun p hp => ?_) hDC hnD ho) (fun _ s₂ q => ?_) fun _ _ x => x
  · rcases List.mem_cons.mp hp with rfl | hp
    · exact ⟨hoC, hCL, hC0⟩
    · exact N1 p hp
  · obtain ⟨m', news', F2, N2, ho2, hQ⟩ := q
    refine ⟨u, ⟨oC, es, ep, (N2 _ (.head _)).1, hrC⟩, fun h' hs' => hQ h' (F2.change hs' hCL hC0) fun p hp => ?_⟩
    exact ⟨(hs'.2 p.1 (ho2 p hp)).trans (N2 p (.tail _ hp)).1, (N2 p (.tail _ hp)).2⟩
end
end
section
section
variable {M : Model} {A : Around} {E : Value → Shared → Prop} {s : Shared} {K : Frag} {h₀ : Heap} {mg mb : Str → Option Value} {p : Program} {loose : List Str} {g : Heap} {C c : Addr} {m : Str → Option Value} {news : List (Addr × Obj)} {scope : Scope} {cl : List (Str × Addr)} {env : Env} {x : Str} {pos : Pos} {v : Value} {o : Obj}
theorem nmL {Q : Value → Shared → Prop} (F : Fr g C s.heap m) (hv : m x = some v) (hk : scope.kind = .function) (hx : (compEnvC scope cl C env).kindOf x = some .local) (hd : (x == ("__debug__" : Str)) = false) (h : Q v s) :
    wpAny M A (eval (.Name x pos) (compEnvC scope cl C env)) Q E s := ldVarK F.ns hv h hk hx hd
theorem nmG {Q : Value → Shared → Prop} (F : Fr g C s.heap m) (X : K.In g) (T : TopRead p loose mg mb g) (e : nsIn K mainGlobals x = some (some v)) (hg : env.globals = mainGlobals) (hk : scope.kind = .function) (hx : (compEnvC scope cl C env).kindOf x = some .globalImplicit) (hd : (x == ("__debug__" : Str)) = false) (h : Q v s) :
    wpAny M A (eval (.Name x pos) (compEnvC scope cl C env)) Q E s :=
  Name_function_global (env := compEnvC scope cl C env) hk hx (loadGlobal_global (env := compEnvC scope cl C env) (by rw [show (compEnvC scope cl C env).globals = env.globals from rfl, hg]; exact T.g.keeps F.keep) (mg_of X T.g e) h) hd
theorem nmB {Q : Value → Shared → Prop} (F : Fr g C s.heap m) (X : K.In g) (T : TopRead p loose mg mb g) (e : nsIn K mainGlobals x = some none) (hv : bootBuiltins x = some v) (hn : x ≠ "__name__") (hg : env.globals = mainGlobals) (hB : env.builtins = builtinsNs) (hk : scope.kind = .function) (hx : (compEnvC scope cl C env).kindOf x = some .globalImplicit) (hd : (x == ("__debug__" : Str)) = false) (h : Q v s) :
    wpAny M A (eval (.Name x pos) (compEnvC scope cl C env)) Q E s :=
  Name_function_global (env := compEnvC scope cl C env) hk hx (loadGlobal_builtin (env := compEnvC scope cl C env) (by rw [show (compEnvC scope cl C env).globals = env.globals from rfl, hg]; exact T.g.keeps F.keep) (mg_none_of X T.g e) (by rw [show (compEnvC scope cl C env).builtins = env.builtins from rfl, hB]; exact T.b.keeps F.keep) ((T.builtins x hn).trans hv) h) hd
theorem stC {Q : Unit → Shared → Prop} (F : Fr g C s.heap m) (N : News g C s.heap news) (hk : scope.kind = .function) (hx : (compEnvC scope cl C env).kindOf x = some .local)
    (h : ∀ h', Fr g C h' (fun y => if y = x then some v else m y) → News g C h' news → Q () { s with heap := h', toks := s.toks + 1 }) : wpAny M A (storeName (compEnvC scope cl C env) x v) Q E s :=
  wpAny_storeName_local (env := compEnvC scope cl C env) hx F.ns (fun h' hn hs => h h' (F.set hn hs) (N.set hs)) (by show (scope.kind == .class || (scope.kind == .module && C != env.globals)) = false; rw [hk]; rfl)
end
end
section
section
variable {prog : Program} {w : World} {A : Around} {E : Value → Shared → Prop} {s : Shared}
/-- xs[:] = ys -/
theorem set_all {l sl b : Addr} {its its2 : List Value} {n n2 : Nat} {Q : Unit → Shared → Prop} (hl : s.heap.get? l = some (listOf its.toArray n)) (hs : s.heap.IsSliceOf sl .none .none .none) (hb : s.heap.get? b = some (listOf its2.toArray n2)) (hlb : l ≠ b)
    (hz : its.length + its2.length ≤ 1000000) (h : ∀ h' n', h'.get? l = some (listOf its2.toArray n') → Heap.SameBut l s.heap h' → Q () { s with heap := h' }) :
    wpAny (model prog w) A (setItem (.ref l) (.ref sl) (.ref b)) Q E s := by
  have hL : s.heap.IsList l its.toArray := ⟨_, hl, rfl, n, rfl⟩
  have hB : s.heap.IsList b its2.toArray := ⟨_, hb, rfl, n2, rfl⟩
  obtain ⟨os, hos, hcs, hds⟩ := id hs
  have hTs : s.TypeIs (.ref sl) "slice" := ⟨os, hos, hcs⟩
  unfold setItem
  try with_reducible refine wpAny_holding ?_
  first | refine wpAny_bind (wpAny_pure ?_) | skip
  refine wpAny_bind (wpAny_sequenceKey hL.typeIs (by decide) ?_)
  refine wpAny_bind (wpAny_callSpecial?_slot (name := Str.ofString "__setitem__") hL.typeIs PySem.F.slot_list_setitem
    (wpAny_call_entry PySem.F.slot_list_setitem hL.typeIs PySem.F.entry_list_setitem ?_ (PySem.F.args_list_setitem_3 _ _ _)))
  show wpAny _ _ (Builtin.List.listSubscript? (.ref sl) >>= _) _ _ s
  refine wpAny_bind ?_
  unfold Builtin.List.listSubscript?
  refine wpAny_bind (wpAny_specialOf hTs slice_no_index ?_)
  simp only [Option.isNone_none, if_true]
  refine wpAny_pure ?_
  show wpAny _ _ (typeOf (.ref sl) >>= _) _ _ s
  refine wpAny_bind (wpAny_typeOf hTs ?_)
  rw [if_neg (by decide)]
  rw [listSliceParts_eq]
  refine wpAny_bind (wpAny_bind (wpAny_field hos hds (x := .none) rfl (wpAny_bind (wpAny_listPart .none ?_))))
  rw [if_neg (show ¬ ((rawPart none == rawInt 0) = true) from Bool.false_ne_true)]
  refine wpAny_bind (wpAny_field hos hds (x := .none) rfl (wpAny_bind (wpAny_listPart .none ?_)))
  refine wpAny_bind (wpAny_field hos hds (x := .none) rfl (wpAny_bind (wpAny_listPart .none (wpAny_pure ?_))))
  dsimp only
  have hsame : Builtin.List.listSameRef (.ref l) (.ref b) = false := by
    show (l == b) = false
    exact beq_eq_false_iff_ne.mpr hlb
  rw [hsame]
  refine wpAny_bind (m := Builtin.List.listAllItems (.ref b) _) ?_
  unfold Builtin.List.listAllItems
  refine wpAny_bind (wpAny_typeOf hB.typeIs ?_)
  rw [if_pos (by decide)]
  refine wpAny_bind (wpAny_seqItems hb rfl (wpAny_pure ?_))
  refine wpAny_bind (wpAny_listItems hl rfl ?_)
  refine wpAny_bind (wpAny_of_eq (sliceIndices_raw none none none its.toArray.size (by simp)) ?_)
  dsimp only [sliceBounds, Option.getD]
  rw [if_pos (by decide)]
  refine wpAny_bind (wpAny_rule ?_)
  have htl : ¬ Builtin.List.listTooLong (its.toArray.size + its2.toArray.size) = true := by
    unfold Builtin.List.listTooLong
    rw [sizeLine_eq]
    simp; omega
  rw [if_neg htl]
  refine wpAny_bind (m := updateSeq l _) (wpAny_updateSeq (s := s) hl rfl ?_ (by rw [List.size_toArray, sizeLine_eq]; omega) ?_)
  · refine wpAny_bind (wpAny_letGo (wpAny_pure ⟨_, rfl, wpAny_pure ?_⟩))
    refine h _ (if (its2.toArray).size == its.toArray.size then n else n + 1) ?_ (Heap.SameBut.update ..)
    have q := PySem.IsL.update (items := its.toArray) (n := n) hl (fun xs => xs.extract 0 (Int.toNat 0) ++ its2.toArray ++ xs.extract (max 0 (its.toArray.size : Int)).toNat)
    have e : its.toArray.extract 0 (Int.toNat 0) ++ its2.toArray ++ its.toArray.extract (max 0 (its.toArray.size : Int)).toNat = its2.toArray := by
      have e1 : (max 0 (its.toArray.size : Int)).toNat = its.length := by simp
      rw [e1]
      apply Array.toList_inj.mp
      simp
    rw [e] at q
    exact q
  · rw [sizeLine_eq]
    simp
    omega
end
/-- the same, upon the ledger; the slice stands on the heap's end -/
theorem set_all_N {h₀ : Heap} {L : Addr} {m : Str → Option Value} {rest : List (Addr × Obj)} {l b : Addr} {its its2 : List Value} {n n2 : Nat} {sl : Addr} {prog : Program} {w : World} {A : Around} {E : Value → Shared → Prop} {s : Shared} {Q : Unit → Shared → Prop} (F : Fr h₀ L s.heap m) (N : News h₀ L s.heap ((l, listOf its.toArray n) :: rest))
    (hs : s.heap.IsSliceOf sl .none .none .none) (hb : (b, listOf its2.toArray n2) ∈ rest) (hr : ∀ p ∈ rest, p.1 ≠ l) (hz : its.length + its2.length ≤ 1000000)
    (h : ∀ h' n', Fr h₀ L h' m → News h₀ L h' ((l, listOf its2.toArray n') :: rest) → Q () { s with heap := h' }) :
    wpAny (model prog w) A (setItem (.ref l) (.ref sl) (.ref b)) Q E s := by
  have z := N _ (.head _)
  refine set_all z.1 hs (N _ (.tail _ hb)).1 (Ne.symm (hr _ hb)) hz fun h' n' e hsb => ?_
  exact h h' n' (F.change hsb z.2.1 z.2.2) (News.setHead N hr hsb e)
section
variable {M : Model} {A : Around} {E : Value → Shared → Prop} {s : Shared} {K : Frag} {x C L f : Addr} {h₀ : Heap} {m : Str → Option Value} {ox : Obj} {od : Option Obj} {i v : Value}
theorem own_delItem {Q : Unit → Shared → Prop} (F : Fr h₀ L s.heap m) (X₀ : K.In h₀) (I : InstAt s.heap x ox C od) (hq : noSeq K C = true) (hs : findIn K (.ref C) "__delitem__" = some (some (.ref f))) (hf : isFn K (.ref f) = true)
    (h : wpAny M A (call (.ref f) [.ref x, i]) (fun _ s' => Q () s') E s) : wpAny M A (delItem (.ref x) i) Q E s := by
  have X := X₀.keeps F.keep
  have called : wpAny M A (callSpecial? (.ref x) "__delitem__" [i]) (fun r s' => ∃ v, r = some v ∧ Q () s') E s :=
    special_fn (Q := fun r s' => ∃ v, r = some v ∧ Q () s') X I hs (eq_of_beq hf) (wpAny_mono h (fun v _ z => ⟨v, rfl, z⟩) fun _ _ z => z)
  unfold delItem
  refine wpAny_holding (wpAny_bind ?_)
  unfold sequenceKey
  refine wpAny_bind (I.type.here (wpAny_bind ((anyM_none X hq).here ?_)))
  refine wpAny_pure (wpAny_bind (wpAny_mono called ?_ fun _ _ z => z))
  rintro _ s' ⟨v, rfl, z⟩
  exact wpAny_pure z
end
end
section
/-- a job: its begin and its last -/
abbrev Jobs := Nat → Int × Int
/-- the one job stands ahead of the other in rank -/
def before (J : Jobs) (k k' : Nat) : Bool := decide ((J k).2 < (J k').2 ∨ ((J k).2 = (J k').2 ∧ ((J k').1 < (J k).1 ∨ ((J k).1 = (J k').1 ∧ k' < k))))
/-- one job's coming, the hours from a place on: told with a lid -/
def comeLoop (H : List Int) (J : Jobs) : Nat → Nat → Nat → List (Nat × Nat) → List (Str × Int) → List (Nat × Nat) × List (Str × Int)
  | 0, _, _, D, A => (D, A)
  | f + 1, p, k, D, A =>
    if p < nle H (J k).2 then
      match hget D p with
      | none => (hset D p k, addC A [(lc p, 1), (fg k, 1)])
      | some k' => if before J k k' then comeLoop H J f (p + 1) k' (hset D p k) (addC A [(lc p, 1), (fg k, 1)]) else comeLoop H J f (p + 1) k D (addC A [(lc p, 1), (fg k, 1)])
    else (D, A)
def come (H : List Int) (J : Jobs) (k : Nat) (D : List (Nat × Nat)) (A : List (Str × Int)) : List (Nat × Nat) × List (Str × Int) := comeLoop H J 6 (nlt H (J k).1) k D A
theorem hset_mem {D : List (Nat × Nat)} {p k : Nat} {x : Nat × Nat} (h : x ∈ hset D p k) : x ∈ D ∨ x = (p, k) := by
  unfold hset at h
  rcases List.mem_append.mp h with h | h
  · exact .inl (List.mem_filter.mp h).1
  · exact .inr (by simpa using h)
theorem hset_length (D : List (Nat × Nat)) (p k : Nat) : (hset D p k).length ≤ D.length + 1 := by
  unfold hset
  have := List.length_filter_le (fun x => !decide (x.1 = p)) D
  simp
  exact this
theorem hget_mem {D : List (Nat × Nat)} {p k : Nat} (h : hget D p = some k) : (p, k) ∈ D := by
  unfold hget at h
  cases hf : D.find? (fun x => decide (x.1 = p)) with
  | none => rw [hf] at h; cases h
  | some x =>
    rw [hf] at h
    simp at h
    have h1 := List.mem_of_find?_eq_some hf
    have h2 := List.find?_some hf
    simp at h2
    obtain ⟨a, b⟩ := x
    simp at h h2
    subst h; subst h2; exact h1
theorem bump_length (A : List (Str × Int)) (k : Str) (c : Int) : (bump A k c).length ≤ A.length + 1 := by
  unfold bump
  split <;> simp
theorem addC_length (B : List (Str × Int)) : ∀ A, (addC A B).length ≤ A.length + B.length := by
  unfold addC
  induction B with
  | nil => intro A; simp
  | cons b r ih =>
    intro A
    have h1 := ih (bump A b.1 b.2)
    have h2 := bump_length A b.1 b.2
    simp only [List.foldl_cons, List.length_cons]
    omega
/-- the three orders a TupleComp looks by, laid behind -/
theorem repack {h₀ h : Heap} {L : Addr} {rest : List (Addr × Obj)} {hl x d l t1 t2 t3 : Addr} {HL O D Lo T1 T2 T3 : Obj}
    (N : News h₀ L h ((x, O) :: (d, D) :: (l, Lo) :: (t3, T3) :: (t2, T2) :: (t1, T1) :: (hl, HL) :: rest)) (hr : ∀ p ∈ rest, p.1 ≠ hl) (hx : d < x) (hd : hl < d) (hl' : hl < l) (h3 : hl < t3) (h2 : hl < t2) (h1 : hl < t1) :
    ∃ rest2, News h₀ L h ((hl, HL) :: rest2) ∧ (∀ p ∈ rest, p ∈ rest2) ∧ (∀ p ∈ rest2, p.1 ≠ hl) ∧ (x, O) ∈ rest2 ∧ (d, D) ∈ rest2 ∧ (l, Lo) ∈ rest2 ∧ (t1, T1) ∈ rest2 ∧ (t2, T2) ∈ rest2 ∧ (t3, T3) ∈ rest2 := by
  refine ⟨(x, O) :: (d, D) :: (l, Lo) :: (t3, T3) :: (t2, T2) :: (t1, T1) :: rest, cb_drop N ?_, ?_, ?_, ?_, ?_, ?_, ?_, ?_, ?_⟩
  · intro p hp
    simp only [List.mem_cons] at hp ⊢
    rcases hp with h | h | h | h | h | h | h | h <;> simp [h]
  · intro p hp
    simp [hp]
  · intro p hp
    simp only [List.mem_cons] at hp
    rcases hp with h | h | h | h | h | h | h
    · subst h; exact Nat.ne_of_gt (Nat.lt_trans hd hx)
    · subst h; exact Nat.ne_of_gt hd
    · subst h; exact Nat.ne_of_gt hl'
    · subst h; exact Nat.ne_of_gt h3
    · subst h; exact Nat.ne_of_gt h2
    · subst h; exact Nat.ne_of_gt h1
    · exact hr p h
  all_goals simp
end
section
section
variable {prog : Program} {w : World} {A : Around} {E : Value → Shared → Prop} {s : Shared} {h₀ : Heap} {L d : Addr} {m : Str → Option Value} {news : List (Addr × Obj)} {o : Obj} {Q : Value → Shared → Prop}
/-- a display of two texts ends -/
theorem made_two {x y : Str} {tx ty : Tok} {v1 v2 : Value} (F : Fr h₀ L s.heap m) (N : News h₀ L s.heap ((d, o) :: news)) (hap : ∀ p ∈ news, p.1 ≠ d) (hd : o.IsDictOf (strKind prog w) []) (hne : x ≠ y)
    (h : ∀ h' o', Fr h₀ L h' m → News h₀ L h' ((d, o') :: news) → o'.IsDictOf (strKind prog w) [(x, v1), (y, v2)] → Q (.ref d) { s with heap := h', toks := s.toks + 2 }) :
    KdnMade prog w (strKind prog w) d Q [(.str x tx, v1), (.str y ty, v2)] s := by
  have hm := N (d, o) (.head _)
  refine display_done_str (vs := [(.str x tx, v1), (.str y ty, v2)]) rfl ?_ (Heap.dictOf_iff.mpr ⟨o, hm.1, hd⟩) fun h' hmm hs => ?_
  · simp [strPairs, hne]
  · obtain ⟨o', ho', hd'⟩ := Heap.dictOf_iff.mp hmm
    exact h h' o' (F.change hs hm.2.1 hm.2.2) (N.setHead hap hs ho') hd'
end
theorem repack2 {h₀ h : Heap} {L : Addr} {rest : List (Addr × Obj)} {hl r d : Addr} {HL O D : Obj}
    (N : News h₀ L h ((r, O) :: (d, D) :: (hl, HL) :: rest)) (hr : ∀ p ∈ rest, p.1 ≠ hl) (h1 : hl < r) (h2 : hl < d) :
    ∃ rest2, News h₀ L h ((hl, HL) :: rest2) ∧ (∀ p ∈ rest, p ∈ rest2) ∧ (∀ p ∈ rest2, p.1 ≠ hl) ∧ (r, O) ∈ rest2 := by
  refine ⟨(r, O) :: (d, D) :: rest, cb_drop N ?_, ?_, ?_, ?_⟩
  · intro p hp
    simp only [List.mem_cons] at hp ⊢
    rcases hp with h | h | h | h <;> simp [h]
  · intro p hp
    simp [hp]
  · intro p hp
    simp only [List.mem_cons] at hp
    rcases hp with h | h | h
    · subst h; exact Nat.ne_of_gt h1
    · subst h; exact Nat.ne_of_gt h2
    · exact hr p h
  simp
theorem chr_lc (q : Nat) : (⟨#[(97 + (q : Int)).toNat]⟩ : Str) = lc q := by
  have e : (97 + (q : Int)).toNat = 97 + q := by omega
  rw [e]; rfl
theorem chr_uc (q : Nat) : (⟨#[(65 + (q : Int)).toNat]⟩ : Str) = uc q := by
  have e : (65 + (q : Int)).toNat = 65 + q := by omega
  rw [e]; rfl
theorem str_fg : ∀ k : Nat, k < 6 → Str.ofString (toString (k : Int)) = fg k := by decide +kernel
theorem int_fg : ∀ k : Nat, k < 6 → PySem.intText? (fg k) = some (k : Int) := by decide +kernel
theorem js_at (js : Nat → Addr) : ∀ k : Nat, k < 6 → (#[Value.ref (js 0), Value.ref (js 1), Value.ref (js 2), Value.ref (js 3), Value.ref (js 4), Value.ref (js 5)] : Array Value)[(k : Int).toNat]? = some (.ref (js k))
  | 0, _ => rfl
  | 1, _ => rfl
  | 2, _ => rfl
  | 3, _ => rfl
  | 4, _ => rfl
  | 5, _ => rfl
  | k + 6, h => by omega
theorem comeLoop_end {H : List Int} {J : Jobs} {f p k : Nat} {D : List (Nat × Nat)} {A : List (Str × Int)} (h : ¬ p < nle H (J k).2) : comeLoop H J f p k D A = (D, A) := by
  cases f with
  | zero => rfl
  | succ f => rw [comeLoop, if_neg h]
theorem comeLoop_none {H : List Int} {J : Jobs} {f p k : Nat} {D : List (Nat × Nat)} {A : List (Str × Int)} (h : p < nle H (J k).2) (hg : hget D p = none) :
    comeLoop H J (f + 1) p k D A = (hset D p k, addC A [(lc p, 1), (fg k, 1)]) := by
  rw [comeLoop, if_pos h, hg]
theorem comeLoop_yes {H : List Int} {J : Jobs} {f p k k' : Nat} {D : List (Nat × Nat)} {A : List (Str × Int)} (h : p < nle H (J k).2) (hg : hget D p = some k') (hb : before J k k' = true) :
    comeLoop H J (f + 1) p k D A = comeLoop H J f (p + 1) k' (hset D p k) (addC A [(lc p, 1), (fg k, 1)]) := by
  rw [comeLoop, if_pos h, hg]
  simp only [hb, if_true]
theorem comeLoop_no {H : List Int} {J : Jobs} {f p k k' : Nat} {D : List (Nat × Nat)} {A : List (Str × Int)} (h : p < nle H (J k).2) (hg : hget D p = some k') (hb : before J k k' = false) :
    comeLoop H J (f + 1) p k D A = comeLoop H J f (p + 1) k D (addC A [(lc p, 1), (fg k, 1)]) := by
  rw [comeLoop, if_pos h, hg]
  simp only [hb, Bool.false_eq_true, if_false]
end
section
section
variable {prog : Program} {w : World} {A : Around} {E : Value → Shared → Prop} {Q : Flow → Shared → Prop} {s : Shared} {env : Env} {h₀ : Heap} {L : Addr} {m : Str → Option Value} {news : List (Addr × Obj)}
theorem owned_int {I : Addr} {target : Expr} {i : Int} {t : Tok} {R : Unit → Shared → Prop} (h : R () s) :
    wpAny (model prog w) A (letOwnedTupleGo target (.ref I) (.int i t)) R E s := by
  unfold letOwnedTupleGo
  split <;> exact wpAny_pure h
theorem range1_rows {Q : Value → Shared → Prop} {b : Int} {u : Tok} (F : Fr h₀ L s.heap m) (N : News h₀ L s.heap news)
    (h : ∀ h' tk r t₁ u₁ v₁, IsRange h' r 0 b 1 t₁ u₁ v₁ → Fr h₀ L h' m → News h₀ L h' news → Q (.ref r) { s with heap := h', toks := tk }) :
    wpAny (model prog w) A (call (.type "range") [.int b u]) Q E s :=
  PyProof.Rows.range1_rows F N fun h' tk t₁ u₁ v₁ hr F' N' _ => h h' tk _ t₁ u₁ v₁ hr F' N'
theorem range2_rows {Q : Value → Shared → Prop} {a b : Int} {t u : Tok} (F : Fr h₀ L s.heap m) (N : News h₀ L s.heap news)
    (h : ∀ h' tk r t₁ u₁ v₁, IsRange h' r a b 1 t₁ u₁ v₁ → Fr h₀ L h' m → News h₀ L h' news → Q (.ref r) { s with heap := h', toks := tk }) :
    wpAny (model prog w) A (call (.type "range") [.int a t, .int b u]) Q E s :=
  PyProof.Rows.range2_rows F N fun h' tk t₁ u₁ v₁ hr F' N' _ => h h' tk _ t₁ u₁ v₁ hr F' N'

theorem kw_range {σ : Type} {target : Expr} {body : List Stmt} {r : Addr} {a b c : Int} {t u v : Tok} {n : Nat} (hh : A.handled = none) (hr : IsRange s.heap r a b c t u v) (hsmall : Builtin.Range.small a b c = true)
    (hn : Builtin.Range.rangeSize a b c = n)
    (Led : σ → List (Addr × Obj)) (ps : σ → List (Str × Value)) (P : Nat → σ → Prop) (c₀ : σ) {m₀ : Str → Option Value}
    (F : Fr h₀ L s.heap m₀) (N : News h₀ L s.heap news) (hs : ∀ p ∈ Led c₀, p ∈ news) (hk : ∀ p ∈ ps c₀, m₀ p.1 = some p.2) (hp : P 0 c₀)
    (turn : ∀ i (cc : σ) (tk' : Tok) (u : Str → Option Value) I oI h tk, i < n → P i cc → (∀ p ∈ Led cc, p.1 ≠ I) → Fr h₀ L h (kstB u (ps cc)) → News h₀ L h ((I, oI) :: Led cc) →
      wpAny (model prog w) A (assign target env (.int (a + i * c) tk')) (fun _ s₂ => wpAny (model prog w) A (execs body env)
        (LPost h₀ L s (fun c => (I, oI) :: Led c) ps (fun c' => P (i + 1) c' ∧ ∀ p ∈ Led c', p.1 ≠ I) Q) E s₂) E { s with heap := h, toks := tk })
    (done : ∀ (c : σ) (u : Str → Option Value) h tk, P n c → Fr h₀ L h (kstB u (ps c)) → News h₀ L h (Led c) → Q .next { s with heap := h, toks := tk })
    (hE : PassesOwn (model prog w) A env E) :
    wpAny (model prog w) A (pyIter (.ref r)) (fun it s₂ => codeAny (model prog w) A (.forLoop target it body [] env) (fun r s' => match r with | .ok f => Q f s' | .error e => cameBackBy (model prog w) A env E e s') s₂) E s := by
  refine wpAny_pyIter_range hr hsmall ?_
  have W := Walks.range (prog := prog) (w := w) hh s.heap.objs.size a c n
  have hI0 : h₀.get? s.heap.objs.size = none := by
    cases hq : h₀.get? s.heap.objs.size with
    | none => rfl
    | some o' => exact absurd (Heap.lt_size (F.keep _ _ hq)) (Nat.lt_irrefl _)
  have hIL : s.heap.objs.size ≠ L := Nat.ne_of_gt F.ns.lt
  refine kw_for W Led ps (fun i c => P i c ∧ ∀ p ∈ Led c, p.1 ≠ s.heap.objs.size) c₀ (F.push _) (News.push F N _) (fun p hp => .tail _ (hs p hp)) hk
    ⟨hp, fun p hp => Nat.ne_of_lt (Heap.lt_size (N p (hs p hp)).1)⟩ (by rw [hn]; simpa using Heap.get?_push_size _ rfl)
    (fun b hb => by rw [List.mem_singleton.mp hb]; exact ⟨hI0, hIL⟩) (fun i c hc p hp hb => hc.2 p hp (List.mem_singleton.mp hb)) ?_ ?_ hE
  · rintro i v cc u h tk hik ⟨tv, rfl⟩ ⟨hPi, hoff⟩ hSt F1 N1
    refine owned_int ?_
    have N2 : News h₀ L h ((s.heap.objs.size, { cls := .type "range_iterator", dict := none, data := .fields #[rawInt (a + ((i + 1 : Nat) : Int) * c), rawInt ((n : Int) - ((i + 1 : Nat) : Int)), rawInt c], slots := #[] }) :: Led cc) := fun p hp => by
      rcases List.mem_cons.mp hp with rfl | hp
      · exact ⟨hSt, hIL, hI0⟩
      · exact N1 p hp
    have ht := turn i cc tv u s.heap.objs.size _ h tk hik hPi hoff F1 N2
    refine wpAny_mono ht (fun _ s₂ q2 => ?_) fun _ _ x => x
    refine wpAny_mono q2 (fun f s₃ q3 => ?_) fun _ _ x => x
    have fin : ∀ {oI} {s₃}, LEnd h₀ L s (fun c => (s.heap.objs.size, oI) :: Led c) ps (fun c' => P (i + 1) c' ∧ ∀ p ∈ Led c', p.1 ≠ s.heap.objs.size) s₃ →
        LEnd h₀ L { s with heap := s.heap.push { cls := .type "range_iterator", data := .fields #[rawInt a, rawInt (Builtin.Range.rangeSize a b c), rawInt c] } } Led ps (fun c => P (i + 1) c ∧ ∀ p ∈ Led c, p.1 ≠ s.heap.objs.size) s₃ ∧ (s₃.heap.get? s.heap.objs.size = some oI) := by
      rintro oI s₃ ⟨c', h', tk', m', rfl, F', N', hk', hP'⟩
      exact ⟨⟨c', h', tk', m', rfl, F', fun p hp => N' p (.tail _ hp), hk', hP'⟩, (N' _ (.head _)).1⟩
    cases f with
    | ret v => exact ⟨q3, fun h => by rcases h with h | h <;> cases h⟩
    | brk => exact ⟨q3, fun h => by rcases h with h | h <;> cases h⟩
    | next => exact ⟨(fin q3).1, fun _ => (fin q3).2⟩
    | cont => exact ⟨(fin q3).1, fun _ => (fin q3).2⟩
  · rintro c u h tk ⟨hPk, hoff⟩ F1 N1
    exact done c u h tk hPk F1 N1

theorem comp_range0 {σ : Type} {elt target iter : Expr} {ifs : List Expr} {scope : Scope} {pos : Pos} {cl : List (Str × Addr)} {r : Addr} {a b c : Int} {t u v : Tok} {n : Nat} {RR : Value → Addr → Result → Shared → Prop} (hh : A.handled = none)
    (hr : IsRange s.heap r a b c t u v) (hsmall : Builtin.Range.small a b c = true) (hn : Builtin.Range.rangeSize a b c = n)
    (hkz : n ≤ sizeLine) (hcell : ∀ y ∈ scope.names, y.2 ≠ .cell) (hkind : scope.kind = .function) (hgo : ∀ it x, letOwnedTupleGo target it x = pure ())
    (Led : σ → List (Addr × Obj)) (P : Nat → σ → List Value → Prop) (c₀ : σ)
    (F : Fr h₀ L s.heap m) (N : News h₀ L s.heap news) (hs : ∀ p ∈ Led c₀, p ∈ news) (hp : P 0 c₀ [])
    (turn : ∀ g C D I oI, (∀ b o, h₀.get? b = some o → g.get? b = some o) → I < D → D < C → (∀ p ∈ news, p.1 < I) →
      ∀ i tv cc ys u h tk nD, i < n → P i cc ys → (∀ p ∈ Led cc, p.1 ≠ D ∧ p.1 ≠ I) → Fr g C h u → News g C h ((D, listOf ys.toArray nD) :: (I, oI) :: Led cc) →
        wpAny (model prog w) A (assign target (compEnvC scope cl C env) (.int (a + i * c) tv)) (fun _ s₁ => wpAny (model prog w) A (testsOf ifs (compEnvC scope cl C env)) (fun ok s₂ =>
          if ok = true then wpAny (model prog w) A (eval elt (compEnvC scope cl C env)) (fun y s₃ => CE g C D nD I oI s Led (P (i + 1)) ys (ys ++ [y]) s₃) (fun _ _ => False) s₂
          else CE g C D nD I oI s Led (P (i + 1)) ys ys s₂) (fun _ _ => False) s₁) (fun _ _ => False) { s with heap := h, toks := tk })
    (done : ∀ c ys D C h tk nD u, P n c ys → h.Ns C u → h₀.get? C = none → C ≠ L → (∀ h'', Heap.SameBut C h h'' → Fr h₀ L h'' m ∧ News h₀ L h'' ((D, listOf ys.toArray nD) :: Led c)) → D < C → (∀ p ∈ news, p.1 < D) → (∀ p ∈ Led c, p.1 ≠ D ∧ p.1 ≠ C) →
      RR (.ref D) C (.ok .next) { s with heap := h, toks := tk }) :
    wpAny (model prog w) A (pyIter (.ref r)) (fun it s₂ => wpAny (model prog w) A (newList []) (fun acc s₃ => wpAny (model prog w) A (newFunctionEnv scope env.globals cl [] env.qual none .none (some env)) (fun cenv s₄ =>
      codeAny (model prog w) A (.compStart (.ListComp elt [⟨target, iter, ifs, 0⟩] scope pos) 0 it acc { cenv with scope := relabel scope env }) (RR acc cenv.locals) s₄) E s₃) E s₂) E s := by
  refine wpAny_pyIter_range hr hsmall ?_
  have W := Walks.range (prog := prog) (w := w) hh s.heap.objs.size a c n
  have hI0 : h₀.get? s.heap.objs.size = none := by
    cases hq : h₀.get? s.heap.objs.size with
    | none => rfl
    | some o' => exact absurd (Heap.lt_size (F.keep _ _ hq)) (Nat.lt_irrefl _)
  have hIL : s.heap.objs.size ≠ L := Nat.ne_of_gt F.ns.lt
  have hsz1 : (s.heap.push { cls := .type "range_iterator", data := .fields #[rawInt a, rawInt (Builtin.Range.rangeSize a b c), rawInt c] }).objs.size = s.heap.objs.size + 1 := Heap.size_push ..
  have hN1 : News h₀ L (s.heap.push { cls := .type "range_iterator", data := .fields #[rawInt a, rawInt (Builtin.Range.rangeSize a b c), rawInt c] }) news := fun p hp => ⟨Heap.get?_push_of_some _ (N p hp).1, (N p hp).2⟩
  have hnI : ∀ p ∈ news, p.1 < s.heap.objs.size := fun p hp => Heap.lt_size (N p hp).1
  refine comp_walk (s := { s with heap := s.heap.push { cls := .type "range_iterator", data := .fields #[rawInt a, rawInt (Builtin.Range.rangeSize a b c), rawInt c] } }) W hkz hcell hkind Led P c₀ (F.push _) hN1 hs hp (by rw [hn]; simpa using Heap.get?_push_size _ rfl)
    (fun b hb => by rw [List.mem_singleton.mp hb]; exact ⟨hI0, hIL, by show s.heap.objs.size < _; rw [hsz1]; exact Nat.lt_succ_self _⟩)
    (fun b hb => by
      show b < (s.heap.push _).objs.size
      rw [hsz1, List.mem_singleton.mp hb]
      exact Nat.lt_succ_self _)
    (fun p hp hb => Nat.lt_irrefl _ ((List.mem_singleton.mp hb) ▸ hnI p hp))
    (fun i v s' Q' hSt hQ => wpAny_of_eq (hgo _ _) hQ) ?_ ?_
  · intro g C D hg hDC hnD hwD i v cc ys u h tk nD hik hv hP ho hSt F1 N1 hgwr
    obtain ⟨tv, rfl⟩ := hv
    have hIC : s.heap.objs.size ≠ C := Nat.ne_of_lt (Nat.lt_trans (hwD _ (List.mem_singleton.mpr rfl)) hDC)
    have hgI : g.get? s.heap.objs.size = none := hgwr _ (List.mem_singleton.mpr rfl)
    have N2 : News g C h ((D, listOf ys.toArray nD) :: (s.heap.objs.size, { cls := .type "range_iterator", dict := none, data := .fields #[rawInt (a + ((i + 1 : Nat) : Int) * c), rawInt ((n : Int) - ((i + 1 : Nat) : Int)), rawInt c], slots := #[] }) :: Led cc) := fun p hp => by
      rcases List.mem_cons.mp hp with rfl | hp
      · exact N1 _ (.head _)
      · rcases List.mem_cons.mp hp with rfl | hp
        · exact ⟨hSt, hIC, hgI⟩
        · exact N1 p (.tail _ hp)
    have ht := turn g C D s.heap.objs.size _ hg (hwD _ (List.mem_singleton.mpr rfl)) hDC hnI i tv cc ys u h tk nD hik hP (fun p hp => ⟨(ho p hp).1, fun e => (ho p hp).2 (e ▸ List.mem_singleton.mpr rfl)⟩) F1 N2
    have fin : ∀ oI, (∀ h, h.get? s.heap.objs.size = some oI → IsRangeIter h s.heap.objs.size (a + ((i + 1 : Nat) : Int) * c) ((n : Int) - ((i + 1 : Nat) : Int)) c) → ∀ ys' s₃, CE g C D nD s.heap.objs.size oI s Led (P (i + 1)) ys ys' s₃ →
        CEnd g C D nD { s with heap := s.heap.push { cls := .type "range_iterator", data := .fields #[rawInt a, rawInt (Builtin.Range.rangeSize a b c), rawInt c] } } Led (P (i + 1)) [s.heap.objs.size] (fun h => IsRangeIter h s.heap.objs.size (a + ((i + 1 : Nat) : Int) * c) ((n : Int) - ((i + 1 : Nat) : Int)) c) ys ys' s₃ := by
      rintro oI hI ys' s₃ ⟨c', h', tk', m', rfl, F', N', hP', ho'⟩
      refine ⟨c', h', tk', m', rfl, F', fun p hp => ?_, hP', fun p hp => ⟨(ho' p hp).1, fun hb => (ho' p hp).2 (List.mem_singleton.mp hb)⟩, hI _ (N' _ (.tail _ (.head _))).1⟩
      rcases List.mem_cons.mp hp with rfl | hp
      · exact N' _ (.head _)
      · exact N' p (.tail _ (.tail _ hp))
    refine wpAny_mono ht (fun _ s₁ q1 => wpAny_mono q1 (fun ok s₂ q2 => ?_) fun _ _ x => x) fun _ _ x => x
    cases ok with
    | false => simp only [Bool.false_eq_true, if_false] at q2 ⊢; exact fin _ (fun _ e => e) _ _ q2
    | true => simp only [if_true] at q2 ⊢; exact wpAny_mono q2 (fun y s₃ q3 => fin _ (fun _ e => e) _ _ q3) fun _ _ x => x
  · intro c ys D C h tk nD u hP hNs hC0 hCL hb hDC hnD ho
    exact done c ys D C h tk nD u hP hNs hC0 hCL hb hDC hnD ho

theorem comp_range {σ : Type} {elt target iter : Expr} {ifs : List Expr} {scope : Scope} {pos : Pos} {cl : List (Str × Addr)} {r : Addr} {a b c : Int} {t u v : Tok} {n : Nat} {Q : Value → Shared → Prop} (hh : A.handled = none)
    (hr : IsRange s.heap r a b c t u v) (hsmall : Builtin.Range.small a b c = true) (hn : Builtin.Range.rangeSize a b c = n)
    (hkz : n ≤ sizeLine) (hcell : ∀ y ∈ scope.names, y.2 ≠ .cell) (hkind : scope.kind = .function) (hgo : ∀ it x, letOwnedTupleGo target it x = pure ())
    (Led : σ → List (Addr × Obj)) (P : Nat → σ → List Value → Prop) (c₀ : σ)
    (F : Fr h₀ L s.heap m) (N : News h₀ L s.heap news) (hs : ∀ p ∈ Led c₀, p ∈ news) (hp : P 0 c₀ [])
    (turn : ∀ g C D I oI, (∀ b o, h₀.get? b = some o → g.get? b = some o) → I < D → D < C → (∀ p ∈ news, p.1 < I) →
      ∀ i tv cc ys u h tk nD, i < n → P i cc ys → (∀ p ∈ Led cc, p.1 ≠ D ∧ p.1 ≠ I) → Fr g C h u → News g C h ((D, listOf ys.toArray nD) :: (I, oI) :: Led cc) →
        wpAny (model prog w) A (assign target (compEnvC scope cl C env) (.int (a + i * c) tv)) (fun _ s₁ => wpAny (model prog w) A (testsOf ifs (compEnvC scope cl C env)) (fun ok s₂ =>
          if ok = true then wpAny (model prog w) A (eval elt (compEnvC scope cl C env)) (fun y s₃ => CE g C D nD I oI s Led (P (i + 1)) ys (ys ++ [y]) s₃) (fun _ _ => False) s₂
          else CE g C D nD I oI s Led (P (i + 1)) ys ys s₂) (fun _ _ => False) s₁) (fun _ _ => False) { s with heap := h, toks := tk })
    (done : ∀ c ys D h tk nD, P n c ys → Fr h₀ L h m → News h₀ L h ((D, listOf ys.toArray nD) :: Led c) → (∀ p ∈ news, p.1 < D) → (∀ p ∈ Led c, p.1 ≠ D) → Q (.ref D) { s with heap := h, toks := tk }) :
    CompAt prog w A E none Q elt target iter ifs scope pos env cl (.ref r) s := by
  unfold CompAt
  refine comp_range0 hh hr hsmall hn hkz hcell hkind hgo Led P c₀ F N hs hp turn fun c ys D C h tk nD u hP hNs hC0 hCL hb hDC hnD ho => ?_
  exact ⟨u, hNs, fun h' hs' => done c ys D h' tk nD hP (hb h' hs').1 (hb h' hs').2 hnD (fun p hp => (ho p hp).1)⟩

theorem comp_range_used {σ : Type} {elt target iter : Expr} {ifs : List Expr} {scope : Scope} {pos : Pos} {cl : List (Str × Addr)} {r : Addr} {a b c : Int} {t u v : Tok} {n : Nat} {use : Value → Sem Unit} {Q : Shared → Prop} (hh : A.handled = none)
    (hr : IsRange s.heap r a b c t u v) (hsmall : Builtin.Range.small a b c = true) (hn : Builtin.Range.rangeSize a b c = n)
    (hkz : n ≤ sizeLine) (hcell : ∀ y ∈ scope.names, y.2 ≠ .cell) (hkind : scope.kind = .function) (hgo : ∀ it x, letOwnedTupleGo target it x = pure ())
    (Led : σ → List (Addr × Obj)) (P : Nat → σ → List Value → Prop) (c₀ : σ)
    (F : Fr h₀ L s.heap m) (N : News h₀ L s.heap news) (hs : ∀ p ∈ Led c₀, p ∈ news) (hp : P 0 c₀ [])
    (turn : ∀ g C D I oI, (∀ b o, h₀.get? b = some o → g.get? b = some o) → I < D → D < C → (∀ p ∈ news, p.1 < I) →
      ∀ i tv cc ys u h tk nD, i < n → P i cc ys → (∀ p ∈ Led cc, p.1 ≠ D ∧ p.1 ≠ I) → Fr g C h u → News g C h ((D, listOf ys.toArray nD) :: (I, oI) :: Led cc) →
        wpAny (model prog w) A (assign target (compEnvC scope cl C env) (.int (a + i * c) tv)) (fun _ s₁ => wpAny (model prog w) A (testsOf ifs (compEnvC scope cl C env)) (fun ok s₂ =>
          if ok = true then wpAny (model prog w) A (eval elt (compEnvC scope cl C env)) (fun y s₃ => CE g C D nD I oI s Led (P (i + 1)) ys (ys ++ [y]) s₃) (fun _ _ => False) s₂
          else CE g C D nD I oI s Led (P (i + 1)) ys ys s₂) (fun _ _ => False) s₁) (fun _ _ => False) { s with heap := h, toks := tk })
    (done : ∀ c ys D C oC h tk nD, P n c ys → Fr h₀ L h m → News h₀ L h ((C, oC) :: (D, listOf ys.toArray nD) :: Led c) → D < C → (∀ p ∈ news, p.1 < D) → (∀ p ∈ Led c, p.1 ≠ D ∧ p.1 ≠ C) →
      wpAny (model prog w) A (use (.ref D)) (fun _ s₂ => UEnd h₀ L C oC Q s₂) E { s with heap := h, toks := tk }) :
    CompAt prog w A E (some use) (fun _ s' => Q s') elt target iter ifs scope pos env cl (.ref r) s := by
  unfold CompAt
  refine comp_range0 hh hr hsmall hn hkz hcell hkind hgo Led P c₀ F N hs hp turn fun c ys D C h tk nD u hP hNs hC0 hCL hb hDC hnD ho => ?_
  obtain ⟨oC, es, ep, hoC, hrC⟩ := hNs
  obtain ⟨F1, N1⟩ := hb h (.refl ..)
  refine wpAny_mono (done c ys D C oC h tk nD hP F1 (fun p hp => ?_) hDC hnD ho) (fun _ s₂ q => ?_) fun _ _ x => x
  · rcases List.mem_cons.mp hp with rfl | hp
    · exact ⟨hoC, hCL, hC0⟩
    · exact N1 p hp
  · obtain ⟨m', news', F2, N2, ho2, hQ⟩ := q
    refine ⟨u, ⟨oC, es, ep, (N2 _ (.head _)).1, hrC⟩, fun h' hs' => hQ h' (F2.change hs' hCL hC0) fun p hp => ?_⟩
    exact ⟨(hs'.2 p.1 (ho2 p hp)).trans (N2 p (.tail _ hp)).1, (N2 p (.tail _ hp)).2⟩
end
end
section
/-- the law's own def, dug out of the row's program -/
def lawParts : List Stmt × Scope := match PySem.Challenge.pw_pm0069_01.main.body.getLast? with
  | some (.FunctionDef _ _ body _ _ _ scope _ _ _) => (body, scope)
  | _ => ([], { kind := .function, names := [], isGenerator := false, isCoroutine := false, more := [] })
def lawB (k : Nat) : Option Stmt := lawParts.1[k]?
def lawS : Scope := lawParts.2
theorem lawB_length : lawParts.1.length = 16 := by decide +kernel
section
variable {prog : Program} {w : World} {A : Around} {E : Value → Shared → Prop} {s : Shared} {h₀ : Heap} {L : Addr} {m : Str → Option Value} {news : List (Addr × Obj)}
/-- a slice of a list, whatever its base: the new list lies next to the slice -/
theorem slice_tmp {value slice : Expr} {l : Addr} {items : Array Value} {vl vu : Value} {lo hi : Option Int} {Q : Value → Shared → Prop}
    (F : Fr h₀ L s.heap m) (N : News h₀ L s.heap news) (hl : s.heap.IsList l items) (pl : IsPart vl lo) (pu : IsPart vu hi)
    (h : ∀ h', Fr h₀ L h' m → News h₀ L h' ((s.heap.objs.size + 1, listOf (slicePick items lo hi none) 0) :: news) → Q (.ref (s.heap.objs.size + 1)) { s with heap := h' })
    (hs : subscripted slice false (.ref l) (.ref s.heap.objs.size) = operate [.ref s.heap.objs.size, .ref l] (getItem (.ref l) (.ref s.heap.objs.size)))
    (hsz : items.size ≤ sizeLine) :
    wpAny (model prog w) A (subscriptTail value slice (.ref l) (.ref s.heap.objs.size)) Q E { s with heap := s.heap.push { cls := .type "slice", data := .fields #[vl, vu, .none] } } := by
  generalize ho : ({ cls := .type "slice", data := .fields #[vl, vu, .none] } : Obj) = o
  have L1 := hl.push o
  have S1 : (s.heap.push o).IsSliceOf s.heap.objs.size vl vu .none := ho ▸ Heap.IsSliceOf.new ..
  have F1 := F.push o
  have N1 : News h₀ L (s.heap.push o) news := N.grown fun _ _ e => Heap.get?_push_of_some _ e
  have sz : (s.heap.push o).objs.size = s.heap.objs.size + 1 := Heap.size_push ..
  have N2 := sz ▸ News.push F1 N1 (listOf (slicePick items lo hi none) 0)
  refine tail_any (Heap.IsList.typeIs L1) list_getitem_lookup (wpAny_getItem_list_slice L1 S1 pl pu .none (by simp) ?_ hsz) hs
  have done := h _ (F1.push _) N2
  rw [← sz] at done
  exact done
/-- a slice of ints, whatever its base -/
theorem slice_ints_tmp {value slice : Expr} {l : Addr} {vs : List Value} {ms : List Int} {vl vu : Value} {lo hi : Option Int} {Q : Value → Shared → Prop}
    (F : Fr h₀ L s.heap m) (N : News h₀ L s.heap news) (hl : s.heap.IsList l vs.toArray) (pl : IsPart vl lo) (pu : IsPart vu hi) (hm : IntsAre (slicePick vs.toArray lo hi none).toList ms)
    (h : ∀ D ws h', Fr h₀ L h' m → News h₀ L h' ((D, listOf (List.toArray ws) 0) :: news) → (∀ p ∈ news, p.1 < D) → IntsAre ws ms → Q (.ref D) { s with heap := h' })
    (hs : subscripted slice false (.ref l) (.ref s.heap.objs.size) = operate [.ref s.heap.objs.size, .ref l] (getItem (.ref l) (.ref s.heap.objs.size)))
    (hz : vs.toArray.size ≤ sizeLine) :
    wpAny (model prog w) A (subscriptTail value slice (.ref l) (.ref s.heap.objs.size)) Q E { s with heap := s.heap.push { cls := .type "slice", data := .fields #[vl, vu, .none] } } := by
  refine slice_tmp F N hl pl pu (fun h' F' N' => h _ (slicePick vs.toArray lo hi none).toList h' F' ?_ (fun p hp => Nat.lt_succ_of_lt (Heap.lt_size (N p hp).1)) hm) hs hz
  rw [Array.toArray_toList]
  exact N'
/-- the same of values -/
theorem slice_vals_tmp {value slice : Expr} {l : Addr} {vs zs : List Value} {vl vu : Value} {lo hi : Option Int} {Q : Value → Shared → Prop}
    (F : Fr h₀ L s.heap m) (N : News h₀ L s.heap news) (hl : s.heap.IsList l vs.toArray) (pl : IsPart vl lo) (pu : IsPart vu hi) (e : (slicePick vs.toArray lo hi none).toList = zs)
    (h : ∀ D h', Fr h₀ L h' m → News h₀ L h' ((D, listOf (List.toArray zs) 0) :: news) → (∀ p ∈ news, p.1 < D) → Q (.ref D) { s with heap := h' })
    (hs : subscripted slice false (.ref l) (.ref s.heap.objs.size) = operate [.ref s.heap.objs.size, .ref l] (getItem (.ref l) (.ref s.heap.objs.size)))
    (hz : vs.toArray.size ≤ sizeLine) :
    wpAny (model prog w) A (subscriptTail value slice (.ref l) (.ref s.heap.objs.size)) Q E { s with heap := s.heap.push { cls := .type "slice", data := .fields #[vl, vu, .none] } } := by
  refine slice_tmp F N hl pl pu (fun h' F' N' => h _ h' F' ?_ (fun p hp => Nat.lt_succ_of_lt (Heap.lt_size (N p hp).1))) hs hz
  rw [← e, Array.toArray_toList]
  exact N'
end
/-- the written numbers that fill the script up -/
def lits : List Int := [7, 2, 12, 5, 9, 12, 1, 2, 5, 4, 2, 7, 5, 5, 5, 3, 4]
def drawnOf (ns : List Int) : List Int := ns.take 17 ++ lits.drop (ns.take 17).length
theorem drawnOf_length (ns : List Int) : (drawnOf ns).length = 17 := by
  unfold drawnOf
  have h : lits.length = 17 := rfl
  rw [List.length_append, List.length_drop, h, List.length_take]
  omega
/-- none of these is a cell of the law's own -/
def Off (L : Addr) (rest : List (Addr × Obj)) : Prop := ∀ p ∈ rest, p.1 < L ∨ L + 9 < p.1
theorem off_ne {L : Addr} {rest : List (Addr × Obj)} (h : Off L rest) {c : Nat} (h1 : @LT.lt Nat _ L c) (h9 : @LE.le Nat _ c (L + 9)) : ∀ p ∈ rest, p.1 ≠ c := fun p hp => neN (by
  rcases h p hp with q | q
  · have := ltN q; omega
  · have := ltN q; omega)
theorem Off.cons {L x : Addr} {o : Obj} {rest : List (Addr × Obj)} (h : Off L rest) (hx : L + 9 < x) : Off L ((x, o) :: rest) := List.forall_mem_cons.mpr ⟨.inr hx, h⟩
end
section
section
variable {prog : Program} {w : World} {A : Around} {E : Value → Shared → Prop} {Q : Flow → Shared → Prop} {s : Shared} {env : Env} {h₀ : Heap} {L : Addr}
theorem kw_listI {σ : Type} {target : Expr} {body : List Stmt} {items : List Value} {l : Addr} {nl : Nat} (hh : A.handled = none)
    (Led : σ → List (Addr × Obj)) (ps : σ → List (Str × Value)) (P : Nat → σ → Prop) (c₀ : σ) {m₀ : Str → Option Value} {news : List (Addr × Obj)}
    (F : Fr h₀ L s.heap m₀) (N : News h₀ L s.heap news) (hs : ∀ p ∈ Led c₀, p ∈ news) (hk : ∀ p ∈ ps c₀, m₀ p.1 = some p.2) (hp : P 0 c₀)
    (hl : ∀ c, (l, listOf items.toArray nl) ∈ Led c)
    (turn : ∀ i v (c : σ) (u : Str → Option Value) I oI h tk, items[i]? = some v → P i c → (∀ p ∈ Led c, p.1 ≠ I) → oI.cls = .type "list_iterator" → Fr h₀ L h (kstB u (ps c)) → News h₀ L h ((I, oI) :: Led c) →
      wpAny (model prog w) A (assign target env v) (fun _ s₂ => wpAny (model prog w) A (execs body env)
        (LPost h₀ L s (fun c => (I, oI) :: Led c) ps (fun c' => P (i + 1) c' ∧ ∀ p ∈ Led c', p.1 ≠ I) Q) E s₂) E { s with heap := h, toks := tk })
    (done : ∀ (c : σ) (u : Str → Option Value) h tk, P items.length c → Fr h₀ L h (kstB u (ps c)) → News h₀ L h (Led c) → Q .next { s with heap := h, toks := tk })
    (hE : PassesOwn (model prog w) A env E) :
    wpAny (model prog w) A (pyIter (.ref l)) (fun it s₂ => codeAny (model prog w) A (.forLoop target it body [] env) (fun r s' => match r with | .ok f => Q f s' | .error e => cameBackBy (model prog w) A env E e s') s₂) E s := by
  have hl0 : s.heap.get? l = some (listOf items.toArray nl) := (N _ (hs _ (hl c₀))).1
  refine wpAny_pyIter_list ⟨_, hl0, rfl, nl, rfl⟩ ?_
  have hlt : l < s.heap.objs.size := Heap.lt_size hl0
  have hne : l ≠ s.heap.objs.size := Nat.ne_of_lt hlt
  have W := Walks.list (prog := prog) (w := w) hh s.heap.objs.size l hne items.toArray
  have hI0 : h₀.get? s.heap.objs.size = none := by
    cases hq : h₀.get? s.heap.objs.size with
    | none => rfl
    | some o' => exact absurd (Heap.lt_size (F.keep _ _ hq)) (Nat.lt_irrefl _)
  have hIL : s.heap.objs.size ≠ L := Nat.ne_of_gt F.ns.lt
  refine kw_for W Led ps (fun i c => P i c ∧ ∀ p ∈ Led c, p.1 ≠ s.heap.objs.size) c₀ (F.push _) (News.push F N _) (fun p hp => .tail _ (hs p hp)) hk
    ⟨hp, fun p hp => Nat.ne_of_lt (Heap.lt_size (N p (hs p hp)).1)⟩ ⟨⟨_, Heap.get?_push_size _ rfl, rfl, rfl⟩, ⟨_, Heap.get?_push_of_some _ hl0, rfl, nl, rfl⟩⟩
    (fun b hb => by rw [List.mem_singleton.mp hb]; exact ⟨hI0, hIL⟩) (fun i c hc p hp hb => hc.2 p hp (List.mem_singleton.mp hb)) ?_ ?_ hE
  · rintro i v c u h tk hik hv ⟨hPi, hoff⟩ hSt F1 N1
    refine owned_list hSt.1 ?_
    obtain ⟨oI, hoI, hcI, hdI⟩ := hSt.1
    have N2 : News h₀ L h ((s.heap.objs.size, oI) :: Led c) := fun p hp => by
      rcases List.mem_cons.mp hp with rfl | hp
      · exact ⟨hoI, hIL, hI0⟩
      · exact N1 p hp
    have ht := turn i v c u s.heap.objs.size oI h tk (by simpa using hv) hPi hoff hcI F1 N2
    refine wpAny_mono ht (fun _ s₂ q2 => ?_) fun _ _ x => x
    refine wpAny_mono q2 (fun f s₃ q3 => ?_) fun _ _ x => x
    have fin : ∀ s₃, LEnd h₀ L s (fun c => (s.heap.objs.size, oI) :: Led c) ps (fun c' => P (i + 1) c' ∧ ∀ p ∈ Led c', p.1 ≠ s.heap.objs.size) s₃ →
        LEnd h₀ L { s with heap := s.heap.push { cls := .type "list_iterator", data := .fields #[.ref l, .int 0 0] } } Led ps (fun c => P (i + 1) c ∧ ∀ p ∈ Led c, p.1 ≠ s.heap.objs.size) s₃ ∧ (s₃.heap.IsListIter s.heap.objs.size l (i + 1) ∧ s₃.heap.IsList l items.toArray) := by
      rintro s₃ ⟨c', h', tk', m', rfl, F', N', hk', hP'⟩
      refine ⟨⟨c', h', tk', m', rfl, F', fun p hp => N' p (.tail _ hp), hk', hP'⟩, ⟨oI, (N' _ (.head _)).1, hcI, hdI⟩, ⟨_, (N' _ (.tail _ (hl c'))).1, rfl, nl, rfl⟩⟩
    cases f with
    | ret v => exact ⟨q3, fun h => by rcases h with h | h <;> cases h⟩
    | brk => exact ⟨q3, fun h => by rcases h with h | h <;> cases h⟩
    | next => exact ⟨(fin _ q3).1, fun _ => (fin _ q3).2⟩
    | cont => exact ⟨(fin _ q3).1, fun _ => (fin _ q3).2⟩
  · rintro c u h tk ⟨hPk, hoff⟩ F1 N1
    exact done c u h tk (by simpa using hPk) F1 N1
end
theorem comeLoop_bounds {H : List Int} {J : Jobs} (hH : H.length = 5) : ∀ (f p k : Nat) (D : List (Nat × Nat)) (A : List (Str × Int)), k < 6 → (∀ x ∈ D, x.1 < 5 ∧ x.2 < 6) →
    (comeLoop H J f p k D A).1.length ≤ D.length + f ∧ (comeLoop H J f p k D A).2.length ≤ A.length + 2 * f ∧ ∀ x ∈ (comeLoop H J f p k D A).1, x.1 < 5 ∧ x.2 < 6
  | 0, p, k, D, A, hk, hB => ⟨Nat.le_refl _, Nat.le_refl _, hB⟩
  | f + 1, p, k, D, A, hk, hB => by
    by_cases h : p < nle H (J k).2
    · have hp : p < 5 := by have := nle_le H (J k).2; omega
      have hA := addC_length [(lc p, 1), (fg k, 1)] A
      simp only [List.length_cons, List.length_nil] at hA
      have hD := hset_length D p k
      have hB2 : ∀ x ∈ hset D p k, x.1 < 5 ∧ x.2 < 6 := fun x hx => by
        rcases hset_mem hx with hx | hx
        · exact hB x hx
        · subst hx; exact ⟨hp, hk⟩
      cases hg : hget D p with
      | none =>
        rw [comeLoop_none h hg]
        exact ⟨by dsimp only; omega, by dsimp only; omega, hB2⟩
      | some k' =>
        have hk' := (hB _ (hget_mem hg)).2
        cases hb : before J k k' with
        | true =>
          rw [comeLoop_yes h hg hb]
          obtain ⟨a, b, c⟩ := comeLoop_bounds hH f (p + 1) k' _ (addC A [(lc p, 1), (fg k, 1)]) hk' hB2
          exact ⟨by omega, by omega, c⟩
        | false =>
          rw [comeLoop_no h hg hb]
          obtain ⟨a, b, c⟩ := comeLoop_bounds hH f (p + 1) k D (addC A [(lc p, 1), (fg k, 1)]) hk hB
          exact ⟨by omega, by omega, c⟩
    · rw [comeLoop_end h]
      exact ⟨by dsimp only; omega, by dsimp only; omega, hB⟩
/-- the first jobs' coming, one by one -/
def comes (H : List Int) (J : Jobs) : Nat → List (Nat × Nat) × List (Str × Int)
  | 0 => ([], [])
  | i + 1 => come H J i (comes H J i).1 (comes H J i).2
theorem comes_bounds {H : List Int} {J : Jobs} (hH : H.length = 5) : ∀ i, i ≤ 6 → (comes H J i).1.length ≤ 6 * i ∧ (comes H J i).2.length ≤ 12 * i ∧ ∀ x ∈ (comes H J i).1, x.1 < 5 ∧ x.2 < 6
  | 0, _ => ⟨Nat.le_refl _, Nat.le_refl _, fun x hx => by cases hx⟩
  | i + 1, hi => by
    obtain ⟨a, b, c⟩ := comes_bounds (J := J) hH i (by omega)
    obtain ⟨a', b', c'⟩ := comeLoop_bounds (J := J) hH 6 (nlt H (J i).1) i (comes H J i).1 (comes H J i).2 (by omega) c
    exact ⟨by show (comeLoop _ _ _ _ _ _ _).1.length ≤ _; omega, by show (comeLoop _ _ _ _ _ _ _).2.length ≤ _; omega, c'⟩
theorem news_one {h₀ h : Heap} {L : Addr} {news : List (Addr × Obj)} (N : News h₀ L h news) {x : Addr} {a b : Obj} (ha : (x, a) ∈ news) (hb : (x, b) ∈ news) : a = b := by
  have h1 := (N _ ha).1
  have h2 := (N _ hb).1
  dsimp only at h1 h2
  rw [h1] at h2
  exact Option.some.inj h2
theorem HdrAre.mono_of {news news' : List (Addr × Obj)} {rs D} (h : HdrAre news rs D) (hs : ∀ r o, o.cls = .type "tuple" → (∃ vs n, o.data = .seq vs n) → (r, o) ∈ news → (r, o) ∈ news') : HdrAre news' rs D := by
  induction h with
  | nil => exact .nil
  | cons hm _ ih => exact .cons (hs _ _ rfl ⟨_, _, rfl⟩ hm) ih
end
section
section
variable {prog : Program} {w : World} {A : Around} {E : Value → Shared → Prop} {s : Shared} {env : Env} {h₀ : Heap} {L : Addr} {m : Str → Option Value} {news : List (Addr × Obj)}
theorem nfe_some {M : Model} {scope : Scope} {globals : Addr} {cl : List (Str × Addr)} {qual : Str} {Q : Env → Shared → Prop} (h : Q { scope, locals := s.heap.objs.size, globals, cells := cellsFrom (s.heap.objs.size + 1) scope.names cl, qual, func := none, code := env.code, frame := env.frame, builtins := env.builtins }
      { s with heap := pushCells (s.heap.push { cls := .type "dict", data := .dict #[] }) scope.names }) :
    wpAny M A (newFunctionEnv scope globals cl [] qual none .none (some env)) Q E s := by
  simp only [newFunctionEnv, Option.isSome_some, if_true]
  refine wpAny_bind (wpAny_alloc ?_)
  refine wpAny_bind (wpAny_layCells _ (fun name kind cells => by cases hkc : kind == NameKind.cell <;> simp [hkc]) _ _ _ _ ?_)
  rw [show ({ s with heap := s.heap.push { cls := .type "dict", data := .dict #[] } } : Shared).heap.objs.size = s.heap.objs.size + 1 from Heap.size_push ..]
  rw [List.forIn_nil]
  exact wpAny_bind (wpAny_pure (wpAny_pure h))
theorem ground1 {h : Heap} (hid : List Addr) (F : Fr h₀ L h m) (hh : ∀ b ∈ hid, h₀.get? b = none ∧ b ≠ L) :
    ∃ g, Fr h₀ L g m ∧ (∀ b o, h₀.get? b = some o → g.get? b = some o) ∧ g.objs.size = h.objs.size ∧ (∀ b o, g.get? b = some o → h.get? b = some o) ∧ (∀ b ∈ hid, g.get? b = none) ∧
      ∀ h' C m' h'' news', Fr g C h' m' → News g C h' news' → Heap.SameBut C h' h'' → Fr h₀ L h'' m ∧ News h₀ L h'' news' := by
  have st : ∀ b o, h₀.get? b = some o → (hideAll h hid).get? b = some o := fun b o e =>
    hideAll_get _ (F.keep b o e) fun hb => by rw [(hh b hb).1] at e; cases e
  obtain ⟨oL, es, ep, hL, hLr⟩ := id F.ns
  have hLg : (hideAll h hid).get? L = some oL := hideAll_get _ hL fun hb => (hh L hb).2 rfl
  refine ⟨hideAll h hid, ⟨⟨oL, es, ep, hLg, hLr⟩, st, F.above⟩, st, hideAll_size _ _, fun b o e => of_hideAll _ e, fun b hb => hideAll_none _ hb, fun h' C m' h'' news' F' N' hs => ?_⟩
  have hLC : L ≠ C := by
    intro e
    have h1 := Heap.lt_size hLg
    have h2 := F'.above
    rw [e] at h1
    exact absurd h1 (Nat.not_lt.mpr h2)
  refine ⟨⟨⟨oL, es, ep, (hs.2 L hLC).trans (F'.keep L oL hLg), hLr⟩, fun b o e => ?_, F.above⟩, fun p hp => ⟨(hs.2 p.1 (N' p hp).2.1).trans (N' p hp).1, fun q => ?_, ?_⟩⟩
  · have h1 := st b o e
    have hbC : b ≠ C := by
      intro e'
      have h3 := Heap.lt_size h1
      rw [e'] at h3
      exact absurd h3 (Nat.not_lt.mpr F'.above)
    exact (hs.2 b hbC).trans (F'.keep b o h1)
  · have := (N' p hp).2.2; rw [q, hLg] at this; cases this
  · cases q : h₀.get? p.1 with
    | none => rfl
    | some o => have := (N' p hp).2.2; rw [st _ _ q] at this; cases this

/-- a comprehension's turn ends: with a cell of the block's own -/
inductive CEnd1 {σ : Type} (g : Heap) (C D : Addr) (nD : Nat) (s : Shared) (Led : σ → List (Addr × Obj)) (P : σ → List Value → Prop) (wr : List Addr) (St : Heap → Prop) (ys ys' : List Value) (s₂ : Shared) : Prop
  | mk (c : σ) (oK : Obj) (h' : Heap) (tk : Nat) (m' : Str → Option Value) : (s₂ = { s with heap := h', toks := tk }) → (Fr g C h' m') → (News g C h' ((D, listOf ys.toArray nD) :: (C + 1, oK) :: Led c)) → (P c ys') → ((∀ p ∈ Led c, p.1 ≠ D ∧ p.1 ∉ wr ∧ p.1 ≠ C + 1)) → (St h') → (∃ v0, oK.data = .cell v0) → CEnd1 g C D nD s Led P wr St ys ys' s₂

inductive WalkAt1 {σ : Type} (s : Shared) (g : Heap) (C D : Addr) (k : Nat) (St : Nat → Heap → Prop) (wr : List Addr) (Led : σ → List (Addr × Obj)) (P : Nat → σ → List Value → Prop) (n : Nat) (s' : Shared) : Prop
  | mk (i : Nat) (c : σ) (oK : Obj) (ys : List Value) (h' : Heap) (tk : Nat) (m' : Str → Option Value) (nD : Nat) : (n = k - i) → (i ≤ k) → (s' = { s with heap := h', toks := tk }) → (St i h') → (Fr g C h' m') → (News g C h' ((D, listOf ys.toArray nD) :: (C + 1, oK) :: Led c)) → (P i c ys) → ((∀ p ∈ Led c, p.1 ≠ D ∧ p.1 ∉ wr ∧ p.1 ≠ C + 1)) → (ys.length ≤ i) → (∃ v0, oK.data = .cell v0) → WalkAt1 s g C D k St wr Led P n s'
theorem comp_walk1 {σ : Type} {elt target iter : Expr} {ifs : List Expr} {scope : Scope} {pos : Pos} {cl : List (Str × Addr)} {I : Addr} {fp wr : List Addr} {k : Nat} {Pv : Nat → Value → Prop} {St : Nat → Heap → Prop} {RR : Value → Addr → Result → Shared → Prop}
    (W : Walks prog w A I fp wr k Pv St) (hkz : k ≤ sizeLine) {x : Str} (hcells : ∀ n, cellsFrom n scope.names cl = (x, n) :: cl) (hpush : ∀ h, pushCells h scope.names = h.push { cls := .type "cell", data := .cell none }) (hkind : scope.kind = .function)
    (Led : σ → List (Addr × Obj)) (P : Nat → σ → List Value → Prop) (c₀ : σ)
    (F : Fr h₀ L s.heap m) (N : News h₀ L s.heap news) (hs : ∀ p ∈ Led c₀, p ∈ news) (hp : P 0 c₀ []) (h0 : St 0 s.heap)
    (hwr : ∀ b ∈ wr, h₀.get? b = none ∧ b ≠ L ∧ b < s.heap.objs.size) (hfp : ∀ b ∈ fp, b < s.heap.objs.size) (hoff : ∀ p ∈ news, p.1 ∉ wr)
    (hgo : ∀ i v s Q, St i s.heap → Q () s → wpAny (model prog w) A (letOwnedTupleGo target (.ref I) v) Q (fun _ _ => False) s)
    (turn : ∀ g C D, Fr h₀ L g m → (∀ b o, h₀.get? b = some o → g.get? b = some o) → D < C → (∀ p ∈ news, p.1 < D) → (∀ b ∈ wr, b < D) →
      ∀ i v c oK ys u h tk nD, i < k → Pv i v → P i c ys → (∀ p ∈ Led c, p.1 ≠ D ∧ p.1 ∉ wr ∧ p.1 ≠ C + 1) → (∃ v0, oK.data = .cell v0) → St (i + 1) h → Fr g C h u → News g C h ((D, listOf ys.toArray nD) :: (C + 1, oK) :: Led c) → (∀ b ∈ wr, g.get? b = none) →
        wpAny (model prog w) A (assign target (compEnvC scope ((x, C + 1) :: cl) C env) v) (fun _ s₁ => wpAny (model prog w) A (testsOf ifs (compEnvC scope ((x, C + 1) :: cl) C env)) (fun ok s₂ =>
          if ok = true then wpAny (model prog w) A (eval elt (compEnvC scope ((x, C + 1) :: cl) C env)) (fun y s₃ => CEnd1 g C D nD s Led (P (i + 1)) wr (St (i + 1)) ys (ys ++ [y]) s₃) (fun _ _ => False) s₂
          else CEnd1 g C D nD s Led (P (i + 1)) wr (St (i + 1)) ys ys s₂) (fun _ _ => False) s₁) (fun _ _ => False) { s with heap := h, toks := tk })
    (done : ∀ c ys D C h tk nD u, P k c ys → h.Ns C u → h₀.get? C = none → C ≠ L → (∀ h'', Heap.SameBut C h h'' → Fr h₀ L h'' m ∧ News h₀ L h'' ((D, listOf ys.toArray nD) :: Led c)) → D < C → (∀ p ∈ news, p.1 < D) → (∀ p ∈ Led c, p.1 ≠ D ∧ p.1 ≠ C) →
      RR (.ref D) C (.ok .next) { s with heap := h, toks := tk }) :
    wpAny (model prog w) A (newList []) (fun acc s₃ => wpAny (model prog w) A (newFunctionEnv scope env.globals cl [] env.qual none .none (some env)) (fun cenv s₄ =>
      codeAny (model prog w) A (.compStart (.ListComp elt [⟨target, iter, ifs, 0⟩] scope pos) 0 (.ref I) acc { cenv with scope := relabel scope env }) (RR acc cenv.locals) s₄) E s₃) E s := by
  have hhid : ∀ b ∈ wr ++ news.map (·.1), h₀.get? b = none ∧ b ≠ L := by
    intro b hb
    rcases List.mem_append.mp hb with hb | hb
    · exact ⟨(hwr b hb).1, (hwr b hb).2.1⟩
    · obtain ⟨p, hp, rfl⟩ := List.mem_map.mp hb
      exact ⟨(N p hp).2.2, (N p hp).2.1⟩
  obtain ⟨g, g0, g1, g2, g3, g4, g5⟩ := ground1 (wr ++ news.map (·.1)) F hhid
  refine wpAny_newObj_type (nfe_some ?_)
  dsimp only
  rw [hcells, hpush]
  generalize hH2 : s.heap.push { cls := .type "list", dict := none, data := .seq ([] : List Value).toArray } = H2 at *
  generalize hh₁ : (H2.push { cls := .type "dict", data := .dict #[] }).push { cls := .type "cell", data := .cell none } = h₁
  have hC : H2.objs.size = s.heap.objs.size + 1 := by rw [← hH2, Heap.size_push]
  have hDC : s.heap.objs.size < H2.objs.size := by omega
  have old2 : ∀ b o, H2.get? b = some o → h₁.get? b = some o := fun b o e => hh₁ ▸ Heap.get?_push_of_some _ (Heap.get?_push_of_some _ e)
  have old : ∀ b o, s.heap.get? b = some o → h₁.get? b = some o := fun b o e => old2 b o (hH2 ▸ Heap.get?_push_of_some _ e)
  have hsz3 : (H2.push { cls := .type "dict", data := .dict #[] }).objs.size = H2.objs.size + 1 := Heap.size_push ..
  have hns₁ : h₁.Ns H2.objs.size (fun _ => none) := hh₁ ▸ (Heap.Ns.new H2 (.type "dict")).keeps (fun b o e => Heap.get?_push_of_some _ e)
  have hK1 : h₁.get? (H2.objs.size + 1) = some { cls := .type "cell", data := .cell none } := by rw [← hh₁, ← hsz3]; exact Heap.get?_push_size _ rfl
  have hF1 : Fr g H2.objs.size h₁ (fun _ => none) := ⟨hns₁, fun b o e => old b o (g3 b o e), by rw [g2]; omega⟩
  have gnone : ∀ a, s.heap.objs.size ≤ a → g.get? a = none := fun a ha => by
    cases e : g.get? a with
    | none => rfl
    | some o' => exact absurd (Heap.lt_size e) (by rw [g2]; exact Nat.not_lt.mpr ha)
  have hD1 : h₁.get? s.heap.objs.size = some (listOf ([] : List Value).toArray 0) :=
    old2 _ _ (hH2 ▸ Heap.get?_push_size _ rfl)
  have hN1 : News g H2.objs.size h₁ ((s.heap.objs.size, listOf ([] : List Value).toArray 0) :: (H2.objs.size + 1, { cls := .type "cell", data := .cell none }) :: Led c₀) := fun p hp => by
    rcases List.mem_cons.mp hp with rfl | hp
    · exact ⟨hD1, by show s.heap.objs.size ≠ H2.objs.size; omega, gnone _ (Nat.le_refl _)⟩
    rcases List.mem_cons.mp hp with rfl | hp
    · exact ⟨hK1, neN (by dsimp only; omega), gnone _ (by show s.heap.objs.size ≤ H2.objs.size + 1; omega)⟩
    · have hn := N p (hs p hp)
      have hlt := ltN (Heap.lt_size hn.1)
      exact ⟨old _ _ hn.1, neN (by omega), g4 _ (List.mem_append_right _ (List.mem_map_of_mem (hs p hp)))⟩
  have hSt1 : St 0 h₁ := W.frame _ _ _ h0 fun b _ o e => old b o e
  have hnewsD : ∀ p ∈ news, p.1 < s.heap.objs.size := fun p hp => Heap.lt_size (N p hp).1
  have hwrD : ∀ b ∈ wr, b < s.heap.objs.size := fun b hb => (hwr b hb).2.2
  have keepF : ∀ {h h' : Heap} {m}, Fr g H2.objs.size h m → (∀ b o, b ∉ wr → h.get? b = some o → h'.get? b = some o) → Fr g H2.objs.size h' m := fun {h h' m} F kp =>
    ⟨F.ns.at' fun o e => kp _ o (fun hb => by have h9 := ltN (hwrD _ hb); omega) e, fun b o e => kp b o (fun hb => by rw [g4 b (List.mem_append_left _ hb)] at e; cases e) (F.keep b o e), F.above⟩
  have loop : ∀ s₃ : Shared, s₃ = { s with heap := h₁ } →
      codeAny (model prog w) A (.compLoop (.ListComp elt [⟨target, iter, ifs, 0⟩] scope pos) 0 (.ref I) (.ref s.heap.objs.size) (compEnvC scope ((x, H2.objs.size + 1) :: cl) H2.objs.size env))
        (RR (.ref s.heap.objs.size) H2.objs.size) s₃ := by
    rintro s₃ rfl
    refine last_clause rfl rfl
      (WalkAt1 s g H2.objs.size s.heap.objs.size k St wr Led P) ?_ k
      ⟨0, c₀, _, [], h₁, s.toks, _, 0, rfl, Nat.zero_le _, rfl, hSt1, hF1, hN1, hp, fun p hp => ⟨Nat.ne_of_lt (hnewsD p (hs p hp)), hoff p (hs p hp), neN (by have h9 := ltN (hnewsD p (hs p hp)); omega)⟩, Nat.le_refl _, ⟨_, rfl⟩⟩
    rintro n s' ⟨i, c, oK, ys, h', tk, m', nD, rfl, hi, rfl, hSt, F', N', hP, ho, hlen, hoK⟩
    by_cases hik : i < k
    · refine W.item i _ _ _ hik hSt fun v h2 tk2 hv hSt2 kp => ?_
      refine hgo _ v _ _ hSt2 ?_
      have F2 := keepF F' kp
      have hDwr : s.heap.objs.size ∉ wr := fun hb => Nat.lt_irrefl _ (hwrD _ hb)
      have N2 : News g H2.objs.size h2 ((s.heap.objs.size, listOf ys.toArray nD) :: (H2.objs.size + 1, oK) :: Led c) := fun p hp => by
        refine ⟨kp p.1 p.2 ?_ (N' p hp).1, (N' p hp).2⟩
        rcases List.mem_cons.mp hp with rfl | hp
        · exact hDwr
        rcases List.mem_cons.mp hp with rfl | hp
        · exact fun hb => by have h9 := ltN (hwrD _ hb); dsimp only at h9; omega
        · exact (ho p hp).2.1
      refine wpAny_mono (turn g H2.objs.size s.heap.objs.size g0 g1 hDC hnewsD hwrD i v c oK ys m' h2 tk2 nD hik hv hP ho hoK hSt2 F2 N2 (fun b hb => g4 b (List.mem_append_left _ hb))) (fun _ s₁ q1 => ?_) fun _ _ x => x
      refine wpAny_mono q1 (fun ok s₂ q2 => ?_) fun _ _ x => x
      cases ok with
      | false =>
        simp only [Bool.false_eq_true, if_false] at q2 ⊢
        obtain ⟨c', oK', h3, tk3, m3, rfl, F3, N3, hP3, ho3, hSt3, hoK3⟩ := q2
        exact ⟨k - (i + 1), by omega, i + 1, c', oK', ys, h3, tk3, m3, nD, rfl, hik, rfl, hSt3, F3, N3, hP3, ho3, by omega, hoK3⟩
      | true =>
        simp only [if_true] at q2 ⊢
        refine wpAny_mono q2 (fun y s₃ q3 => ?_) fun _ _ x => x
        obtain ⟨c', oK', h3, tk3, m3, rfl, F3, N3, hP3, ho3, hSt3, hoK3⟩ := q3
        have hz := N3 _ (.head _)
        refine append_at (n := nD) (its := ys.toArray) (hsz := by rw [List.size_toArray]; omega) hz.1 fun h4 hs4 ho4 => ?_
        have F4 := F3.change hs4 hz.2.1 hz.2.2
        have N4 := News.setHead N3 (List.forall_mem_cons.mpr ⟨neN (by dsimp only; omega), fun p hp => (ho3 p hp).1⟩) hs4 ho4
        refine ⟨k - (i + 1), by omega, i + 1, c', oK', ys ++ [y], h4, tk3, m3, nD + 1, rfl, hik, rfl, ?_, F4, ?_, hP3, ho3, by simp; omega, hoK3⟩
        · exact W.frame _ _ _ hSt3 fun b hb o e => (hs4.2 b (Nat.ne_of_lt (hfp b hb))).trans e
        · simpa using N4
    · have hik' : i = k := by omega
      subst hik'
      refine W.done _ _ _ hSt fun h2 tk2 kp => ?_
      have hDwr : s.heap.objs.size ∉ wr := fun hb => Nat.lt_irrefl _ (hwrD _ hb)
      have F2 := keepF F' kp
      have N2 : News g H2.objs.size h2 ((s.heap.objs.size, listOf ys.toArray nD) :: (H2.objs.size + 1, oK) :: Led c) := fun p hp => by
        refine ⟨kp p.1 p.2 ?_ (N' p hp).1, (N' p hp).2⟩
        rcases List.mem_cons.mp hp with rfl | hp
        · exact hDwr
        rcases List.mem_cons.mp hp with rfl | hp
        · exact fun hb => by have h9 := ltN (hwrD _ hb); dsimp only at h9; omega
        · exact (ho p hp).2.1
      have N3 : News g H2.objs.size h2 ((s.heap.objs.size, listOf ys.toArray nD) :: Led c) := fun p hp => by
        rcases List.mem_cons.mp hp with rfl | hp
        · exact N2 _ (.head _)
        · exact N2 p (.tail _ (.tail _ hp))
      refine done c ys _ _ h2 tk2 nD m' hP F2.ns ?_ ?_ (fun h3 hs3 => g5 h2 _ m' h3 _ F2 N3 hs3) hDC hnewsD (fun p hp => ⟨(ho p hp).1, (N3 p (.tail _ hp)).2.1⟩)
      · cases e : h₀.get? H2.objs.size with
        | none => rfl
        | some o' =>
          have h9 := g1 _ _ e
          rw [gnone _ (Nat.le_of_lt hDC)] at h9
          cases h9
      · intro e
        obtain ⟨oL, _, _, hL, _⟩ := F.ns
        have h9 := Heap.lt_size hL
        rw [← e] at h9
        exact absurd h9 (Nat.not_lt.mpr (Nat.le_of_lt hDC))
  exact codeAny_compStart_list (loop _ rfl) (W.self 0 _ _ _ hSt1 (loop _ rfl))

/-- a turn's end, the block's own cell beside -/
inductive CE1 {σ : Type} (g : Heap) (C D : Addr) (nD : Nat) (I : Addr) (oI : Obj) (s : Shared) (Led : σ → List (Addr × Obj)) (P : σ → List Value → Prop) (ys ys' : List Value) (s₂ : Shared) : Prop
  | mk (c : σ) (oK : Obj) (h' : Heap) (tk : Nat) (m' : Str → Option Value) : (s₂ = { s with heap := h', toks := tk }) → (Fr g C h' m') → (News g C h' ((D, listOf ys.toArray nD) :: (I, oI) :: (C + 1, oK) :: Led c)) → (P c ys') → ((∀ p ∈ Led c, p.1 ≠ D ∧ p.1 ≠ I ∧ p.1 ≠ C + 1)) → (∃ v0, oK.data = .cell v0) → CE1 g C D nD I oI s Led P ys ys' s₂
theorem ce1 {σ : Type} {g : Heap} {C D : Addr} {nD : Nat} {I : Addr} {oI : Obj} {Led : σ → List (Addr × Obj)} {P : σ → List Value → Prop} {ys ys' : List Value} (c : σ) (oK : Obj) {h' : Heap} {tk : Nat} {m' : Str → Option Value} {news' : List (Addr × Obj)}
    (F : Fr g C h' m') (N : News g C h' news') (hs : ∀ p ∈ (D, listOf ys.toArray nD) :: (I, oI) :: (C + 1, oK) :: Led c, p ∈ news') (hp : P c ys') (ho : ∀ p ∈ Led c, p.1 ≠ D ∧ p.1 ≠ I ∧ p.1 ≠ C + 1) (hk : ∃ v0, oK.data = .cell v0) : CE1 g C D nD I oI s Led P ys ys' { s with heap := h', toks := tk } :=
  ⟨c, oK, h', tk, m', rfl, F, fun p hp => N p (hs p hp), hp, ho, hk⟩

theorem comp_range10 {σ : Type} {elt target iter : Expr} {ifs : List Expr} {scope : Scope} {pos : Pos} {cl : List (Str × Addr)} {r : Addr} {a b c : Int} {t u v : Tok} {n : Nat} {RR : Value → Addr → Result → Shared → Prop} (hh : A.handled = none)
    (hr : IsRange s.heap r a b c t u v) (hsmall : Builtin.Range.small a b c = true) (hn : Builtin.Range.rangeSize a b c = n)
    (hkz : n ≤ sizeLine) {x : Str} (hcells : ∀ n, cellsFrom n scope.names cl = (x, n) :: cl) (hpush : ∀ h, pushCells h scope.names = h.push { cls := .type "cell", data := .cell none }) (hkind : scope.kind = .function) (hgo : ∀ it x, letOwnedTupleGo target it x = pure ())
    (Led : σ → List (Addr × Obj)) (P : Nat → σ → List Value → Prop) (c₀ : σ)
    (F : Fr h₀ L s.heap m) (N : News h₀ L s.heap news) (hs : ∀ p ∈ Led c₀, p ∈ news) (hp : P 0 c₀ [])
    (turn : ∀ g C D I oI, Fr h₀ L g m → (∀ b o, h₀.get? b = some o → g.get? b = some o) → I < D → D < C → (∀ p ∈ news, p.1 < I) →
      ∀ i tv cc oK ys u h tk nD, i < n → P i cc ys → (∀ p ∈ Led cc, p.1 ≠ D ∧ p.1 ≠ I ∧ p.1 ≠ C + 1) → (∃ v0, oK.data = .cell v0) → Fr g C h u → News g C h ((D, listOf ys.toArray nD) :: (I, oI) :: (C + 1, oK) :: Led cc) →
        wpAny (model prog w) A (assign target (compEnvC scope ((x, C + 1) :: cl) C env) (.int (a + i * c) tv)) (fun _ s₁ => wpAny (model prog w) A (testsOf ifs (compEnvC scope ((x, C + 1) :: cl) C env)) (fun ok s₂ =>
          if ok = true then wpAny (model prog w) A (eval elt (compEnvC scope ((x, C + 1) :: cl) C env)) (fun y s₃ => CE1 g C D nD I oI s Led (P (i + 1)) ys (ys ++ [y]) s₃) (fun _ _ => False) s₂
          else CE1 g C D nD I oI s Led (P (i + 1)) ys ys s₂) (fun _ _ => False) s₁) (fun _ _ => False) { s with heap := h, toks := tk })
    (done : ∀ c ys D C h tk nD u, P n c ys → h.Ns C u → h₀.get? C = none → C ≠ L → (∀ h'', Heap.SameBut C h h'' → Fr h₀ L h'' m ∧ News h₀ L h'' ((D, listOf ys.toArray nD) :: Led c)) → D < C → (∀ p ∈ news, p.1 < D) → (∀ p ∈ Led c, p.1 ≠ D ∧ p.1 ≠ C) →
      RR (.ref D) C (.ok .next) { s with heap := h, toks := tk }) :
    wpAny (model prog w) A (pyIter (.ref r)) (fun it s₂ => wpAny (model prog w) A (newList []) (fun acc s₃ => wpAny (model prog w) A (newFunctionEnv scope env.globals cl [] env.qual none .none (some env)) (fun cenv s₄ =>
      codeAny (model prog w) A (.compStart (.ListComp elt [⟨target, iter, ifs, 0⟩] scope pos) 0 it acc { cenv with scope := relabel scope env }) (RR acc cenv.locals) s₄) E s₃) E s₂) E s := by
  refine wpAny_pyIter_range hr hsmall ?_
  have W := Walks.range (prog := prog) (w := w) hh s.heap.objs.size a c n
  have hI0 : h₀.get? s.heap.objs.size = none := by
    cases hq : h₀.get? s.heap.objs.size with
    | none => rfl
    | some o' => exact absurd (Heap.lt_size (F.keep _ _ hq)) (Nat.lt_irrefl _)
  have hIL : s.heap.objs.size ≠ L := Nat.ne_of_gt F.ns.lt
  have hsz1 : (s.heap.push { cls := .type "range_iterator", data := .fields #[rawInt a, rawInt (Builtin.Range.rangeSize a b c), rawInt c] }).objs.size = s.heap.objs.size + 1 := Heap.size_push ..
  have hN1 : News h₀ L (s.heap.push { cls := .type "range_iterator", data := .fields #[rawInt a, rawInt (Builtin.Range.rangeSize a b c), rawInt c] }) news := fun p hp => ⟨Heap.get?_push_of_some _ (N p hp).1, (N p hp).2⟩
  have hnI : ∀ p ∈ news, p.1 < s.heap.objs.size := fun p hp => Heap.lt_size (N p hp).1
  refine comp_walk1 (s := { s with heap := s.heap.push { cls := .type "range_iterator", data := .fields #[rawInt a, rawInt (Builtin.Range.rangeSize a b c), rawInt c] } }) W hkz hcells hpush hkind Led P c₀ (F.push _) hN1 hs hp (by rw [hn]; simpa using Heap.get?_push_size _ rfl)
    (fun b hb => by rw [List.mem_singleton.mp hb]; exact ⟨hI0, hIL, by show s.heap.objs.size < _; rw [hsz1]; exact Nat.lt_succ_self _⟩)
    (fun b hb => by
      show b < (s.heap.push _).objs.size
      rw [hsz1, List.mem_singleton.mp hb]
      exact Nat.lt_succ_self _)
    (fun p hp hb => Nat.lt_irrefl _ ((List.mem_singleton.mp hb) ▸ hnI p hp))
    (fun i v s' Q' hSt hQ => wpAny_of_eq (hgo _ _) hQ) ?_ ?_
  · intro g C D hF hg hDC hnD hwD i v cc oK ys u h tk nD hik hv hP ho hoK hSt F1 N1 hgwr
    obtain ⟨tv, rfl⟩ := hv
    have hIC : s.heap.objs.size ≠ C := Nat.ne_of_lt (Nat.lt_trans (hwD _ (List.mem_singleton.mpr rfl)) hDC)
    have hgI : g.get? s.heap.objs.size = none := hgwr _ (List.mem_singleton.mpr rfl)
    have N2 : News g C h ((D, listOf ys.toArray nD) :: (s.heap.objs.size, { cls := .type "range_iterator", dict := none, data := .fields #[rawInt (a + ((i + 1 : Nat) : Int) * c), rawInt ((n : Int) - ((i + 1 : Nat) : Int)), rawInt c], slots := #[] }) :: (C + 1, oK) :: Led cc) := fun p hp => by
      rcases List.mem_cons.mp hp with rfl | hp
      · exact N1 _ (.head _)
      · rcases List.mem_cons.mp hp with rfl | hp
        · exact ⟨hSt, hIC, hgI⟩
        · exact N1 p (.tail _ hp)
    have ht := turn g C D s.heap.objs.size _ hF hg (hwD _ (List.mem_singleton.mpr rfl)) hDC hnI i tv cc oK ys u h tk nD hik hP (fun p hp => ⟨(ho p hp).1, fun e => (ho p hp).2.1 (e ▸ List.mem_singleton.mpr rfl), (ho p hp).2.2⟩) hoK F1 N2
    have fin : ∀ oI, (∀ h, h.get? s.heap.objs.size = some oI → IsRangeIter h s.heap.objs.size (a + ((i + 1 : Nat) : Int) * c) ((n : Int) - ((i + 1 : Nat) : Int)) c) → ∀ ys' s₃, CE1 g C D nD s.heap.objs.size oI s Led (P (i + 1)) ys ys' s₃ →
        CEnd1 g C D nD { s with heap := s.heap.push { cls := .type "range_iterator", data := .fields #[rawInt a, rawInt (Builtin.Range.rangeSize a b c), rawInt c] } } Led (P (i + 1)) [s.heap.objs.size] (fun h => IsRangeIter h s.heap.objs.size (a + ((i + 1 : Nat) : Int) * c) ((n : Int) - ((i + 1 : Nat) : Int)) c) ys ys' s₃ := by
      rintro oI hI ys' s₃ ⟨c', oK', h', tk', m', rfl, F', N', hP', ho', hoK'⟩
      refine ⟨c', oK', h', tk', m', rfl, F', fun p hp => ?_, hP', fun p hp => ⟨(ho' p hp).1, fun hb => (ho' p hp).2.1 (List.mem_singleton.mp hb), (ho' p hp).2.2⟩, hI _ (N' _ (.tail _ (.head _))).1, hoK'⟩
      rcases List.mem_cons.mp hp with rfl | hp
      · exact N' _ (.head _)
      · exact N' p (.tail _ (.tail _ hp))
    refine wpAny_mono ht (fun _ s₁ q1 => wpAny_mono q1 (fun ok s₂ q2 => ?_) fun _ _ x => x) fun _ _ x => x
    cases ok with
    | false => simp only [Bool.false_eq_true, if_false] at q2 ⊢; exact fin _ (fun _ e => e) _ _ q2
    | true => simp only [if_true] at q2 ⊢; exact wpAny_mono q2 (fun y s₃ q3 => fin _ (fun _ e => e) _ _ q3) fun _ _ x => x
  · intro c ys D C h tk nD u hP hNs hC0 hCL hb hDC hnD ho
    exact done c ys D C h tk nD u hP hNs hC0 hCL hb hDC hnD ho

theorem comp_range1 {σ : Type} {elt target iter : Expr} {ifs : List Expr} {scope : Scope} {pos : Pos} {cl : List (Str × Addr)} {r : Addr} {a b c : Int} {t u v : Tok} {n : Nat} {Q : Value → Shared → Prop} (hh : A.handled = none)
    (hr : IsRange s.heap r a b c t u v) (hsmall : Builtin.Range.small a b c = true) (hn : Builtin.Range.rangeSize a b c = n)
    (hkz : n ≤ sizeLine) {x : Str} (hcells : ∀ n, cellsFrom n scope.names cl = (x, n) :: cl) (hpush : ∀ h, pushCells h scope.names = h.push { cls := .type "cell", data := .cell none }) (hkind : scope.kind = .function) (hgo : ∀ it x, letOwnedTupleGo target it x = pure ())
    (Led : σ → List (Addr × Obj)) (P : Nat → σ → List Value → Prop) (c₀ : σ)
    (F : Fr h₀ L s.heap m) (N : News h₀ L s.heap news) (hs : ∀ p ∈ Led c₀, p ∈ news) (hp : P 0 c₀ [])
    (turn : ∀ g C D I oI, Fr h₀ L g m → (∀ b o, h₀.get? b = some o → g.get? b = some o) → I < D → D < C → (∀ p ∈ news, p.1 < I) →
      ∀ i tv cc oK ys u h tk nD, i < n → P i cc ys → (∀ p ∈ Led cc, p.1 ≠ D ∧ p.1 ≠ I ∧ p.1 ≠ C + 1) → (∃ v0, oK.data = .cell v0) → Fr g C h u → News g C h ((D, listOf ys.toArray nD) :: (I, oI) :: (C + 1, oK) :: Led cc) →
        wpAny (model prog w) A (assign target (compEnvC scope ((x, C + 1) :: cl) C env) (.int (a + i * c) tv)) (fun _ s₁ => wpAny (model prog w) A (testsOf ifs (compEnvC scope ((x, C + 1) :: cl) C env)) (fun ok s₂ =>
          if ok = true then wpAny (model prog w) A (eval elt (compEnvC scope ((x, C + 1) :: cl) C env)) (fun y s₃ => CE1 g C D nD I oI s Led (P (i + 1)) ys (ys ++ [y]) s₃) (fun _ _ => False) s₂
          else CE1 g C D nD I oI s Led (P (i + 1)) ys ys s₂) (fun _ _ => False) s₁) (fun _ _ => False) { s with heap := h, toks := tk })
    (done : ∀ c ys D h tk nD, P n c ys → Fr h₀ L h m → News h₀ L h ((D, listOf ys.toArray nD) :: Led c) → (∀ p ∈ news, p.1 < D) → (∀ p ∈ Led c, p.1 ≠ D) → Q (.ref D) { s with heap := h, toks := tk }) :
    CompAt prog w A E none Q elt target iter ifs scope pos env cl (.ref r) s := by
  unfold CompAt
  refine comp_range10 hh hr hsmall hn hkz hcells hpush hkind hgo Led P c₀ F N hs hp turn fun c ys D C h tk nD u hP hNs hC0 hCL hb hDC hnD ho => ?_
  exact ⟨u, hNs, fun h' hs' => done c ys D h' tk nD hP (hb h' hs').1 (hb h' hs').2 hnD (fun p hp => (ho p hp).1)⟩


end
end
section
theorem len_succ {α : Type _} {l : List α} {n : Nat} (h : l.length = n + 1) : ∃ a t, l = a :: t ∧ t.length = n := by
  cases l with
  | nil => cases h
  | cons a t => exact ⟨a, t, rfl, Nat.succ.inj h⟩
section
variable {prog : Program} {w : World} {A₀ A : Around} {s : Shared} {base h₀ g : Heap} {outer : List Env} {L C : Addr} {m u : Str → Option Value} {env : Env} {news : List (Addr × Obj)} {K : Frag} {p : Program} {loose : List Str} {mean : ExcName → Option Value} {mg mb : Str → Option Value}
  {R : Result → Shared → Prop} {name qual : Str} {params : Arguments} {body : List Stmt} {scope : Scope} {dV kV doc pm cdv ct oc : Value} {an od : Option Addr} {osl : Array (Option Value)} {f : Addr} {args : Args} {binds : List (Str × Value)}
/-- the ground of a block within a frame bears the frame too -/
theorem below_block (B : Below A₀ base outer h₀) (F : Fr h₀ L g m) (hA : A.frames = some (env :: outer)) (hf : env.frame = some L) (hke : env.scope.kind = .function) : Below A base (env :: outer) g := by
  have B₁ := pushX B F hf hke
  exact ⟨hA, B₁.stays, B₁.frames⟩
/-- what is new upon a larger ground is new upon the smaller one -/
theorem news_back {g2 h : Heap} {L' : Addr} (st : ∀ b o, g.get? b = some o → g2.get? b = some o) (hC : ∃ o, g2.get? C = some o) (N : News g2 L' h news) : News g C h news := fun p hp => by
  obtain ⟨h1, _, h3⟩ := N p hp
  refine ⟨h1, fun e => ?_, Option.eq_none_iff_forall_ne_some.mpr fun o e => ?_⟩
  · obtain ⟨o, q⟩ := hC
    rw [← e, h3] at q; cases q
  · rw [st _ _ e] at h3; cases h3
theorem groundG (B : Below A base outer g) (F : Fr g C s.heap u) (N : News g C s.heap news) :
    Fr g C (hideAll s.heap (news.map (·.1))) u ∧ Below A base outer (hideAll s.heap (news.map (·.1))) ∧ g.StaysIn (hideAll s.heap (news.map (·.1))) ∧
      ∀ v s', LeaveK g C u (hideAll s.heap (news.map (·.1))) R v s' → R (.ok (.ret v)) s' := by
  have far : ∀ b ∈ news.map (·.1), b ≠ C ∧ g.get? b = none := fun b hb => by
    obtain ⟨p, hp, rfl⟩ := List.mem_map.mp hb
    exact (N p hp).2
  have FG : Fr g C (hideAll s.heap (news.map (·.1))) u :=
    ⟨F.ns.at' fun o e => hideAll_get _ e fun hb => (far C hb).1 rfl, fun b o e => hideAll_get _ (F.keep b o e) fun hb => by simp [(far b hb).2] at e, F.above⟩
  have there : ∃ o, (hideAll s.heap (news.map (·.1))).get? C = some o := let ⟨o, _, _, q, _⟩ := FG.ns; ⟨o, q⟩
  refine ⟨FG, ⟨B.stack, fun b o e => FG.keep b o (B.stays b o e), B.frames.of_keeps fun b o e _ => ⟨o, FG.keep b o e, rfl⟩⟩, FG.keep, ?_⟩
  rintro v s' ⟨L', m', news', F', N', k⟩
  exact k (FG.keeps F'.keep) (news_back FG.keep there N')
/-- a def called within a block's ground -/
theorem code_defB (B : Below A base outer g) (F : Fr g C s.heap u) (X₀ : K.In g) (N : News g C s.heap news) (T : Top p loose mean mg mb g)
    (ho : K.lookup f = some ⟨oc, od, .func (fnOf name qual params body scope dV kV doc pm an cdv ct), osl⟩) (hcd : codeIn K cdv qual = true) (hroom : A.depth < recursionLimit)
    (hbind : BindsTo s (fnOf name qual params body scope dV kV doc pm an cdv ct) args binds) (hloc : ∀ y ∈ binds, scope.names.lookup y.1 = some .local)
    (h : ∀ g2 L' h₁, Fr g C g2 u → Fr g2 L' h₁ (fun y => binds.reverse.lookup y) → News g2 L' h₁ news → Below A base outer g2 → K.In g2 → Top p loose mean mg mb g2 →
      wpAny (model prog w) (A.deeper (envOf qual scope L' f cdv)) (execs body (envOf qual scope L' f cdv))
        (fun fl s' => LeaveK g C u g2 R (match fl with | .ret v => v | _ => .none) s')
        (fun e s' => wpAny (model prog w) (A.deeper (envOf qual scope L' f cdv)) (leaving (envOf qual scope L' f cdv) e) (fun _ s'' => R (.error e) s'') (fun e' s'' => R (.error e') s'') s')
        { s with heap := h₁, toks := s.toks + binds.length })
    (hco : scope.isCoroutine = false) (hgen : scope.isGenerator = false) (hk : scope.kind = .function)
    (hcell : ∀ x ∈ scope.names, x.2 ≠ .cell) : codeAny (model prog w) A (.call (.ref f) args) R s := by
  obtain ⟨FG, BG, st, lv⟩ := groundG (R := R) B F N
  have X := X₀.keeps F.keep
  refine codeAny_call_def (fd := fnOf name qual params body scope dV kV doc pm an cdv ct) hroom (X _ _ ho) rfl (T.nolimit.keeps F.keep) (codeRec_of X hcd) rfl hbind hcell hloc (fun h₁ ns old => ?_) hco hgen hk
  have F2 : Fr (hideAll s.heap (news.map (·.1))) s.heap.objs.size h₁ (fun y => binds.reverse.lookup y) := ⟨ns, fun b o e => old b o (of_hideAll _ e), by rw [hideAll_size]; exact Nat.le_refl _⟩
  have N2 : News (hideAll s.heap (news.map (·.1))) s.heap.objs.size h₁ news := fun p hp =>
    have q := (N p hp).1
    ⟨old _ _ q, Nat.ne_of_lt (Heap.lt_size q), hideAll_none _ (List.mem_map_of_mem hp)⟩
  exact wpAny_mono (h _ _ h₁ FG F2 N2 BG (X₀.keeps st) (T.keeps st)) (fun _ s' out => lv _ s' out) fun _ _ out => out
end
section
variable {M : Model} {A : Around} {E : Value → Shared → Prop} {s : Shared} {g : Heap} {C c : Addr} {m : Str → Option Value} {news : List (Addr × Obj)} {scope : Scope} {cl : List (Str × Addr)} {env : Env} {x : Str} {v : Value} {o : Obj} {v₀ : Option Value} {gf : Obj → List (Addr × Obj)}
theorem stCcell {Q : Unit → Shared → Prop} (F : Fr g C s.heap m) (N : News g C s.heap news) (hc : cl.lookup x = some c) (U : UpdF c o news gf) (hd : o.data = .cell v₀)
    (h : ∀ h' o', Fr g C h' m → News g C h' (gf o') → o'.data = .cell (some v) → Q () { s with heap := h' })
    (hk : scope.kind = .function) (hx : (compEnvC scope cl C env).kindOf x = some .cell) : wpAny M A (storeName (compEnvC scope cl C env) x v) Q E s := by
  obtain ⟨pre, post, rfl, hg, a, b⟩ := U.split
  obtain ⟨here, apart, new⟩ := N (c, o) (by simp)
  refine wpAny_storeName_cell (env := compEnvC scope cl C env) hk hx hc ⟨o, here, hd⟩ fun h' ⟨o', ho', hd'⟩ hs => h h' o' (F.change hs apart new) ?_ hd'
  rw [hg]
  exact N.setIn a b hs ho'
end
end
section
set_option maxRecDepth 100000
section
variable {prog : Program} {w : World} {A : Around} {E : Value → Shared → Prop} {s : Shared} {h₀ : Heap} {L r : Addr} {m : Str → Option Value} {news : List (Addr × Obj)} {a b c : Int} {t u v : Tok} {n : Nat}
/-- a new list of a range's numbers -/
theorem list_of_range {RR : Result → Shared → Prop} (hh : A.handled = none) (hr : IsRange s.heap r a b c t u v) (hsmall : Builtin.Range.small a b c = true) (hn : Builtin.Range.rangeSize a b c = n) (hlen : n ≤ 2 ^ 24)
    (k : ∀ (h' : Heap) (tk : Nat) (acc : Array Value) (e : Nat), (∀ b o, s.heap.get? b = some o → h'.get? b = some o) → h'.get? s.heap.objs.size = some { cls := .type "list", dict := none, data := .seq acc e, slots := #[] } → ItemsOf (fun i v => ∃ t, v = .int (a + i * c) t) acc n → RR (.ok (.ret (.ref s.heap.objs.size))) { s with heap := h', toks := tk }) :
    codeAny (model prog w) A (.builtin "proto.collect" ⟨[.ref r], []⟩) RR s := by
  refine codeAny_builtin entry_proto_collect' ?_
  rw [Around.under_plainId PySem.F.plain_proto_collect _]
  show wpAny _ A.in1 (newList [] >>= fun l => again (.builtin "list.__iadd__" ⟨[l, .ref r], []⟩)) _ _ s
  refine wpAny_bind (wpAny_newObj_type (wpAny_pure ⟨plainId_quiet PySem.F.plain_list_iadd _, codeAny_builtin entry_list_iadd' ?_⟩))
  rw [Around.under_plainId PySem.F.plain_list_iadd _]
  exact wpAny_extend_range (R := RR) hh (Heap.get?_push_of_some _ hr) hsmall hn hlen _ _ 0 (Heap.get?_push_size _ rfl) fun h' tk acc e hk hS hacc =>
    k h' tk acc e (fun b o q => hk b o (Nat.ne_of_lt (Heap.lt_size q)) (Heap.get?_push_of_some _ q)) hS hacc
theorem collect_range {R : List Value → Shared → Prop} (hh : A.handled = none) (hr : IsRange s.heap r a b c t u v) (hsmall : Builtin.Range.small a b c = true) (hn : Builtin.Range.rangeSize a b c = n) (hlen : n ≤ 2 ^ 24)
    (h : ∀ (h' : Heap) (tk : Nat) (acc : Array Value), (∀ b o, s.heap.get? b = some o → h'.get? b = some o) → ItemsOf (fun i v => ∃ t, v = .int (a + i * c) t) acc n → R acc.toList { s with heap := h', toks := tk }) :
    wpAny (model prog w) A (collect (.ref r)) R E s := by
  unfold collect
  refine wpAny_bind (wpAny_runValue (list_of_range hh hr hsmall hn hlen fun h' tk acc e hk hS hacc => ?_))
  show wpAny _ A (load s.heap.objs.size >>= _) _ _ _
  exact wpAny_bind (wpAny_load hS (wpAny_pure (h h' tk acc hk hacc)))
/-- the i-th number that is collected of range(b) is i -/
theorem collected_at {acc : Array Value} (h : ItemsOf (fun i v => ∃ t, v = .int ((0 : Int) + i * 1) t) acc n) (i : Nat) (hi : i < n) : ∃ t, acc.toList[i]? = some (.int (i : Nat) t) := by
  have hs : i < acc.size := h.1 ▸ hi
  obtain ⟨t, e⟩ := h.2 i acc[i] (by simp [hs])
  exact ⟨t, by simp [hs, e]⟩
end
section
variable {prog : Program} {w : World} {A : Around} {E : Value → Shared → Prop} {s : Shared} {h₀ : Heap} {L r : Addr} {m : Str → Option Value} {news : List (Addr × Obj)} {n : Nat} {t u v : Tok} {b : Int}
/-- sorted(range(n), key=f) -/
theorem sorted_rangeK {f : Value} {kw : List (Str × Value)} {Q : Value → Shared → Prop} (hh : A.handled = none) (F : Fr h₀ L s.heap m) (N : News h₀ L s.heap news) (hr : IsRange s.heap r 0 b 1 t u v) (hsmall : Builtin.Range.small 0 b 1 = true) (hn : Builtin.Range.rangeSize 0 b 1 = n)
    (h2 : 2 ≤ n) (h64 : n < 64)
    (ha1 : argsOk "sorted" ⟨[.ref r], kw⟩) (ha2 : ∀ x, argsOk "list.sort" ⟨[.ref x], kw⟩) (ht : ∀ x, Builtin.«list.sort» ⟨[.ref x], kw⟩ = ksk_tree x f false)
    (h : ∀ vs D kS e1 h' tk', List.length vs = n → (∀ i, i < n → ∃ t, vs[i]? = some (.int (i : Nat) t)) → Fr h₀ L h' m → News h₀ L h' ((kS, seqObj "list" #[] 0) :: (D, seqObj "list" #[] e1) :: news) → D < kS → (∀ q ∈ news, q.1 < D) →
      KatKeys prog w A.in1.in1 h₀ L m kS f (fun ks e s' => wpAny (model prog w) A.in1.in1 (keyKind' (List.toArray ks)) (fun κ s'' => (kas_sort vs.length).kasWp (kas_ask prog w A.in1.in1 κ (katRev false ks)) (fun p s3 => KatFin h₀ L m kS D ks e e1 (katRev false (p.toList.map fun i => (katRev false vs).getD i Value.none)) (fun s4 => Q (.ref D) s4) s3) s'') (fun _ _ => False) s') vs [] 0 { s with heap := h', toks := tk' }) :
    wpAny (model prog w) A (call (.builtin "sorted") [.ref r] kw) Q E s := by
  refine call_function_entry_kw kind_sorted plain_sorted entry_sorted ha1 ?_
  unfold Builtin.«sorted»
  refine wpAny_bind (m := checkCount "sorted" 1 1 _) (wpAny_pure (wpAny_bind (collect_range (A := A.in1) hh hr hsmall hn (by omega) fun h1 tk1 acc old items => ?_)))
  have len : acc.toList.length = n := by rw [Array.length_toList, items.1]
  refine wpAny_bind (wpAny_newList ?_ (by rw [len, sizeLine_eq]; omega))
  generalize hH : h1.push (seqObj "list" acc.toList.toArray 0) = H
  have new : H.get? h1.objs.size = some (seqObj "list" acc.toList.toArray 0) := hH ▸ Heap.get?_push_size _ rfl
  have kept : ∀ b o, s.heap.get? b = some o → H.get? b = some o := fun b o q => hH ▸ Heap.get?_push_of_some _ (old b o q)
  have below : ∀ q ∈ news, q.1 < h1.objs.size := fun q hq => Heap.lt_size (old _ _ (N q hq).1)
  have frame : L < h1.objs.size := (F.keeps old).ns.lt
  refine wpAny_bind (wpAny_holding (wpAny_call_entry_kw slot_list_sort ⟨_, new, rfl⟩ entry_list_sort ?_ (ha2 _)))
  show wpAny (model prog w) A.in1.in1 (Builtin.«list.sort» ⟨[.ref h1.objs.size], kw⟩) _ _ _
  rw [ht]
  refine kat_keyed (s := { s with heap := H, toks := tk1 }) (F.keeps kept) (N.grown kept) new (Nat.ne_of_gt frame) (Heap.get?_none_of_le (Nat.le_trans F.above (Nat.le_of_lt frame))) (fun q hq => Nat.ne_of_lt (below q hq)) (by omega) (by omega)
    fun kS e1 h' F' N' l0 _ => kat_keys_mono (h _ _ kS e1 h' tk1 len (collected_at items) F' N' l0 below) fun ks e s' hk told => ?_
  refine wpAny_mono told (fun κ s'' asked => ?_) fun _ _ x => x
  rw [kat_ask_eq (vs := katRev false acc.toList) (by rw [kat_len, kat_len]; simpa using hk)] at asked ⊢
  exact kas_wp_mono asked fun _ _ fin => fin.mono fun _ got => ⟨_, rfl, wpAny_pure ⟨_, rfl, got⟩⟩
end
abbrev rangeObj (a b c : Int) (t u v : Tok) : Obj := { cls := .type "range", dict := none, data := .fields #[.int a t, .int b u, .int c v], slots := #[] }
theorem range1_N {prog : Program} {w : World} {A : Around} {E : Value → Shared → Prop} {s : Shared} {h₀ : Heap} {L : Addr} {m : Str → Option Value} {news : List (Addr × Obj)} {Q : Value → Shared → Prop} {b : Int} {u : Tok} (F : Fr h₀ L s.heap m) (N : News h₀ L s.heap news)
    (h : ∀ h' tk r t₁ u₁ v₁, Fr h₀ L h' m → News h₀ L h' ((r, rangeObj 0 b 1 t₁ u₁ v₁) :: news) → (∀ p ∈ news, p.1 < r) → Q (.ref r) { s with heap := h', toks := tk }) :
    wpAny (model prog w) A (call (.type "range") [.int b u]) Q E s :=
  call_range_1 (h _ _ _ _ _ _ (F.push _) (News.push F N _) fun p hp => Heap.lt_size (N p hp).1)
section
variable {prog : Program} {w : World} {A : Around} {h₀ : Heap} {L kS D : Addr} {m : Str → Option Value}
/-- the keys one by one: told by the call of the key function -/
theorem keys_all {f : Value} {bl : List (Addr × Obj)} {K1 K2 K3 : Nat → Int} {e1 : Nat} {Fin : List Value → Nat → Shared → Prop} {n : Nat}
    (hcall : ∀ (i : Nat) (t : Tok) (rest2 : List (Addr × Obj)) (s : Shared) (Q : Value → Shared → Prop), i < n → Fr h₀ L s.heap m → News h₀ L s.heap rest2 → (∀ p ∈ bl, p ∈ rest2) →
      (∀ T t1 t2 t3 h' tk', Fr h₀ L h' m → News h₀ L h' ((T, ({ cls := .type "tuple", data := .seq #[.int (K1 i) t1, .int (K2 i) t2, .int (K3 i) t3] } : Obj)) :: rest2) → (∀ p ∈ rest2, p.1 < T) → Q (.ref T) { s with heap := h', toks := tk' }) →
      wpAny (model prog w) A (call f [.int (i : Nat) t]) Q (fun _ _ => False) s)
    (s0 : Shared)
    (fin : ∀ ks e h' tk' rest2, Fr h₀ L h' m → News h₀ L h' ((kS, seqObj "list" (List.toArray (ks.map Value.ref)) e) :: (D, seqObj "list" #[] e1) :: rest2) → (∀ p ∈ bl, p ∈ rest2) → (∀ p ∈ rest2, p.1 ≠ kS) → (∀ p ∈ rest2, p.1 ≠ D) → ks.length = n →
      (∀ j, j < n → ∃ t1 t2 t3, (List.getD ks j 0, ({ cls := .type "tuple", data := .seq #[.int (K1 j) t1, .int (K2 j) t2, .int (K3 j) t3] } : Obj)) ∈ rest2) → Fin (ks.map Value.ref) e { s0 with heap := h', toks := tk' }) :
    ∀ (r : List Value) (ks : List Addr) (e : Nat) (h : Heap) (tk : Nat) (rest2 : List (Addr × Obj)), ks.length + r.length = n → (∀ i, i < r.length → ∃ t, r[i]? = some (.int ((ks.length + i : Nat) : Int) t)) → Fr h₀ L h m → News h₀ L h ((kS, seqObj "list" (List.toArray (ks.map Value.ref)) e) :: (D, seqObj "list" #[] e1) :: rest2) → (∀ p ∈ bl, p ∈ rest2) → kS ≠ D → (∀ p ∈ rest2, p.1 ≠ kS) → (∀ p ∈ rest2, p.1 ≠ D) →
      (∀ j, j < ks.length → ∃ t1 t2 t3, (List.getD ks j 0, ({ cls := .type "tuple", data := .seq #[.int (K1 j) t1, .int (K2 j) t2, .int (K3 j) t3] } : Obj)) ∈ rest2) →
      KatKeys prog w A h₀ L m kS f Fin r (ks.map Value.ref) e { s0 with heap := h, toks := tk } := by
  intro r
  induction r with
  | nil =>
    intro ks e h tk rest2 hl hr F N hb hkD hk hD hj
    have hl' : ks.length = n := by simpa using hl
    exact KatKeys.nil (fin ks e h tk rest2 F N hb hk hD hl' (fun j hj' => hj j (by omega)))
  | cons v r ih =>
    intro ks e h tk rest2 hl hr F N hb hkD hk hD hj
    simp only [List.length_cons] at hl
    obtain ⟨t, ht⟩ := hr 0 (by simp)
    have hv : v = .int ((ks.length : Nat) : Int) t := by simpa using ht
    subst hv
    refine KatKeys.cons (hcall ks.length t ((kS, seqObj "list" (List.toArray (ks.map Value.ref)) e) :: (D, seqObj "list" #[] e1) :: rest2) _ _ (by omega) F N (fun p hp => .tail _ (.tail _ (hb p hp))) fun T t1 t2 t3 h' tk' F' N' hT => ?_)
    have hTk : T ≠ kS := Ne.symm (Nat.ne_of_lt (hT (kS, _) (.head _)))
    have hTD : T ≠ D := Ne.symm (Nat.ne_of_lt (hT (D, _) (.tail _ (.head _))))
    refine KatBack.intro F' N' (.tail hTk (.head (List.forall_mem_cons.mpr ⟨Ne.symm hkD, hk⟩))) fun h'' c F'' N'' => ?_
    have e9 : ks.map Value.ref ++ [Value.ref T] = (ks ++ [T]).map Value.ref := by simp
    rw [e9] at N'' ⊢
    refine ih (ks ++ [T]) c h'' tk' ((T, { cls := .type "tuple", data := .seq #[.int (K1 ks.length) t1, .int (K2 ks.length) t2, .int (K3 ks.length) t3] }) :: rest2) (by simp; omega) (fun i hi => ?_) F'' (fun p hp => N'' p ?_) (fun p hp => .tail _ (hb p hp)) hkD (List.forall_mem_cons.mpr ⟨hTk, hk⟩) (List.forall_mem_cons.mpr ⟨hTD, hD⟩) (fun j hj' => ?_)
    · obtain ⟨t', ht'⟩ := hr (i + 1) (by simp; omega)
      refine ⟨t', ?_⟩
      rw [List.getElem?_cons_succ] at ht'
      rw [ht', List.length_append, List.length_singleton]
      congr 2; omega
    · simp only [List.mem_cons] at hp ⊢
      rcases hp with h | h | h | h <;> simp [h]
    · rw [List.length_append, List.length_singleton] at hj'
      rcases Nat.lt_or_ge j ks.length with h | h
      · obtain ⟨a1, a2, a3, a4⟩ := hj j h
        rw [List.getD_eq_getElem?_getD, List.getElem?_append_left h, ← List.getD_eq_getElem?_getD]
        exact ⟨a1, a2, a3, .tail _ a4⟩
      · have e8 : j = ks.length := by omega
        subst e8
        rw [List.getD_eq_getElem?_getD, List.getElem?_append_right (Nat.le_refl _), Nat.sub_self]
        exact ⟨t1, t2, t3, .head _⟩
end
/-- the tree's run with known answers -/
def kasRun {α : Type} (n : Nat) (lt : Nat → Nat → Bool) : KasT α → Option α
  | .ret a => some a
  | .ask i j k => if i < n ∧ j < n then kasRun n lt (k (lt i j)) else none
theorem kas_run {α : Type} {n : Nat} {lt : Nat → Nat → Bool} {cmp : Nat → Nat → (Bool → Shared → Prop) → Shared → Prop} {Inv : Shared → Prop}
    (hc : ∀ i j C s, i < n → j < n → Inv s → (∀ s', Inv s' → C (lt i j) s') → cmp i j C s) {Q : α → Shared → Prop} {a : α} :
    ∀ (t : KasT α) (s : Shared), kasRun n lt t = some a → Inv s → (∀ s', Inv s' → Q a s') → t.kasWp cmp Q s
  | .ret b, s, h, hi, hq => by
    have e : b = a := Option.some.inj h
    subst e
    exact hq s hi
  | .ask i j k, s, h, hi, hq => by
    rw [kasRun] at h
    split at h
    · rename_i hij
      exact hc i j _ s hij.1 hij.2 hi fun s' hi' => kas_run hc (k (lt i j)) s' h hi' hq
    · cases h
/-- all orders of the first numbers -/
def insAll (x : Nat) : List Nat → List (List Nat)
  | [] => [[x]]
  | y :: l => (x :: y :: l) :: (insAll x l).map (y :: ·)
def perms : Nat → List (List Nat)
  | 0 => [[]]
  | n + 1 => (perms n).flatMap (insAll n)
def okRun (l : List Nat) : Bool :=
  match kasRun 6 (fun i j => decide (l.getD i 0 < l.getD j 0)) (kas_sort 6) with
  | some p => decide (p.toList.map (fun i => l.getD i 0) = [0, 1, 2, 3, 4, 5]) && decide (p.toList.all fun i => i < 6)
  | none => false
theorem okRun_all : (perms 6).all okRun = true := by decide +kernel
end
section
theorem before_iff {J : Jobs} {k k' : Nat} : before J k k' = true ↔ ((J k).2 < (J k').2 ∨ ((J k).2 = (J k').2 ∧ ((J k').1 < (J k).1 ∨ ((J k).1 = (J k').1 ∧ k' < k)))) := by
  unfold before; rw [decide_eq_true_eq]
theorem before_trans {J : Jobs} {a b c : Nat} (h1 : before J a b = true) (h2 : before J b c = true) : before J a c = true := by
  rw [before_iff] at *
  rcases h1 with h1 | ⟨e1, h1⟩
  · rcases h2 with h2 | ⟨e2, h2⟩
    · exact .inl (Int.lt_trans h1 h2)
    · exact .inl (e2 ▸ h1)
  · rcases h2 with h2 | ⟨e2, h2⟩
    · exact .inl (e1 ▸ h2)
    · refine .inr ⟨e1.trans e2, ?_⟩
      rcases h1 with h1 | ⟨f1, h1⟩
      · rcases h2 with h2 | ⟨f2, h2⟩
        · exact .inl (Int.lt_trans h2 h1)
        · exact .inl (f2 ▸ h1)
      · rcases h2 with h2 | ⟨f2, h2⟩
        · exact .inl (f1 ▸ h2)
        · exact .inr ⟨f1.trans f2, Nat.lt_trans h2 h1⟩
theorem before_irrefl {J : Jobs} {a : Nat} : before J a a = false := by
  cases h : before J a a with
  | false => rfl
  | true => rw [before_iff] at h; omega
theorem before_total {J : Jobs} {a b : Nat} (h : a ≠ b) (h1 : before J a b = false) : before J b a = true := by
  have h2 : ¬ before J a b = true := by rw [h1]; exact Bool.false_ne_true
  rw [before_iff] at *; omega
theorem before_asymm {J : Jobs} {a b : Nat} (h : before J a b = true) : before J b a = false := by
  cases h2 : before J b a with
  | false => rfl
  | true => have := before_trans h h2; rw [before_irrefl] at this; cases this
/-- how many are ahead in rank -/
def rankOf (J : Jobs) (k : Nat) : Nat := ((List.range 6).filter fun j => before J j k).length
theorem filter_length_lt {α : Type} {p q : α → Bool} {l : List α} (h : ∀ x ∈ l, p x = true → q x = true) {a : α} (ha : a ∈ l) (h1 : p a = false) (h2 : q a = true) : (l.filter p).length < (l.filter q).length := by
  induction l with
  | nil => cases ha
  | cons x r ih =>
    have hle : (r.filter p).length ≤ (r.filter q).length := by
      have h' : ∀ y ∈ r, p y = true → q y = true := fun y hy => h y (.tail _ hy)
      clear ih ha h
      induction r with
      | nil => exact Nat.le_refl _
      | cons y s ih2 =>
        have i2 := ih2 fun z hz => h' z (.tail _ hz)
        have hy := h' y (.head _)
        cases hp : p y <;> cases hq : q y <;> simp only [List.filter_cons, hp, hq, if_true, if_false, Bool.false_eq_true, List.length_cons] <;> first | omega | (rw [hp, hq] at hy; simp at hy)
    rcases List.mem_cons.mp ha with rfl | ha
    · simp only [List.filter_cons, h1, h2, if_true, Bool.false_eq_true, if_false, List.length_cons]; omega
    · have i2 := ih (fun y hy => h y (.tail _ hy)) ha
      have hx := h x (.head _)
      cases hp : p x <;> cases hq : q x <;> simp only [List.filter_cons, hp, hq, if_true, if_false, Bool.false_eq_true, List.length_cons] <;> first | omega | (rw [hp, hq] at hx; simp at hx)
theorem rank_lt {J : Jobs} {i j : Nat} (hi : i < 6) (h : before J i j = true) : rankOf J i < rankOf J j :=
  filter_length_lt (fun x _ hx => before_trans hx h) (List.mem_range.mpr hi) before_irrefl h
theorem rank_iff {J : Jobs} {i j : Nat} (hi : i < 6) (hj : j < 6) : decide (rankOf J i < rankOf J j) = before J i j := by
  cases h : before J i j with
  | true => rw [decide_eq_true_eq]; exact rank_lt hi h
  | false =>
    rw [decide_eq_false_iff_not]
    by_cases e : i = j
    · subst e; exact Nat.lt_irrefl _
    · exact Nat.not_lt_of_lt (rank_lt hj (before_total e h))
theorem rank_inj {J : Jobs} {i j : Nat} (hi : i < 6) (hj : j < 6) (h : rankOf J i = rankOf J j) : i = j := by
  by_cases e : i = j
  · exact e
  · cases hb : before J i j with
    | true => have := rank_lt hi hb; omega
    | false => have := rank_lt hj (before_total e hb); omega
theorem rank_six {J : Jobs} {i : Nat} (hi : i < 6) : rankOf J i < 6 := by
  have h := filter_length_lt (p := fun j => before J j i) (q := fun _ => true) (l := List.range 6) (fun _ _ _ => rfl) (List.mem_range.mpr hi) before_irrefl rfl
  have e : ((List.range 6).filter fun _ => true).length = 6 := by decide
  rw [e] at h
  exact h
theorem mem_insAll {x : Nat} : ∀ {l1 l2 : List Nat}, (l1 ++ x :: l2) ∈ insAll x (l1 ++ l2)
  | [], [] => .head _
  | [], y :: l2 => .head _
  | y :: l1, l2 => by
    show y :: (l1 ++ x :: l2) ∈ insAll x (y :: (l1 ++ l2))
    exact .tail _ (List.mem_map.mpr ⟨_, mem_insAll, rfl⟩)
theorem mem_perms : ∀ {n : Nat} {l : List Nat}, l.Perm (List.range n) → l ∈ perms n
  | 0, l, h => by rw [List.Perm.eq_nil h]; exact .head _
  | n + 1, l, h => by
    have hn : n ∈ l := h.mem_iff.mpr (List.mem_range.mpr (Nat.lt_succ_self n))
    obtain ⟨l1, l2, rfl⟩ := List.append_of_mem hn
    have h2 : (l1 ++ l2).Perm (List.range n) := by
      have h3 : (n :: (l1 ++ l2)).Perm (n :: List.range n) := by
        refine List.Perm.trans ?_ (h.trans ?_)
        · exact (List.perm_middle (a := n) (l₁ := l1) (l₂ := l2)).symm
        · rw [List.range_succ]; exact List.perm_append_comm
      exact List.Perm.cons_inv h3
    exact List.mem_flatMap.mpr ⟨l1 ++ l2, mem_perms h2, mem_insAll⟩
theorem nodup_length_le : ∀ (n : Nat) (l : List Nat), l.Nodup → (∀ x ∈ l, x < n) → l.length ≤ n
  | 0, l, _, h => by
    cases l with
    | nil => exact Nat.le_refl _
    | cons a r => exact absurd (h a (.head _)) (Nat.not_lt_zero _)
  | n + 1, l, hd, h => by
    have h1 := nodup_length_le n (l.filter fun x => decide (x ≠ n)) (hd.filter _) fun x hx => by
      obtain ⟨a, b⟩ := List.mem_filter.mp hx
      have := h x a
      simp at b
      omega
    have h2 : l.length ≤ (l.filter fun x => decide (x ≠ n)).length + 1 := by
      clear h h1
      induction l with
      | nil => exact Nat.zero_le _
      | cons a r ih =>
        obtain ⟨ha, hr⟩ := List.nodup_cons.mp hd
        by_cases e : a = n
        · subst e
          have e2 : (r.filter fun x => decide (x ≠ a)) = r := List.filter_eq_self.mpr fun x hx => by
            simp; intro e; exact ha (e ▸ hx)
          rw [List.filter_cons, if_neg (by simp), e2, List.length_cons]; exact Nat.le_refl _
        · have := ih hr
          simp only [List.filter_cons, e, ne_eq, not_false_eq_true, decide_true, if_true, List.length_cons]
          simp only [ne_eq] at this
          omega
    omega
theorem perm_of_nodup {n : Nat} {l : List Nat} (hd : l.Nodup) (h : ∀ x ∈ l, x < n) (hl : l.length = n) : l.Perm (List.range n) := by
  rw [List.perm_iff_count]
  intro a
  have hm : a ∈ l ↔ a < n := by
    refine ⟨h a, fun ha => ?_⟩
    by_cases hc : a ∈ l
    · exact hc
    · have := nodup_length_le n (a :: l) (List.nodup_cons.mpr ⟨hc, hd⟩) (List.forall_mem_cons.mpr ⟨ha, h⟩)
      simp at this; omega
  rw [hd.count, List.nodup_range.count]
  by_cases ha : a < n
  · rw [if_pos (hm.mpr ha), if_pos (List.mem_range.mpr ha)]
  · rw [if_neg (fun h => ha (hm.mp h)), if_neg (fun h => ha (List.mem_range.mp h))]
theorem ranks_perm (J : Jobs) : ((List.range 6).map (rankOf J)).Perm (List.range 6) := by
  refine perm_of_nodup ?_ ?_ (by simp)
  · rw [List.Nodup, List.pairwise_map]
    refine List.Pairwise.imp_of_mem ?_ List.nodup_range
    intro a b ha hb hne h
    exact hne (rank_inj (List.mem_range.mp ha) (List.mem_range.mp hb) h)
  · intro x hx
    obtain ⟨k, hk, rfl⟩ := List.mem_map.mp hx
    exact rank_six (List.mem_range.mp hk)
/-- the jobs in rank -/
def Ranked (J : Jobs) (rl : List Nat) : Prop := rl.map (rankOf J) = [0, 1, 2, 3, 4, 5] ∧ ∀ i ∈ rl, i < 6
theorem sort_ranked (J : Jobs) : ∃ p : Array Nat, kasRun 6 (fun i j => decide (rankOf J i < rankOf J j)) (kas_sort 6) = some p ∧ Ranked J p.toList := by
  have h := List.all_eq_true.mp okRun_all _ (mem_perms (ranks_perm J))
  unfold okRun at h
  have hg : ∀ i, i < 6 → ((List.range 6).map (rankOf J)).getD i 0 = rankOf J i := fun i hi => by
    rw [List.getD_eq_getElem?_getD, List.getElem?_map, List.getElem?_range hi]; rfl
  have hc : ∀ {α : Type} (t : KasT α), kasRun 6 (fun i j => decide (((List.range 6).map (rankOf J)).getD i 0 < ((List.range 6).map (rankOf J)).getD j 0)) t = kasRun 6 (fun i j => decide (rankOf J i < rankOf J j)) t := by
    intro α t
    induction t with
    | ret a => rfl
    | ask i j k ih =>
      rw [kasRun, kasRun]
      split
      · rename_i hij
        rw [hg i hij.1, hg j hij.2]
        exact ih _
      · rfl
  rw [hc] at h
  cases hr : kasRun 6 (fun i j => decide (rankOf J i < rankOf J j)) (kas_sort 6) with
  | none => rw [hr] at h; cases h
  | some p =>
    rw [hr] at h
    dsimp only at h
    rw [Bool.and_eq_true, decide_eq_true_eq, decide_eq_true_eq] at h
    obtain ⟨h1, h2⟩ := h
    have h2' : ∀ i ∈ p.toList, i < 6 := fun i hi => by simpa using List.all_eq_true.mp h2 i hi
    refine ⟨p, rfl, ?_, h2'⟩
    rw [← h1]
    exact List.map_congr_left fun i hi => (hg i (h2' i hi)).symm
end
section
set_option maxRecDepth 100000
section
variable {prog : Program} {w : World} {A : Around} {E : Value → Shared → Prop} {s : Shared}
abbrev tup3 (a b c : Int) (t1 t2 t3 : Tok) : Obj := { cls := .type "tuple", data := .seq #[.int a t1, .int b t2, .int c t3] }
/-- two tuples of three ints asked for their order -/
theorem ask_tup {x y : Addr} {a1 a2 a3 b1 b2 b3 : Int} {t1 t2 t3 u1 u2 u3 : Tok} {C : Bool → Shared → Prop} (hx : s.heap.get? x = some (tup3 a1 a2 a3 t1 t2 t3)) (hy : s.heap.get? y = some (tup3 b1 b2 b3 u1 u2 u3))
    (h : C (decide (a1 < b1 ∨ (a1 = b1 ∧ (a2 < b2 ∨ (a2 = b2 ∧ a3 < b3))))) s) : wpAny (model prog w) A (keyLt' (tuples' true) (.ref x) (.ref y)) C E s := by
  refine kat_lt hx rfl hy rfl ?_
  refine kat_cons (wpAny_eqBool_int ?_)
  by_cases e1 : a1 = b1
  · rw [show (a1 == b1) = true by simpa using e1]
    refine kat_yes (kat_cons (wpAny_eqBool_int ?_))
    by_cases e2 : a2 = b2
    · rw [show (a2 == b2) = true by simpa using e2]
      refine kat_yes (kat_cons (wpAny_eqBool_int ?_))
      by_cases e3 : a3 = b3
      · rw [show (a3 == b3) = true by simpa using e3]
        refine kat_yes (kat_nil ?_)
        have e : decide (a1 < b1 ∨ (a1 = b1 ∧ (a2 < b2 ∨ (a2 = b2 ∧ a3 < b3)))) = false := by rw [decide_eq_false_iff_not]; omega
        rw [e] at h; exact h
      · rw [show (a3 == b3) = false by simpa using e3]
        refine kat_no (kat_one _ _ (lt_int ?_))
        have e : decide (a1 < b1 ∨ (a1 = b1 ∧ (a2 < b2 ∨ (a2 = b2 ∧ a3 < b3)))) = decide (a3 < b3) := by congr 1; apply propext; omega
        rw [e] at h; exact h
    · rw [show (a2 == b2) = false by simpa using e2]
      refine kat_no (kat_one _ _ (lt_int ?_))
      have e : decide (a1 < b1 ∨ (a1 = b1 ∧ (a2 < b2 ∨ (a2 = b2 ∧ a3 < b3)))) = decide (a2 < b2) := by congr 1; apply propext; omega
      rw [e] at h; exact h
  · rw [show (a1 == b1) = false by simpa using e1]
    refine kat_no (oneLt_int ?_)
    have e : decide (a1 < b1 ∨ (a1 = b1 ∧ (a2 < b2 ∨ (a2 = b2 ∧ a3 < b3)))) = decide (a1 < b1) := by congr 1; apply propext; omega
    rw [e] at h; exact h
end
theorem tups_of {h : Heap} : ∀ (ks : List Addr), (∀ k ∈ ks, ∃ a b c t1 t2 t3, h.get? k = some (tup3 a b c t1 t2 t3)) → ∃ fs, KatTups h (ks.map Value.ref) fs ∧ fs.length = ks.length ∧ ∀ v ∈ fs, ∃ x t, v = .int x t
  | [], _ => ⟨[], .nil, rfl, fun v hv => by cases hv⟩
  | k :: ks, hk => by
    obtain ⟨a, b, c, t1, t2, t3, h1⟩ := hk k (.head _)
    obtain ⟨fs, h2, h3, h4⟩ := tups_of ks fun k' hk' => hk k' (.tail _ hk')
    exact ⟨.int a t1 :: fs, .cons h1 rfl rfl rfl h2, by simp [h3], List.forall_mem_cons.mpr ⟨⟨a, t1, rfl⟩, h4⟩⟩
theorem ranked_ints {vs : List Value} (hvs : ∀ i, i < 6 → ∃ t, vs[i]? = some (.int (i : Nat) t)) : ∀ {l : List Nat}, (∀ i ∈ l, i < 6) → IntsAre (l.map fun i => vs.getD i Value.none) (l.map fun (i : Nat) => (i : Int))
  | [], _ => .nil
  | i :: l, h => by
    obtain ⟨t, ht⟩ := hvs i (h i (.head _))
    have e : vs.getD i Value.none = .int (i : Nat) t := by rw [List.getD_eq_getElem?_getD, ht]; rfl
    show IntsAre (vs.getD i Value.none :: _) ((i : Int) :: _)
    rw [e]
    exact .cons _ _ (ranked_ints hvs fun j hj => h j (.tail _ hj))
end
section
section
variable {prog : Program} {w : World} {A : Around} {s : Shared} {env : Env}
/-- a clause without tests that another clause follows -/
theorem outer_clause {elt : Expr} {gens : List Comprehension} {d : Nat} {t0 i0 target iter : Expr} {ifs : List Expr} {scope : Scope} {pos : Pos} {it acc : Value} {R : Result → Shared → Prop} (hg : gens[d]? = some ⟨t0, i0, [], 0⟩) (hl : gens[d + 1]? = some ⟨target, iter, ifs, 0⟩)
    (hs : ∀ x, foldedSetIterable iter env x = pure x) (I : Nat → Shared → Prop)
    (turn : ∀ n s, I n s → wpAny (model prog w) A (pyNext it) (fun r s₁ => match r with
      | none => R (.ok .next) s₁
      | some v => wpAny (model prog w) A (letOwnedTupleGo t0 it v) (fun _ s₁' => wpAny (model prog w) A (assign t0 env v) (fun _ s₂ =>
          wpAny (model prog w) A (eval iter env) (fun x s₃ => wpAny (model prog w) A (pyIter x) (fun it2 s₄ =>
            codeAny (model prog w) A (.compStart (.ListComp elt gens scope pos) (d + 1) it2 acc env) (fun r s₅ => r = .ok .next ∧ ∃ m, m < n ∧ I m s₅) s₄) (fun _ _ => False) s₃) (fun _ _ => False) s₂) (fun _ _ => False) s₁') (fun _ _ => False) s₁) (fun _ _ => False) s)
    (n : Nat) (h : I n s) : codeAny (model prog w) A (.compLoop (.ListComp elt gens scope pos) d it acc env) R s := by
  refine codeAny_loop rfl I (fun n s hI => ?_) n h
  show wpAny _ A (Sem.onRaise (compTurn _ d it acc env) _) _ _ s
  refine wpAny_noted (wpAny_noRaise ?_)
  unfold compTurn
  dsimp only
  rw [hg]
  simp only [hl, hs, bne_self_eq_false, Bool.false_eq_true, if_false, List.forIn_nil, pure_bind, if_true]
  refine wpAny_bind (wpAny_standAt (wp_next (turn n s hI) fun r s₁ h₁ => ?_))
  rcases r with _ | v
  · exact wpAny_pure h₁
  refine wp_next h₁ fun _ _ h₂ => wp_next h₂ fun _ _ h₃ => ?_
  refine wp_next h₃ fun x _ h₄ => wpAny_bind (wpAny_standAt (wpAny_bind (wpAny_holding (wpAny_mono h₄ (fun it2 _ h₅ => ?_) fun _ _ f => f))))
  refine wpAny_bind (wpAny_runOwn (codeAny_mono h₅ ?_))
  rintro _ _ ⟨rfl, h₆⟩
  exact wpAny_pure ⟨rfl, h₆⟩
theorem start_clause {elt : Expr} {gens : List Comprehension} {d : Nat} {target iter : Expr} {ifs : List Expr} {scope : Scope} {pos : Pos} {it acc : Value} {R : Result → Shared → Prop} (hg : gens[d]? = some ⟨target, iter, ifs, 0⟩)
    (h0 : codeAny (model prog w) A (.compLoop (.ListComp elt gens scope pos) d it acc env) R s)
    (h : wpAny (model prog w) A (pyIter it) (fun it' s' => codeAny (model prog w) A (.compLoop (.ListComp elt gens scope pos) d it' acc env) R s') (fun _ _ => False) s) :
    codeAny (model prog w) A (.compStart (.ListComp elt gens scope pos) d it acc env) R s := by
  refine codeAny_of_tree ?_
  show wpAny _ _ (Sem.onRaise (compStart _ d it acc env) _) _ _ s
  refine wpAny_notedAt (wpAny_noRaise ?_)
  unfold compStart
  simp only [show clausesOf (.ListComp elt gens scope pos) = gens from rfl, hg, Option.elim, bne_self_eq_false, Bool.false_eq_true, if_false]
  show wpAny _ A _ _ _ _
  refine wpAny_bind (wpAny_askSetting ?_)
  split
  · exact wpAny_pure ⟨rfl, h0⟩
  · exact wpAny_bind (wpAny_rule (wpAny_bind (wpAny_standAt (wp_next h fun _ _ q => wpAny_pure ⟨rfl, q⟩))))
end
end
section
section
variable {prog : Program} {w : World} {A : Around} {E : Value → Shared → Prop} {s : Shared} {env : Env} {h₀ : Heap} {L : Addr} {m : Str → Option Value} {news : List (Addr × Obj)}
/-- the first clause's turn ends -/
inductive CEnd2 {σ : Type} (g : Heap) (C D : Addr) (s : Shared) (Led : σ → List (Addr × Obj)) (P : σ → List Value → Prop) (wr : List Addr) (St : Heap → Prop) (s₂ : Shared) : Prop
  | mk (c : σ) (ys' : List Value) (nD : Nat) (h' : Heap) (tk : Nat) (m' : Str → Option Value) : (s₂ = { s with heap := h', toks := tk }) → (Fr g C h' m') → (News g C h' ((D, listOf ys'.toArray nD) :: Led c)) → (P c ys') → ((∀ p ∈ Led c, p.1 ≠ D ∧ p.1 ∉ wr)) → (St h') → CEnd2 g C D s Led P wr St s₂
inductive WalkAt2 {σ : Type} (s : Shared) (g : Heap) (C D : Addr) (k : Nat) (St : Nat → Heap → Prop) (wr : List Addr) (Led : σ → List (Addr × Obj)) (P : Nat → σ → List Value → Prop) (n : Nat) (s' : Shared) : Prop
  | mk (i : Nat) (c : σ) (ys : List Value) (h' : Heap) (tk : Nat) (m' : Str → Option Value) (nD : Nat) : (n = k - i) → (i ≤ k) → (s' = { s with heap := h', toks := tk }) → (St i h') → (Fr g C h' m') → (News g C h' ((D, listOf ys.toArray nD) :: Led c)) → (P i c ys) → ((∀ p ∈ Led c, p.1 ≠ D ∧ p.1 ∉ wr)) → WalkAt2 s g C D k St wr Led P n s'
theorem comp_walk2 {σ : Type} {elt t0 i0 target iter : Expr} {ifs : List Expr} {scope : Scope} {pos : Pos} {cl : List (Str × Addr)} {I : Addr} {fp wr : List Addr} {k : Nat} {Pv : Nat → Value → Prop} {St : Nat → Heap → Prop} {RR : Value → Addr → Result → Shared → Prop}
    (W : Walks prog w A I fp wr k Pv St) (hkz : k ≤ sizeLine) (hcell : ∀ y ∈ scope.names, y.2 ≠ .cell) (hkind : scope.kind = .function)
    (Led : σ → List (Addr × Obj)) (P : Nat → σ → List Value → Prop) (c₀ : σ)
    (F : Fr h₀ L s.heap m) (N : News h₀ L s.heap news) (hs : ∀ p ∈ Led c₀, p ∈ news) (hp : P 0 c₀ []) (h0 : St 0 s.heap)
    (hwr : ∀ b ∈ wr, h₀.get? b = none ∧ b ≠ L ∧ b < s.heap.objs.size) (hfp : ∀ b ∈ fp, b < s.heap.objs.size) (hoff : ∀ p ∈ news, p.1 ∉ wr)
    (hgo : ∀ i v s Q, St i s.heap → Q () s → wpAny (model prog w) A (letOwnedTupleGo t0 (.ref I) v) Q (fun _ _ => False) s) (hfs : ∀ x env, foldedSetIterable iter env x = pure x)
    (turn : ∀ g C D, (∀ b o, h₀.get? b = some o → g.get? b = some o) → D < C → (∀ p ∈ news, p.1 < D) → (∀ b ∈ wr, b < D) →
      ∀ i v c ys u h tk nD, i < k → Pv i v → P i c ys → (∀ p ∈ Led c, p.1 ≠ D ∧ p.1 ∉ wr) → St (i + 1) h → Fr g C h u → News g C h ((D, listOf ys.toArray nD) :: Led c) → (∀ b ∈ wr, g.get? b = none) →
        wpAny (model prog w) A (assign t0 (compEnvC scope cl C env) v) (fun _ s₁ => wpAny (model prog w) A (eval iter (compEnvC scope cl C env)) (fun x s₂ => wpAny (model prog w) A (pyIter x) (fun it2 s₃ =>
          codeAny (model prog w) A (.compStart (.ListComp elt [⟨t0, i0, [], 0⟩, ⟨target, iter, ifs, 0⟩] scope pos) 1 it2 (.ref D) (compEnvC scope cl C env)) (fun r s₄ => r = .ok .next ∧ CEnd2 g C D s Led (P (i + 1)) wr (St (i + 1)) s₄) s₃) (fun _ _ => False) s₂) (fun _ _ => False) s₁) (fun _ _ => False) { s with heap := h, toks := tk })
    (done : ∀ c ys D C h tk nD u, P k c ys → h.Ns C u → h₀.get? C = none → C ≠ L → (∀ h'', Heap.SameBut C h h'' → Fr h₀ L h'' m ∧ News h₀ L h'' ((D, listOf ys.toArray nD) :: Led c)) → D < C → (∀ p ∈ news, p.1 < D) → (∀ p ∈ Led c, p.1 ≠ D ∧ p.1 ≠ C) →
      RR (.ref D) C (.ok .next) { s with heap := h, toks := tk }) :
    wpAny (model prog w) A (newList []) (fun acc s₃ => wpAny (model prog w) A (newFunctionEnv scope env.globals cl [] env.qual none .none (some env)) (fun cenv s₄ =>
      codeAny (model prog w) A (.compStart (.ListComp elt [⟨t0, i0, [], 0⟩, ⟨target, iter, ifs, 0⟩] scope pos) 0 (.ref I) acc { cenv with scope := relabel scope env }) (RR acc cenv.locals) s₄) E s₃) E s := by
  have hhid : ∀ b ∈ wr ++ news.map (·.1), h₀.get? b = none ∧ b ≠ L := by
    intro b hb
    rcases List.mem_append.mp hb with hb | hb
    · exact ⟨(hwr b hb).1, (hwr b hb).2.1⟩
    · obtain ⟨p, hp, rfl⟩ := List.mem_map.mp hb
      exact ⟨(N p hp).2.2, (N p hp).2.1⟩
  obtain ⟨g, g1, g2, g3, g4, g5⟩ := ground0 (wr ++ news.map (·.1)) F hhid
  refine wpAny_newObj_type (wpAny_newFunctionEnv hcell (by intro y hy; simp at hy) (fun h₁ hns₁ hsb₁ => ?_) hkind)
  dsimp only at hns₁ hsb₁ ⊢
  generalize hH2 : s.heap.push { cls := .type "list", dict := none, data := .seq ([] : List Value).toArray } = H2 at hns₁ hsb₁ ⊢
  have hC : H2.objs.size = s.heap.objs.size + 1 := by rw [← hH2, Heap.size_push]
  have hDC : s.heap.objs.size < H2.objs.size := by omega
  have old : ∀ b o, s.heap.get? b = some o → h₁.get? b = some o := fun b o e =>
    hsb₁.extBut b o (neN (by have h9 := ltN (Heap.lt_size e); omega)) (Heap.get?_push_of_some _ (hH2 ▸ Heap.get?_push_of_some _ e))
  have hF1 : Fr g H2.objs.size h₁ (fun x => ([] : List (Str × Value)).reverse.lookup x) := ⟨hns₁, fun b o e => old b o (g3 b o e), by rw [g2]; omega⟩
  have gnone : ∀ a, s.heap.objs.size ≤ a → g.get? a = none := fun a ha => by
    cases e : g.get? a with
    | none => rfl
    | some o' => exact absurd (Heap.lt_size e) (by rw [g2]; exact Nat.not_lt.mpr ha)
  have hD1 : h₁.get? s.heap.objs.size = some (listOf ([] : List Value).toArray 0) :=
    hsb₁.extBut _ _ (neN (by omega)) (Heap.get?_push_of_some _ (hH2 ▸ Heap.get?_push_size _ rfl))
  have hN1 : News g H2.objs.size h₁ ((s.heap.objs.size, listOf ([] : List Value).toArray 0) :: Led c₀) := fun p hp => by
    rcases List.mem_cons.mp hp with rfl | hp
    · exact ⟨hD1, by show s.heap.objs.size ≠ H2.objs.size; omega, gnone _ (Nat.le_refl _)⟩
    · have hn := N p (hs p hp)
      have hlt := ltN (Heap.lt_size hn.1)
      exact ⟨old _ _ hn.1, neN (by omega), g4 _ (List.mem_append_right _ (List.mem_map_of_mem (hs p hp)))⟩
  have hSt1 : St 0 h₁ := W.frame _ _ _ h0 fun b _ o e => old b o e
  have hnewsD : ∀ p ∈ news, p.1 < s.heap.objs.size := fun p hp => Heap.lt_size (N p hp).1
  have hwrD : ∀ b ∈ wr, b < s.heap.objs.size := fun b hb => (hwr b hb).2.2
  have keepF : ∀ {h h' : Heap} {m}, Fr g H2.objs.size h m → (∀ b o, b ∉ wr → h.get? b = some o → h'.get? b = some o) → Fr g H2.objs.size h' m := fun {h h' m} F kp =>
    ⟨F.ns.at' fun o e => kp _ o (fun hb => by have h9 := ltN (hwrD _ hb); omega) e, fun b o e => kp b o (fun hb => by rw [g4 b (List.mem_append_left _ hb)] at e; cases e) (F.keep b o e), F.above⟩
  have loop : ∀ s₃ : Shared, s₃ = { s with heap := h₁, toks := s.toks + ([] : List (Str × Value)).length } →
      codeAny (model prog w) A (.compLoop (.ListComp elt [⟨t0, i0, [], 0⟩, ⟨target, iter, ifs, 0⟩] scope pos) 0 (.ref I) (.ref s.heap.objs.size) (compEnvC scope cl H2.objs.size env))
        (RR (.ref s.heap.objs.size) H2.objs.size) s₃ := by
    rintro s₃ rfl
    refine outer_clause rfl rfl (hfs · _)
      (WalkAt2 s g H2.objs.size s.heap.objs.size k St wr Led P) ?_ k
      ⟨0, c₀, [], h₁, _, _, 0, rfl, Nat.zero_le _, rfl, hSt1, hF1, hN1, hp, fun p hp => ⟨Nat.ne_of_lt (hnewsD p (hs p hp)), hoff p (hs p hp)⟩⟩
    rintro n s' ⟨i, c, ys, h', tk, m', nD, rfl, hi, rfl, hSt, F', N', hP, ho⟩
    by_cases hik : i < k
    · refine W.item i _ _ _ hik hSt fun v h2 tk2 hv hSt2 kp => ?_
      refine hgo _ v _ _ hSt2 ?_
      have F2 := keepF F' kp
      have hDwr : s.heap.objs.size ∉ wr := fun hb => Nat.lt_irrefl _ (hwrD _ hb)
      have N2 : News g H2.objs.size h2 ((s.heap.objs.size, listOf ys.toArray nD) :: Led c) := fun p hp => by
        refine ⟨kp p.1 p.2 ?_ (N' p hp).1, (N' p hp).2⟩
        rcases List.mem_cons.mp hp with rfl | hp
        · exact hDwr
        · exact (ho p hp).2
      refine wpAny_mono (turn g H2.objs.size s.heap.objs.size g1 hDC hnewsD hwrD i v c ys m' h2 tk2 nD hik hv hP ho hSt2 F2 N2 (fun b hb => g4 b (List.mem_append_left _ hb))) (fun _ s₁ q1 => ?_) fun _ _ x => x
      refine wpAny_mono q1 (fun x s₂ q2 => ?_) fun _ _ x => x
      refine wpAny_mono q2 (fun it2 s₃ q3 => ?_) fun _ _ x => x
      refine codeAny_mono q3 fun r s₄ q4 => ?_
      obtain ⟨hr, c', ys', nD', h3, tk3, m3, rfl, F3, N3, hP3, ho3, hSt3⟩ := q4
      exact ⟨hr, k - (i + 1), by omega, i + 1, c', ys', h3, tk3, m3, nD', rfl, hik, rfl, hSt3, F3, N3, hP3, ho3⟩
    · have hik' : i = k := by omega
      subst hik'
      refine W.done _ _ _ hSt fun h2 tk2 kp => ?_
      have hDwr : s.heap.objs.size ∉ wr := fun hb => Nat.lt_irrefl _ (hwrD _ hb)
      have F2 := keepF F' kp
      have N2 : News g H2.objs.size h2 ((s.heap.objs.size, listOf ys.toArray nD) :: Led c) := fun p hp => by
        refine ⟨kp p.1 p.2 ?_ (N' p hp).1, (N' p hp).2⟩
        rcases List.mem_cons.mp hp with rfl | hp
        · exact hDwr
        · exact (ho p hp).2
      refine done c ys _ _ h2 tk2 nD m' hP F2.ns ?_ ?_ (fun h3 hs3 => g5 h2 _ m' h3 _ F2 N2 hs3) hDC hnewsD (fun p hp => ⟨(ho p hp).1, (N2 p (.tail _ hp)).2.1⟩)
      · cases e : h₀.get? H2.objs.size with
        | none => rfl
        | some o' =>
          have h9 := g1 _ _ e
          rw [gnone _ (Nat.le_of_lt hDC)] at h9
          cases h9
      · intro e
        obtain ⟨oL, _, _, hL, _⟩ := F.ns
        have h9 := Heap.lt_size hL
        rw [← e] at h9
        exact absurd h9 (Nat.not_lt.mpr (Nat.le_of_lt hDC))
  exact codeAny_compStart_list (loop _ rfl) (W.self 0 _ _ _ hSt1 (loop _ rfl))
/-- the second clause's turn ends -/
def IEnd (g : Heap) (C D I : Addr) (oI : Obj) (nD : Nat) (led : List (Addr × Obj)) (s : Shared) (P : List Value → Prop) (ys ys' : List Value) (s₂ : Shared) : Prop :=
  ∃ (h' : Heap) (tk : Nat) (m' : Str → Option Value), s₂ = { s with heap := h', toks := tk } ∧ Fr g C h' m' ∧ News g C h' ((D, listOf ys.toArray nD) :: (I, oI) :: led) ∧ P ys'
theorem iend {g : Heap} {C D I : Addr} {oI : Obj} {nD : Nat} {led : List (Addr × Obj)} {P : List Value → Prop} {ys ys' : List Value} {h' : Heap} {tk : Nat} {m' : Str → Option Value} (F : Fr g C h' m') (N : News g C h' ((D, listOf ys.toArray nD) :: (I, oI) :: led)) (hp : P ys') :
    IEnd g C D I oI nD led s P ys ys' { s with heap := h', toks := tk } := ⟨h', tk, m', rfl, F, N, hp⟩
inductive InnerAt (s : Shared) (g : Heap) (C D I : Addr) (k y0 : Nat) (l : Addr) (items : List Value) (led : List (Addr × Obj)) (P : Nat → List Value → Prop) (n : Nat) (s' : Shared) : Prop
  | mk (i : Nat) (ys : List Value) (h' : Heap) (tk : Nat) (m' : Str → Option Value) (nD : Nat) : (n = k - i) → (i ≤ k) → (s' = { s with heap := h', toks := tk }) → ((h'.IsListIter I l i ∧ h'.IsList l items.toArray)) → (Fr g C h' m') → (News g C h' ((D, listOf ys.toArray nD) :: led)) → (P i ys) → (ys.length ≤ y0 + i) → InnerAt s g C D I k y0 l items led P n s'
theorem comp_inner {g0 : Comprehension} {elt target iter : Expr} {ifs : List Expr} {scope : Scope} {pos : Pos} {items : List Value} {l : Addr} {nl : Nat} {g : Heap} {C D : Addr} {u0 : Str → Option Value} {ys0 : List Value} {nD0 : Nat} {led : List (Addr × Obj)} {R : Result → Shared → Prop} (hh : A.handled = none)
    (F : Fr g C s.heap u0) (N : News g C s.heap ((D, listOf ys0.toArray nD0) :: led)) (hl : (l, listOf items.toArray nl) ∈ led) (hD : ∀ p ∈ led, p.1 ≠ D) (hz : ys0.length + items.length ≤ 100000)
    (P : Nat → List Value → Prop) (h0 : P 0 ys0)
    (turn : ∀ i v ys u I oI h tk nD, items[i]? = some v → P i ys → Fr g C h u → News g C h ((D, listOf ys.toArray nD) :: (I, oI) :: led) → (∀ p ∈ led, p.1 < I) →
      wpAny (model prog w) A (assign target env v) (fun _ s₁ => wpAny (model prog w) A (testsOf ifs env) (fun ok s₂ =>
          if ok = true then wpAny (model prog w) A (eval elt env) (fun y s₃ => IEnd g C D I oI nD led s (P (i + 1)) ys (ys ++ [y]) s₃) (fun _ _ => False) s₂
          else IEnd g C D I oI nD led s (P (i + 1)) ys ys s₂) (fun _ _ => False) s₁) (fun _ _ => False) { s with heap := h, toks := tk })
    (done : ∀ ys u h tk nD, P items.length ys → Fr g C h u → News g C h ((D, listOf ys.toArray nD) :: led) → R (.ok .next) { s with heap := h, toks := tk }) :
    wpAny (model prog w) A (pyIter (.ref l)) (fun it2 s' => codeAny (model prog w) A (.compStart (.ListComp elt [g0, ⟨target, iter, ifs, 0⟩] scope pos) 1 it2 (.ref D) env) R s') E s := by
  have hl0 : s.heap.get? l = some (listOf items.toArray nl) := (N _ (.tail _ hl)).1
  refine wpAny_pyIter_list ⟨_, hl0, rfl, nl, rfl⟩ ?_
  have hlt : l < s.heap.objs.size := Heap.lt_size hl0
  have hne : l ≠ s.heap.objs.size := Nat.ne_of_lt hlt
  have W := Walks.list (prog := prog) (w := w) hh s.heap.objs.size l hne items.toArray
  have hDl : D < s.heap.objs.size := Heap.lt_size (N _ (.head _)).1
  have hI0 : g.get? s.heap.objs.size = none := by
    cases hq : g.get? s.heap.objs.size with
    | none => rfl
    | some o' => exact absurd (Heap.lt_size (F.keep _ _ hq)) (Nat.lt_irrefl _)
  have hIC : s.heap.objs.size ≠ C := Nat.ne_of_gt F.ns.lt
  have hledI : ∀ p ∈ led, p.1 < s.heap.objs.size := fun p hp => Heap.lt_size (N p (.tail _ hp)).1
  have loop : codeAny (model prog w) A (.compLoop (.ListComp elt [g0, ⟨target, iter, ifs, 0⟩] scope pos) 1 (.ref s.heap.objs.size) (.ref D) env) R { s with heap := s.heap.push { cls := .type "list_iterator", data := .fields #[.ref l, .int 0 0] } } := by
    refine last_clause rfl rfl
      (InnerAt s g C D s.heap.objs.size items.length ys0.length l items led P) ?_ items.length
      ⟨0, ys0, _, s.toks, u0, nD0, rfl, Nat.zero_le _, rfl, ⟨⟨_, Heap.get?_push_size _ rfl, rfl, rfl⟩, ⟨_, Heap.get?_push_of_some _ hl0, rfl, nl, rfl⟩⟩, F.push _, fun p hp => ⟨Heap.get?_push_of_some _ (N p hp).1, (N p hp).2⟩, h0, Nat.le_refl _⟩
    rintro n s' ⟨i, ys, h', tk, m', nD, rfl, hi, rfl, hSt, F', N', hP, hlen⟩
    by_cases hik : i < items.length
    · refine W.item i _ _ _ (by simpa using hik) hSt fun v h2 tk2 hv hSt2 kp => ?_
      refine owned_list hSt2.1 ?_
      have hs' : ∀ b, b ∈ [s.heap.objs.size] → b = s.heap.objs.size := fun b hb => List.mem_singleton.mp hb
      have F2 : Fr g C h2 m' := ⟨F'.ns.at' fun o e => kp C o (fun hb => hIC (hs' _ hb).symm) e, fun b o e => kp b o (fun hb => by rw [hs' _ hb, hI0] at e; cases e) (F'.keep b o e), F'.above⟩
      obtain ⟨oI, hoI, hcI, hdI⟩ := hSt2.1
      have N2 : News g C h2 ((D, listOf ys.toArray nD) :: (s.heap.objs.size, oI) :: led) := fun p hp => by
        rcases List.mem_cons.mp hp with rfl | hp
        · exact ⟨kp _ _ (fun hb => Nat.ne_of_lt hDl (hs' _ hb)) (N' _ (.head _)).1, (N' _ (.head _)).2⟩
        rcases List.mem_cons.mp hp with rfl | hp
        · exact ⟨hoI, hIC, hI0⟩
        · exact ⟨kp _ _ (fun hb => Nat.ne_of_lt (hledI p hp) (hs' _ hb)) (N' p (.tail _ hp)).1, (N' p (.tail _ hp)).2⟩
      refine wpAny_mono (turn i v ys m' s.heap.objs.size oI h2 tk2 nD (by simpa using hv) hP F2 N2 hledI) (fun _ s₁ q1 => ?_) fun _ _ x => x
      refine wpAny_mono q1 (fun ok s₂ q2 => ?_) fun _ _ x => x
      cases ok with
      | false =>
        simp only [Bool.false_eq_true, if_false] at q2 ⊢
        obtain ⟨h3, tk3, m3, rfl, F3, N3, hP3⟩ := q2
        exact ⟨items.length - (i + 1), by omega, i + 1, ys, h3, tk3, m3, nD, rfl, hik, rfl, ⟨⟨oI, (N3 _ (.tail _ (.head _))).1, hcI, hdI⟩, ⟨_, (N3 _ (.tail _ (.tail _ hl))).1, rfl, nl, rfl⟩⟩, F3, fun p hp => N3 p (by rcases List.mem_cons.mp hp with rfl | hp; exact .head _; exact .tail _ (.tail _ hp)), hP3, by omega⟩
      | true =>
        simp only [if_true] at q2 ⊢
        refine wpAny_mono q2 (fun y s₃ q3 => ?_) fun _ _ x => x
        obtain ⟨h3, tk3, m3, rfl, F3, N3, hP3⟩ := q3
        have hz3 := N3 _ (.head _)
        refine append_at (n := nD) (its := ys.toArray) (hsz := by rw [List.size_toArray, sizeLine_eq]; omega) hz3.1 fun h4 hs4 ho4 => ?_
        have F4 := F3.change hs4 hz3.2.1 hz3.2.2
        have N4 := News.setHead N3 (List.forall_mem_cons.mpr ⟨Ne.symm (Nat.ne_of_lt hDl), hD⟩) hs4 ho4
        refine ⟨items.length - (i + 1), by omega, i + 1, ys ++ [y], h4, tk3, m3, nD + 1, rfl, hik, rfl, ⟨⟨oI, (N4 _ (.tail _ (.head _))).1, hcI, hdI⟩, ⟨_, (N4 _ (.tail _ (.tail _ hl))).1, rfl, nl, rfl⟩⟩, F4, fun p hp => ?_, hP3, by simp; omega⟩
        rcases List.mem_cons.mp hp with rfl | hp
        · simpa using N4 _ (.head _)
        · exact N4 p (.tail _ (.tail _ hp))
    · have hik' : i = items.length := by omega
      subst hik'
      refine W.done _ _ _ (by simpa using hSt) fun h2 tk2 kp => ?_
      have hs' : ∀ b, b ∈ [s.heap.objs.size] → b = s.heap.objs.size := fun b hb => List.mem_singleton.mp hb
      have F2 : Fr g C h2 m' := ⟨F'.ns.at' fun o e => kp C o (fun hb => hIC (hs' _ hb).symm) e, fun b o e => kp b o (fun hb => by rw [hs' _ hb, hI0] at e; cases e) (F'.keep b o e), F'.above⟩
      refine done ys m' h2 tk2 nD hP F2 fun p hp => ?_
      rcases List.mem_cons.mp hp with rfl | hp
      · exact ⟨kp _ _ (fun hb => Nat.ne_of_lt hDl (hs' _ hb)) (N' _ (.head _)).1, (N' _ (.head _)).2⟩
      · exact ⟨kp _ _ (fun hb => Nat.ne_of_lt (hledI p hp) (hs' _ hb)) (N' p (.tail _ hp)).1, (N' p (.tail _ hp)).2⟩
  exact start_clause rfl loop (W.self 0 _ _ _ ⟨⟨_, Heap.get?_push_size _ rfl, rfl, rfl⟩, ⟨_, Heap.get?_push_of_some _ hl0, rfl, nl, rfl⟩⟩ loop)

end
end
section
section
variable {prog : Program} {w : World} {A : Around} {E : Value → Shared → Prop} {s : Shared} {env : Env} {h₀ : Heap} {L : Addr} {m : Str → Option Value} {news : List (Addr × Obj)}
def CompAt2 (prog : Program) (w : World) (A : Around) (E : Value → Shared → Prop) (use : Option (Value → Sem Unit)) (Q : Value → Shared → Prop) (elt t0 i0 target iter : Expr) (ifs : List Expr) (scope : Scope) (pos : Pos) (env : Env) (cl : List (Str × Addr)) (x : Value) (s₁ : Shared) : Prop :=
  wpAny (model prog w) A (pyIter x) (fun it s₂ => wpAny (model prog w) A (newList []) (fun acc s₃ => wpAny (model prog w) A (newFunctionEnv scope env.globals cl [] env.qual none .none (some env)) (fun cenv s₄ =>
      codeAny (model prog w) A (.compStart (.ListComp elt [⟨t0, i0, [], 0⟩, ⟨target, iter, ifs, 0⟩] scope pos) 0 it acc { cenv with scope := relabel scope env }) (compPost (model prog w) A E use Q acc cenv.locals) s₄) E s₃) E s₂) E s₁
theorem comp_start2_used {elt t0 i0 target iter : Expr} {ifs : List Expr} {scope : Scope} {pos apos npos : Pos} {x : Str} {cl : List (Str × Addr)} {Q : Flow → Shared → Prop} (hsw : swapsWith (.ListComp elt [⟨t0, i0, [], 0⟩, ⟨target, iter, ifs, 0⟩] scope pos) (some (.Name x npos)) apos.line env = pure true)
    (hclos : closureFor scope env = pure cl) (hkind : scope.kind = .function)
    (hnames : ∀ x ∈ scope.names, x.2 = .local → scope.names.lookup x.1 = some .local) (hs : ∀ x, foldedSetIterable i0 env x = pure x)
    (h : wpAny (model prog w) A (eval i0 env) (CompAt2 prog w A E (some (assign (.Name x npos) env)) (fun _ s' => Q .next s') elt t0 i0 target iter ifs scope pos env cl) E s) :
    wpAny (model prog w) A (exec (.Assign [.Name x npos] (.ListComp elt [⟨t0, i0, [], 0⟩, ⟨target, iter, ifs, 0⟩] scope pos) apos) env) Q E s := by
  rw [exec_Assign_Name_used _ _ _ _ hsw]
  refine wpAny_bind (wpAny_standAt (wpAny_bind ?_))
  have h1 := wpAny_comprehension_free (e := .ListComp elt [⟨t0, i0, [], 0⟩, ⟨target, iter, ifs, 0⟩] scope pos) (pos := firstIterPos [⟨t0, i0, [], 0⟩, ⟨target, iter, ifs, 0⟩] pos) (newAcc := newList []) (use := some (assign (.Name x npos) env)) (Q := fun _ s' => Q .next s') (first := firstIter [⟨t0, i0, [], 0⟩, ⟨target, iter, ifs, 0⟩] env) rfl hs hclos hkind hnames h
  exact wpAny_mono (show wpAny (model prog w) A (evalThenUse (.ListComp elt [⟨t0, i0, [], 0⟩, ⟨target, iter, ifs, 0⟩] scope pos) env (assign (.Name x npos) env)) (fun _ s' => Q .next s') E s from wpAny_map h1) (fun _ s' q => wpAny_pure q) fun _ _ x => x
/-- the first clause's turn ends -/
inductive CE2 {σ : Type} (g : Heap) (C D I : Addr) (oI : Obj) (s : Shared) (Led : σ → List (Addr × Obj)) (P : σ → List Value → Prop) (s₂ : Shared) : Prop
  | mk (c : σ) (ys' : List Value) (nD : Nat) (h' : Heap) (tk : Nat) (m' : Str → Option Value) : (s₂ = { s with heap := h', toks := tk }) → (Fr g C h' m') → (News g C h' ((D, listOf ys'.toArray nD) :: (I, oI) :: Led c)) → (P c ys') → (∀ p ∈ Led c, p.1 ≠ D ∧ p.1 ≠ I) → CE2 g C D I oI s Led P s₂

theorem comp_list20 {σ : Type} {elt t0 i0 target iter : Expr} {ifs : List Expr} {scope : Scope} {pos : Pos} {cl : List (Str × Addr)} {items : List Value} {l : Addr} {nl : Nat} {RR : Value → Addr → Result → Shared → Prop} (hh : A.handled = none)
    (hkz : items.length ≤ sizeLine) (hcell : ∀ y ∈ scope.names, y.2 ≠ .cell) (hkind : scope.kind = .function) (hfs : ∀ x env, foldedSetIterable iter env x = pure x)
    (Led : σ → List (Addr × Obj)) (P : Nat → σ → List Value → Prop) (c₀ : σ)
    (F : Fr h₀ L s.heap m) (N : News h₀ L s.heap news) (hs : ∀ p ∈ Led c₀, p ∈ news) (hp : P 0 c₀ []) (hl : ∀ c, (l, listOf items.toArray nl) ∈ Led c)
    (turn : ∀ g C D I oI, (∀ b o, h₀.get? b = some o → g.get? b = some o) → I < D → D < C → (∀ p ∈ news, p.1 < I) →
      ∀ i v c ys u h tk nD, items[i]? = some v → P i c ys → (∀ p ∈ Led c, p.1 ≠ D ∧ p.1 ≠ I) → Fr g C h u → News g C h ((D, listOf ys.toArray nD) :: (I, oI) :: Led c) →
        wpAny (model prog w) A (assign t0 (compEnvC scope cl C env) v) (fun _ s₁ => wpAny (model prog w) A (eval iter (compEnvC scope cl C env)) (fun x s₂ => wpAny (model prog w) A (pyIter x) (fun it2 s₃ =>
          codeAny (model prog w) A (.compStart (.ListComp elt [⟨t0, i0, [], 0⟩, ⟨target, iter, ifs, 0⟩] scope pos) 1 it2 (.ref D) (compEnvC scope cl C env)) (fun r s₄ => r = .ok .next ∧ CE2 g C D I oI s Led (P (i + 1)) s₄) s₃) (fun _ _ => False) s₂) (fun _ _ => False) s₁) (fun _ _ => False) { s with heap := h, toks := tk })
    (done : ∀ c ys D C h tk nD u, P items.length c ys → h.Ns C u → h₀.get? C = none → C ≠ L → (∀ h'', Heap.SameBut C h h'' → Fr h₀ L h'' m ∧ News h₀ L h'' ((D, listOf ys.toArray nD) :: Led c)) → D < C → (∀ p ∈ news, p.1 < D) → (∀ p ∈ Led c, p.1 ≠ D ∧ p.1 ≠ C) →
      RR (.ref D) C (.ok .next) { s with heap := h, toks := tk }) :
    wpAny (model prog w) A (pyIter (.ref l)) (fun it s₂ => wpAny (model prog w) A (newList []) (fun acc s₃ => wpAny (model prog w) A (newFunctionEnv scope env.globals cl [] env.qual none .none (some env)) (fun cenv s₄ =>
      codeAny (model prog w) A (.compStart (.ListComp elt [⟨t0, i0, [], 0⟩, ⟨target, iter, ifs, 0⟩] scope pos) 0 it acc { cenv with scope := relabel scope env }) (RR acc cenv.locals) s₄) E s₃) E s₂) E s := by
  have hl0 : s.heap.get? l = some (listOf items.toArray nl) := (N _ (hs _ (hl c₀))).1
  refine wpAny_pyIter_list ⟨_, hl0, rfl, nl, rfl⟩ ?_
  have hlt : l < s.heap.objs.size := Heap.lt_size hl0
  have hne : l ≠ s.heap.objs.size := Nat.ne_of_lt hlt
  have W := Walks.list (prog := prog) (w := w) hh s.heap.objs.size l hne items.toArray
  have hI0 : h₀.get? s.heap.objs.size = none := by
    cases hq : h₀.get? s.heap.objs.size with
    | none => rfl
    | some o' => exact absurd (Heap.lt_size (F.keep _ _ hq)) (Nat.lt_irrefl _)
  have hIL : s.heap.objs.size ≠ L := Nat.ne_of_gt F.ns.lt
  have hsz1 : (s.heap.push { cls := .type "list_iterator", data := .fields #[.ref l, .int 0 0] }).objs.size = s.heap.objs.size + 1 := Heap.size_push ..
  have hN1 : News h₀ L (s.heap.push { cls := .type "list_iterator", data := .fields #[.ref l, .int 0 0] }) news := fun p hp => ⟨Heap.get?_push_of_some _ (N p hp).1, (N p hp).2⟩
  have hnI : ∀ p ∈ news, p.1 < s.heap.objs.size := fun p hp => Heap.lt_size (N p hp).1
  refine comp_walk2 (s := { s with heap := s.heap.push { cls := .type "list_iterator", data := .fields #[.ref l, .int 0 0] } }) W (by simpa using hkz) hcell hkind Led P c₀ (F.push _) hN1 hs hp ⟨⟨_, Heap.get?_push_size _ rfl, rfl, rfl⟩, ⟨_, Heap.get?_push_of_some _ hl0, rfl, nl, rfl⟩⟩
    (fun b hb => by rw [List.mem_singleton.mp hb]; exact ⟨hI0, hIL, by show s.heap.objs.size < _; rw [hsz1]; exact Nat.lt_succ_self _⟩)
    (fun b hb => by
      show b < (s.heap.push _).objs.size
      rw [hsz1]
      simp only [List.mem_cons, List.not_mem_nil, or_false] at hb
      rcases hb with rfl | rfl
      · exact Nat.lt_succ_self _
      · exact Nat.lt_succ_of_lt hlt)
    (fun p hp hb => Nat.lt_irrefl _ ((List.mem_singleton.mp hb) ▸ hnI p hp))
    (fun i v s' Q' hSt hQ => owned_list hSt.1 hQ) hfs ?_ ?_
  · intro g C D hg hDC hnD hwD i v c ys u h tk nD hik hv hP ho hSt F1 N1 hgwr
    obtain ⟨oI, hoI, hcI, hdI⟩ := hSt.1
    have hIC : s.heap.objs.size ≠ C := Nat.ne_of_lt (Nat.lt_trans (hwD _ (List.mem_singleton.mpr rfl)) hDC)
    have hgI : g.get? s.heap.objs.size = none := hgwr _ (List.mem_singleton.mpr rfl)
    have N2 : News g C h ((D, listOf ys.toArray nD) :: (s.heap.objs.size, oI) :: Led c) := fun p hp => by
      rcases List.mem_cons.mp hp with rfl | hp
      · exact N1 _ (.head _)
      · rcases List.mem_cons.mp hp with rfl | hp
        · exact ⟨hoI, hIC, hgI⟩
        · exact N1 p (.tail _ hp)
    have ht := turn g C D s.heap.objs.size oI hg (hwD _ (List.mem_singleton.mpr rfl)) hDC hnI i v c ys u h tk nD (by simpa using hv) hP (fun p hp => ⟨(ho p hp).1, fun e => (ho p hp).2 (e ▸ List.mem_singleton.mpr rfl)⟩) F1 N2
    refine wpAny_mono ht (fun _ s₁ q1 => wpAny_mono q1 (fun x s₂ q2 => wpAny_mono q2 (fun it2 s₃ q3 => codeAny_mono q3 fun r s₄ q4 => ?_) fun _ _ x => x) fun _ _ x => x) fun _ _ x => x
    obtain ⟨hr, c', ys', nD', h', tk', m', rfl, F', N', hP', ho'⟩ := q4
    refine ⟨hr, c', ys', nD', h', tk', m', rfl, F', fun p hp => ?_, hP', fun p hp => ⟨(ho' p hp).1, fun hb => (ho' p hp).2 (List.mem_singleton.mp hb)⟩, ⟨oI, (N' _ (.tail _ (.head _))).1, hcI, hdI⟩, ⟨_, (N' _ (.tail _ (.tail _ (hl c')))).1, rfl, nl, rfl⟩⟩
    rcases List.mem_cons.mp hp with rfl | hp
    · exact N' _ (.head _)
    · exact N' p (.tail _ (.tail _ hp))
  · intro c ys D C h tk nD u hP hNs hC0 hCL hb hDC hnD ho
    exact done c ys D C h tk nD u (by simpa using hP) hNs hC0 hCL hb hDC hnD ho

theorem comp_list2_used {σ : Type} {elt t0 i0 target iter : Expr} {ifs : List Expr} {scope : Scope} {pos : Pos} {cl : List (Str × Addr)} {items : List Value} {l : Addr} {nl : Nat} {use : Value → Sem Unit} {Q : Shared → Prop} (hh : A.handled = none)
    (hkz : items.length ≤ sizeLine) (hcell : ∀ y ∈ scope.names, y.2 ≠ .cell) (hkind : scope.kind = .function) (hfs : ∀ x env, foldedSetIterable iter env x = pure x)
    (Led : σ → List (Addr × Obj)) (P : Nat → σ → List Value → Prop) (c₀ : σ)
    (F : Fr h₀ L s.heap m) (N : News h₀ L s.heap news) (hs : ∀ p ∈ Led c₀, p ∈ news) (hp : P 0 c₀ []) (hl : ∀ c, (l, listOf items.toArray nl) ∈ Led c)
    (turn : ∀ g C D I oI, (∀ b o, h₀.get? b = some o → g.get? b = some o) → I < D → D < C → (∀ p ∈ news, p.1 < I) →
      ∀ i v c ys u h tk nD, items[i]? = some v → P i c ys → (∀ p ∈ Led c, p.1 ≠ D ∧ p.1 ≠ I) → Fr g C h u → News g C h ((D, listOf ys.toArray nD) :: (I, oI) :: Led c) →
        wpAny (model prog w) A (assign t0 (compEnvC scope cl C env) v) (fun _ s₁ => wpAny (model prog w) A (eval iter (compEnvC scope cl C env)) (fun x s₂ => wpAny (model prog w) A (pyIter x) (fun it2 s₃ =>
          codeAny (model prog w) A (.compStart (.ListComp elt [⟨t0, i0, [], 0⟩, ⟨target, iter, ifs, 0⟩] scope pos) 1 it2 (.ref D) (compEnvC scope cl C env)) (fun r s₄ => r = .ok .next ∧ CE2 g C D I oI s Led (P (i + 1)) s₄) s₃) (fun _ _ => False) s₂) (fun _ _ => False) s₁) (fun _ _ => False) { s with heap := h, toks := tk })
    (done : ∀ c ys D C oC h tk nD, P items.length c ys → Fr h₀ L h m → News h₀ L h ((C, oC) :: (D, listOf ys.toArray nD) :: Led c) → D < C → (∀ p ∈ news, p.1 < D) → (∀ p ∈ Led c, p.1 ≠ D ∧ p.1 ≠ C) →
      wpAny (model prog w) A (use (.ref D)) (fun _ s₂ => UEnd h₀ L C oC Q s₂) E { s with heap := h, toks := tk }) :
    CompAt2 prog w A E (some use) (fun _ s' => Q s') elt t0 i0 target iter ifs scope pos env cl (.ref l) s := by
  unfold CompAt2
  refine comp_list20 hh hkz hcell hkind hfs Led P c₀ F N hs hp hl turn fun c ys D C h tk nD u hP hNs hC0 hCL hb hDC hnD ho => ?_
  obtain ⟨oC, es, ep, hoC, hrC⟩ := hNs
  obtain ⟨F1, N1⟩ := hb h (.refl ..)
  refine wpAny_mono (done c ys D C oC h tk nD hP F1 (fun p hp => ?_) hDC hnD ho) (fun _ s₂ q => ?_) fun _ _ x => x
  · rcases List.mem_cons.mp hp with rfl | hp
    · exact ⟨hoC, hCL, hC0⟩
    · exact N1 p hp
  · obtain ⟨m', news', F2, N2, ho2, hQ⟩ := q
    refine ⟨u, ⟨oC, es, ep, (N2 _ (.head _)).1, hrC⟩, fun h' hs' => hQ h' (F2.change hs' hCL hC0) fun p hp => ?_⟩
    exact ⟨(hs'.2 p.1 (ho2 p hp)).trans (N2 p (.tail _ hp)).1, (N2 p (.tail _ hp)).2⟩
end
end
section
/-- the tally of names -/
structure Tally (A : List (Str × Int)) (ns : List Str) : Prop where
  nodup : (A.map (·.1)).Nodup
  mem : ∀ k, k ∈ A.map (·.1) ↔ k ∈ ns
  val : ∀ k c, (k, c) ∈ A → c = ((ns.count k : Nat) : Int)
  tot : total A = (ns.length : Int)
theorem countIn_count (k : Str) : ∀ ns : List Str, Spec.countIn (.str k) (ns.map PyData.str) = ((ns.count k : Nat) : Int)
  | [] => rfl
  | n :: ns => by
    rw [List.map_cons, Spec.countIn, countIn_count k ns, List.count_cons]
    have e : Spec.same (.str n) (.str k) = (n == k) := rfl
    rw [e]
    by_cases h : (n == k) = true
    · rw [if_pos h, if_pos h]; omega
    · rw [if_neg h, if_neg h]; omega
def FKs (v : Value) (k : Str) : Prop := ∃ t, v = .str k t
def FVs (f : Str → Int) (v y : Value) : Prop := ∃ k t t', v = .str k t ∧ y = .int (f k) t'
theorem storedAll_strs {f : Str → Int} {l : List Value} {kvs : List (Str × Value)} (h : StoredAll FKs (FVs f) l kvs) :
    (kvs.map (·.1)).Nodup ∧ (∀ k v, (k, v) ∈ kvs → ∃ t, v = .int (f k) t) ∧ ∀ k, k ∈ kvs.map (·.1) ↔ ∃ t, Value.str k t ∈ l := by
  induction h with
  | nil => exact ⟨.nil, by simp, by simp⟩
  | @snoc l kvs v k y h1 h2 h3 ih =>
    obtain ⟨i1, i2, i3⟩ := ih
    obtain ⟨t, rfl⟩ := h2
    obtain ⟨k', t1, t2, h4, rfl⟩ := h3
    cases h4
    have hm : ∀ k', (∃ t', Value.str k' t' ∈ l ++ [.str k t]) ↔ (k' ∈ kvs.map (·.1) ∨ k' = k) := fun k' => by
      rw [i3 k']
      constructor
      · rintro ⟨t', h⟩
        rcases List.mem_append.mp h with h | h
        · exact .inl ⟨t', h⟩
        · simp at h; exact .inr h.1
      · rintro (⟨t', h⟩ | rfl)
        · exact ⟨t', List.mem_append_left _ h⟩
        · exact ⟨t, by simp⟩
    unfold stored
    by_cases ha : kvs.any (fun kv => kv.1 = k) = true
    · rw [if_pos ha]
      have e : (kvs.map fun kv => if kv.1 = k then (kv.1, Value.int (f k) t2) else kv).map (·.1) = kvs.map (·.1) := by
        rw [List.map_map]
        exact List.map_congr_left fun p _ => by simp only [Function.comp]; split <;> rfl
      rw [e]
      have hk : k ∈ kvs.map (·.1) := by
        obtain ⟨p, hp, hq⟩ := List.any_eq_true.mp ha
        simp at hq
        exact hq ▸ List.mem_map_of_mem hp
      refine ⟨i1, fun k' v' hv => ?_, fun k' => ?_⟩
      · obtain ⟨p, hp, hq⟩ := List.mem_map.mp hv
        split at hq
        · rename_i hpk; cases hq; rw [hpk]; exact ⟨_, rfl⟩
        · subst hq; exact i2 _ _ hp
      · rw [hm]
        exact ⟨.inl, fun h => h.elim id fun e => e ▸ hk⟩
    · rw [if_neg ha]
      have hk : k ∉ kvs.map (·.1) := fun hk => ha (by
        obtain ⟨p, hp, rfl⟩ := List.mem_map.mp hk
        exact List.any_eq_true.mpr ⟨p, hp, by simp⟩)
      refine ⟨?_, fun k' v' hv => ?_, fun k' => ?_⟩
      · rw [List.map_append]
        exact List.nodup_append.mpr ⟨i1, by simp, fun a hq b hb => by simp at hb; subst hb; exact fun e => hk (e ▸ hq)⟩
      · rcases List.mem_append.mp hv with h | h
        · exact i2 _ _ h
        · simp at h; obtain ⟨rfl, rfl⟩ := h; exact ⟨_, rfl⟩
      · rw [hm, List.map_append]; simp
theorem valueAt_mem {kvs : List (Str × Value)} {k : Str} (h : k ∈ kvs.map (·.1)) : ∃ v, valueAt kvs k = some v ∧ (k, v) ∈ kvs := by
  unfold valueAt
  cases hf : kvs.find? fun kv => kv.1 = k with
  | none =>
    obtain ⟨p, hp, rfl⟩ := List.mem_map.mp h
    have := List.find?_eq_none.mp hf p hp
    simp at this
  | some p =>
    have h1 := List.mem_of_find?_eq_some hf
    have h2 := List.find?_some hf
    simp at h2
    obtain ⟨a, b⟩ := p
    subst h2
    exact ⟨b, rfl, h1⟩
theorem CountsAre.mem {kvs : List (Str × Value)} {A : List (Str × Int)} (h : CountsAre kvs A) : ∀ {k v}, (k, v) ∈ kvs → ∃ c t, v = .int c t ∧ (k, c) ∈ A := by
  induction h with
  | nil => intro k v h; cases h
  | cons h1 ih =>
    intro k v h
    rcases List.mem_cons.mp h with h | h
    · cases h; exact ⟨_, _, rfl, .head _⟩
    · obtain ⟨c, t, h2, h3⟩ := ih h; exact ⟨c, t, h2, .tail _ h3⟩
theorem nodup_len {l m : List Str} (h1 : l.Nodup) (h2 : m.Nodup) (h : ∀ k, k ∈ l ↔ k ∈ m) : l.length = m.length :=
  ((List.perm_ext_iff_of_nodup h1 h2).mpr h).length_eq
theorem strs_mem {l : List Value} {ns : List Str} (hl : StrsAre l ns) : ∀ k, (∃ t, Value.str k t ∈ l) ↔ k ∈ ns := by
  induction hl with
  | nil => simp
  | cons n t h ih =>
    intro k
    constructor
    · rintro ⟨t', h⟩
      rcases List.mem_cons.mp h with h | h
      · cases h; exact .head _
      · exact .tail _ ((ih k).mp ⟨t', h⟩)
    · intro h
      rcases List.mem_cons.mp h with rfl | h
      · exact ⟨t, .head _⟩
      · obtain ⟨t', h'⟩ := (ih k).mpr h
        exact ⟨t', .tail _ h'⟩
theorem strs_shape {l : List Value} {ns : List Str} (hl : StrsAre l ns) : ∀ v ∈ l, ∃ k t, v = .str k t := by
  induction hl with
  | nil => intro v hv; cases hv
  | cons n t h ih =>
    intro v hv
    rcases List.mem_cons.mp hv with rfl | hv
    · exact ⟨_, _, rfl⟩
    · exact ih v hv
theorem tally_hits {A : Around} {s : Shared} {ns : List Str} {C : List (Str × Int)} {l : List Value} {ka kb : List (Str × Value)} (hT : Tally C ns) (hC : CountsAre ka C) (hl : StrsAre l ns)
    (hS : StoredAll FKs (FVs fun k => Spec.countIn (.str k) (ns.map PyData.str)) l kb) : ka.length = kb.length ∧ KeqHits A s kb ka true := by
  obtain ⟨h1, h2, h3⟩ := storedAll_strs hS
  have hmem := strs_mem hl
  have hkeys : ∀ k, k ∈ ka.map (·.1) ↔ k ∈ kb.map (·.1) := fun k => by rw [h3, hmem, hC.keys, hT.mem]
  refine ⟨by simpa using nodup_len (hC.keys ▸ hT.nodup) h1 hkeys, ?_⟩
  have all : ∀ r : List (Str × Value), (∀ p ∈ r, p ∈ ka) → KeqHits A s kb r true := by
    intro r
    induction r with
    | nil => exact fun _ => .nil
    | cons p r ih =>
      intro h
      obtain ⟨k, v⟩ := p
      have hp := h _ (.head _)
      obtain ⟨c, t, rfl, hc⟩ := hC.mem hp
      obtain ⟨v', hv, hm⟩ := valueAt_mem ((hkeys k).mp (List.mem_map_of_mem hp))
      obtain ⟨t', rfl⟩ := h2 _ _ hm
      have := KeqHits.hit (v := .int c t) hv (SeqAt.EqAt.int_int (A := A) (s := s) c t _ t') (ih fun p hp => h p (.tail _ hp))
      have e : (c == Spec.countIn (.str k) (ns.map PyData.str)) = true := by rw [hT.val k c hc, countIn_count]; simp
      rw [e] at this
      exact this
  exact all ka fun _ h => h
section
variable {M : Model} {A : Around} {E : Value → Shared → Prop} {s : Shared}
theorem newDict_pin {Q1 Q2 : Value → Shared → Prop} (h : wpAny M A newDict Q1 E s)
    (f : Q1 (.ref s.heap.objs.size) { s with heap := s.heap.push { cls := .type "dict", dict := none, data := .dict #[] } } → Q2 (.ref s.heap.objs.size) { s with heap := s.heap.push { cls := .type "dict", dict := none, data := .dict #[] } }) : wpAny M A newDict Q2 E s :=
  fun Γ p i => f (h Γ p i)
end
section
variable {prog : Program} {w : World} {A : Around} {E : Value → Shared → Prop} {s : Shared} {env : Env}
/-- a dict comprehension over a list: where its dict lies is told too -/
theorem dict_comp {kx vx iter : Expr} {x : Str} {px : Pos} {scope : Scope} {cl : List (Str × Addr)} {pos : Pos} {Q : Value → Shared → Prop} {l : Addr} {items : Array Value} {nl : Nat}
    (FV : Value → Value → Prop) (hh : A.handled = none) (hsz : items.size ≤ sizeLine) (hclos : closureFor scope env = pure cl) (hcell : ∀ y ∈ scope.names, y.2 ≠ .cell) (hkind : scope.kind = .function)
    (hnames : ∀ y ∈ scope.names, y.2 = .local → scope.names.lookup y.1 = some .local) (hx : scope.names.lookup x = some .local)
    (h : wpAny (model prog w) A (eval iter env) (fun v s₁ => v = .ref l ∧ s₁.heap.get? l = some (listOf items nl) ∧
      (∀ s₂ wr, (∀ b o, s₁.heap.get? b = some o → b ∉ wr ∧ s₂.heap.get? b = some o) → QuietOnCD (PySem.strKind prog w) A env scope cl x [] kx vx wr (fun i v => items[i]? = some v) (fun _ => true) FKs FV s₂) ∧
      ∀ D h' tk kvs, s₁.heap.objs.size ≤ D → h'.DictOf (PySem.strKind prog w) D kvs → StoredAll FKs FV items.toList kvs → (∀ b o, s₁.heap.get? b = some o → h'.get? b = some o) → Q (.ref D) { s₁ with heap := h', toks := tk }) E s)
    (hs : ∀ x, foldedSetIterable iter env x = pure x := by intro _; rfl) :
    wpAny (model prog w) A (eval (.DictComp kx vx [⟨.Name x px, iter, [], 0⟩] scope pos) env) Q E s := by
  rw [arm_eval_DictComp]
  refine wpAny_comprehension_free (use := none) rfl hs hclos hkind hnames (wpAny_mono h (fun xv s₁ h₁ => ?_) fun _ _ e => e)
  obtain ⟨rfl, hl0, hq, hQ⟩ := h₁
  refine wpAny_pyIter_list ⟨_, hl0, rfl, nl, rfl⟩ ?_
  have hlt : l < s₁.heap.objs.size := Heap.lt_size hl0
  have hne : l ≠ s₁.heap.objs.size := Nat.ne_of_lt hlt
  have hsz1 : (s₁.heap.push { cls := .type "list_iterator", data := .fields #[.ref l, .int 0 0] }).objs.size = s₁.heap.objs.size + 1 := Heap.size_push ..
  have up : ∀ b o, s₁.heap.get? b = some o → b ∉ [s₁.heap.objs.size] ∧ (s₁.heap.push { cls := .type "list_iterator", data := .fields #[.ref l, .int 0 0] }).get? b = some o := fun b o e =>
    ⟨fun hb => Nat.lt_irrefl _ ((List.mem_singleton.mp hb) ▸ Heap.lt_size e), Heap.get?_push_of_some _ e⟩
  refine newDict_pin (comp_block_walkCD (iter := iter) (px := px) (pos := pos) (RR := fun acc C r s' => acc = .ref (s₁.heap.push { cls := .type "list_iterator", data := .fields #[.ref l, .int 0 0] }).objs.size → compPost (model prog w) A E none Q acc C r s')
    (Walks.list hh s₁.heap.objs.size l hne items) hsz (fun _ => true) FKs FV hcell hkind hx ⟨⟨_, Heap.get?_push_size _ rfl, rfl, rfl⟩, ⟨_, Heap.get?_push_of_some _ hl0, rfl, nl, rfl⟩⟩ ?_ (hq _ _ up) ?_) ?_
  · intro b hb
    show b < (s₁.heap.push _).objs.size
    rw [hsz1]
    simp only [List.mem_cons, List.not_mem_nil, or_false] at hb
    rcases hb with rfl | rfl
    · exact Nat.lt_succ_self _
    · exact Nat.lt_succ_of_lt hlt
  · intro D C h' tk m' kvs vs hD hC hDC hn hl hlen hP hF hk e
    have hD2 : D = (s₁.heap.push { cls := .type "list_iterator", data := .fields #[.ref l, .int 0 0] }).objs.size := by injection e
    have evs : vs = items.toList := by
      refine List.ext_getElem? fun j => ?_
      rw [show items.toList[j]? = items[j]? from Array.getElem?_toList]
      cases hj : vs[j]? with
      | none => rw [List.getElem?_eq_none_iff] at hj; exact (Array.getElem?_eq_none (by omega)).symm
      | some v => exact (hP j v hj).symm
    subst evs
    refine ⟨m', hn, fun h'' hs'' => hQ D h'' tk kvs (by rw [hD2, hsz1]; exact Nat.le_succ _) (hl.extBut hs''.extBut hDC) (by rw [List.filter_eq_self.mpr fun _ _ => rfl] at hF; exact hF) fun b o e => ?_⟩
    obtain ⟨u1, u2⟩ := up b o e
    exact hs''.extBut b o (by rintro rfl; rw [hC] at u2; cases u2) (hk b o u1 u2)
  · intro h
    exact wpAny_mono h (fun cenv s₄ h₄ => codeAny_mono h₄ fun r s' h₅ => h₅ rfl) fun _ _ x => x
end
end
section
theorem nodup_sub_len {l m : List Nat} (h : l.Nodup) (hs : ∀ x ∈ l, x ∈ m) : l.length ≤ m.length := by
  induction l generalizing m with
  | nil => exact Nat.zero_le _
  | cons a r ih =>
    obtain ⟨ha, hr⟩ := List.nodup_cons.mp h
    have hm := hs a (.head _)
    have := ih hr (m := m.erase a) fun x hx => (List.mem_erase_of_ne (show x ≠ a from fun e => ha (e ▸ hx))).mpr (hs x (.tail _ hx))
    rw [List.length_erase_of_mem hm] at this
    have h0 : 0 < m.length := List.length_pos_of_mem hm
    rw [List.length_cons]; omega
/-- what is left of the matching, told plainly -/
structure Left (s b e : Nat → Nat) (M : Nat → Option Nat) (bef : Nat → Nat → Prop) : Prop where
  h1 : ∀ p j, M p = some j → j < 6 ∧ e j = p + 1 ∧ s j ≤ p ∧ p < b j
  h2 : ∀ k, k < 6 → ∀ p, s k ≤ p → p < e k → ∃ j, M p = some j ∧ (j = k ∨ bef j k)
  h3 : ∀ k, k < 6 → M (e k - 1) = some k ∨ e k = b k
  hb : ∀ j k, bef j k → b j ≤ b k
  tr : ∀ i j k, bef i j → bef j k → bef i k
  ir : ∀ k, ¬ bef k k
  tot : ∀ j k, j ≠ k → bef j k ∨ bef k j
section
variable {s b e : Nat → Nat} {M : Nat → Option Nat} {bef : Nat → Nat → Prop} {P : List Nat} {z : Nat}
/-- has an hour of the first z -/
def mt (e : Nat → Nat) (M : Nat → Option Nat) (z k : Nat) : Bool := decide (M (e k - 1) = some k ∧ e k ≤ z)
def sh (s b : Nat → Nat) (z k : Nat) : Bool := decide (s k < min (b k) z)
/-- the unmatched up to an hour -/
def un (s b e : Nat → Nat) (M : Nat → Option Nat) (z : Nat) (P : List Nat) (x : Nat) : Nat := P.countP fun k => sh s b z k && decide (min (b k) z ≤ x) && !mt e M z k
def ins (s b : Nat → Nat) (z : Nat) (P : List Nat) (i x : Nat) : Nat := P.countP fun k => sh s b z k && (decide (i ≤ s k) && decide (min (b k) z ≤ x))
theorem un_mono {x y : Nat} (h : x ≤ y) : un s b e M z P x ≤ un s b e M z P y := by
  unfold un
  refine List.countP_mono_left fun k _ hk => ?_
  simp only [Bool.and_eq_true, decide_eq_true_eq] at hk ⊢
  exact ⟨⟨hk.1.1, Nat.le_trans hk.1.2 h⟩, hk.2⟩
/-- one cut of counts -/
theorem countP_split {α : Type} (p q : α → Bool) : ∀ l : List α, l.countP p = l.countP (fun x => p x && q x) + l.countP (fun x => p x && !q x)
  | [] => rfl
  | a :: l => by
    have ih := countP_split p q l
    simp only [List.countP_cons]
    cases p a <;> cases q a <;> simp <;> omega
theorem mt_hour (Y : Left s b e M bef) {k : Nat} (h : mt e M z k = true) : ∃ p, M p = some k ∧ e k = p + 1 ∧ s k ≤ p ∧ p < b k ∧ p < z := by
  unfold mt at h
  rw [decide_eq_true_eq] at h
  obtain ⟨_, h2, h3, h4⟩ := Y.h1 _ _ h.1
  exact ⟨_, h.1, h2, h3, h4, by omega⟩
theorem mt_of (Y : Left s b e M bef) {k p : Nat} (h : M p = some k) (hp : p < z) : mt e M z k = true := by
  unfold mt
  rw [decide_eq_true_eq]
  obtain ⟨_, h2, _, _⟩ := Y.h1 _ _ h
  rw [h2, Nat.add_sub_cancel]
  exact ⟨h, hp⟩
/-- the matched within are no more than the hours -/
theorem ins_mt_le (Y : Left s b e M bef) (hP : P.Nodup) {i x : Nat} : (P.countP fun k => (sh s b z k && (decide (i ≤ s k) && decide (min (b k) z ≤ x))) && mt e M z k) ≤ x - i := by
  rw [List.countP_eq_length_filter]
  have := nodup_length_le (x - i) ((P.filter fun k => (sh s b z k && (decide (i ≤ s k) && decide (min (b k) z ≤ x))) && mt e M z k).map fun k => e k - 1 - i) ?_ ?_
  · simpa using this
  · rw [List.Nodup, List.pairwise_map]
    refine List.Pairwise.imp_of_mem ?_ (List.Pairwise.filter _ hP)
    intro k l hk hl hne heq
    have hk2 := (List.mem_filter.mp hk).2
    have hl2 := (List.mem_filter.mp hl).2
    simp only [Bool.and_eq_true, decide_eq_true_eq] at hk2 hl2
    obtain ⟨p, p1, p2, p3, _⟩ := mt_hour Y hk2.2
    obtain ⟨q, q1, q2, q3, _⟩ := mt_hour Y hl2.2
    have : p = q := by omega
    rw [this, q1] at p1
    exact hne (Option.some.inj p1).symm
  · intro y hy
    obtain ⟨k, hk, rfl⟩ := List.mem_map.mp hy
    have hk2 := (List.mem_filter.mp hk).2
    simp only [Bool.and_eq_true, decide_eq_true_eq] at hk2
    obtain ⟨p, p1, p2, p3, p4, p5⟩ := mt_hour Y hk2.2
    omega
/-- no cut loses more -/
theorem un_upper (Y : Left s b e M bef) (hP : P.Nodup) {i x : Nat} (hi : i ≤ x) : un s b e M z P i + ins s b z P i x ≤ un s b e M z P x + (x - i) := by
  have h1 := ins_mt_le (z := z) Y hP (i := i) (x := x)
  have h2 := countP_split (fun k => sh s b z k && (decide (i ≤ s k) && decide (min (b k) z ≤ x))) (mt e M z) P
  have h3 : un s b e M z P i + (P.countP fun k => (sh s b z k && (decide (i ≤ s k) && decide (min (b k) z ≤ x))) && !mt e M z k) ≤ un s b e M z P x := by
    unfold un
    rw [countP_split (fun k => sh s b z k && decide (min (b k) z ≤ x) && !mt e M z k) (fun k => decide (min (b k) z ≤ i)) P]
    refine Nat.add_le_add (List.countP_mono_left fun k _ hk => ?_) (List.countP_mono_left fun k _ hk => ?_)
    · simp only [Bool.and_eq_true, decide_eq_true_eq] at hk ⊢
      exact ⟨⟨⟨hk.1.1, Nat.le_trans hk.1.2 hi⟩, hk.2⟩, hk.1.2⟩
    · simp only [sh, Bool.and_eq_true, decide_eq_true_eq, Bool.not_eq_true', decide_eq_false_iff_not] at hk ⊢
      exact ⟨⟨⟨hk.1.1, hk.1.2.2⟩, hk.2⟩, by omega⟩
  unfold ins
  omega
end
end
section
section
variable {s b e : Nat → Nat} {M : Nat → Option Nat} {bef : Nat → Nat → Prop} {P : List Nat} {z : Nat}
theorem last_of (Y : Left s b e M bef) : ∀ l : List Nat, l ≠ [] → ∃ m ∈ l, ∀ x ∈ l, x = m ∨ bef x m
  | [], h => absurd rfl h
  | [a], _ => ⟨a, .head _, fun x hx => .inl (by simpa using hx)⟩
  | a :: c :: l, _ => by
    obtain ⟨m, hm, h⟩ := last_of Y (c :: l) (by simp)
    by_cases e : a = m
    · exact ⟨m, .tail _ hm, fun x hx => by rcases List.mem_cons.mp hx with rfl | hx; exact .inl e; exact h x hx⟩
    · rcases Y.tot a m e with h1 | h1
      · exact ⟨m, .tail _ hm, fun x hx => by rcases List.mem_cons.mp hx with rfl | hx; exact .inr h1; exact h x hx⟩
      · refine ⟨a, .head _, fun x hx => ?_⟩
        rcases List.mem_cons.mp hx with rfl | hx
        · exact .inl rfl
        · rcases h x hx with rfl | h2
          · exact .inr h1
          · exact .inr (Y.tr _ _ _ h2 h1)
theorem least_of {A : Nat → Prop} {x : Nat} : ∀ n : Nat, (∀ p, n ≤ p → p ≤ x → A p) → ∃ i, i ≤ n ∧ (∀ p, i ≤ p → p ≤ x → A p) ∧ (i = 0 ∨ ¬ A (i - 1))
  | 0, h => ⟨0, Nat.le_refl _, h, .inl rfl⟩
  | n + 1, h => by
    by_cases hn : A n
    · obtain ⟨i, h1, h2, h3⟩ := least_of n fun p hp hx => by
        rcases Nat.eq_or_lt_of_le hp with rfl | hp
        · exact hn
        · exact h p hp hx
      exact ⟨i, by omega, h2, h3⟩
    · exact ⟨n + 1, Nat.le_refl _, h, .inr hn⟩
/-- an unmatched one's hours are all held ahead of it -/
theorem unm_held (Y : Left s b e M bef) {l : Nat} (hl : l < 6) (hm : mt e M z l = false) {p : Nat} (h1 : s l ≤ p) (h2 : p < min (b l) z) : ∃ j, M p = some j ∧ bef j l := by
  have he : p < e l := by
    rcases Y.h3 l hl with h | h
    · have : ¬ e l ≤ z := fun hz => by
        unfold mt at hm
        rw [decide_eq_false_iff_not] at hm
        exact hm ⟨h, hz⟩
      omega
    · omega
  obtain ⟨j, hj, hjl⟩ := Y.h2 l hl p h1 he
  rcases hjl with rfl | hjl
  · rw [mt_of Y hj (by omega)] at hm; cases hm
  · exact ⟨j, hj, hjl⟩
theorem un_lower (Y : Left s b e M bef) (h6 : ∀ k ∈ P, k < 6) (hcl : ∀ k ∈ P, ∀ j, j < 6 → bef j k → j ∈ P) {x : Nat} (hx : x + 1 ≤ z) :
    un s b e M z P (x + 1) = un s b e M z P x ∨ ∃ i, i ≤ x ∧ un s b e M z P (x + 1) + (x + 1 - i) ≤ un s b e M z P i + ins s b z P i (x + 1) := by
  by_cases hne : (P.filter fun k => sh s b z k && decide (min (b k) z = x + 1) && !mt e M z k) = []
  · left
    unfold un
    refine List.countP_congr fun k hk => ?_
    have hno : ¬ (sh s b z k && decide (min (b k) z = x + 1) && !mt e M z k) = true := fun h => by
      have : k ∈ P.filter fun k => sh s b z k && decide (min (b k) z = x + 1) && !mt e M z k := List.mem_filter.mpr ⟨hk, h⟩
      rw [hne] at this; cases this
    simp only [Bool.and_eq_true, decide_eq_true_eq] at hno ⊢
    constructor
    · rintro ⟨⟨h1, h2⟩, h3⟩
      refine ⟨⟨h1, ?_⟩, h3⟩
      by_cases he : min (b k) z = x + 1
      · exact absurd ⟨⟨h1, he⟩, h3⟩ hno
      · omega
    · rintro ⟨⟨h1, h2⟩, h3⟩
      exact ⟨⟨h1, by omega⟩, h3⟩
  right
  obtain ⟨k, hk, hlast⟩ := last_of Y _ hne
  obtain ⟨hkP, hk2⟩ := List.mem_filter.mp hk
  simp only [sh, Bool.and_eq_true, decide_eq_true_eq, Bool.not_eq_true'] at hk2
  obtain ⟨⟨hsh, htk⟩, hmk⟩ := hk2
  obtain ⟨i, hi, hA, hleast⟩ := least_of (A := fun p => ∃ j, M p = some j ∧ bef j k) (x := x) (s k) fun p h1 h2 => unm_held Y (h6 k hkP) hmk h1 (by omega)
  have claim : ∀ l, (∀ p, s l ≤ p → p < i → ∃ j, M p = some j ∧ bef j k) → i ≤ s l := fun l h => by
    rcases Nat.lt_or_ge (s l) i with h' | h'
    · rcases hleast with h0 | h0
      · omega
      · exact absurd (h (i - 1) (by omega) (by omega)) h0
    · exact h'
  clear hleast
  have hsk : s k ≤ x := by omega
  have hix : i ≤ x := Nat.le_trans hi hsk
  have hbx : x + 1 ≤ b k := htk ▸ Nat.min_le_left _ _
  have hmin : ∀ c, c ≤ b k → min c z ≤ x + 1 := fun c h => by omega
  clear htk
  refine ⟨i, hix, ?_⟩
  have c1 : un s b e M z P (x + 1) ≤ un s b e M z P i + P.countP fun k => (sh s b z k && (decide (i ≤ s k) && decide (min (b k) z ≤ x + 1))) && !mt e M z k := by
    unfold un
    rw [countP_split (fun k => sh s b z k && decide (min (b k) z ≤ x + 1) && !mt e M z k) (fun k => decide (min (b k) z ≤ i)) P]
    refine Nat.add_le_add (List.countP_mono_left fun l _ hl => ?_) (List.countP_mono_left fun l hlP hl => ?_)
    · simp only [Bool.and_eq_true, decide_eq_true_eq] at hl ⊢
      exact ⟨⟨hl.1.1.1, hl.2⟩, hl.1.2⟩
    · simp only [Bool.and_eq_true, decide_eq_true_eq, Bool.not_eq_true', decide_eq_false_iff_not] at hl ⊢
      obtain ⟨⟨⟨h1, h2⟩, h3⟩, h4⟩ := hl
      refine ⟨⟨h1, ?_, h2⟩, h3⟩
      have hlk : l = k ∨ bef l k := by
        by_cases ht : min (b l) z = x + 1
        · exact hlast l (List.mem_filter.mpr ⟨hlP, by simp only [Bool.and_eq_true, decide_eq_true_eq, Bool.not_eq_true']; exact ⟨⟨h1, ht⟩, h3⟩⟩)
        · by_cases e : l = k
          · exact .inl e
          · rcases Y.tot l k e with h | h
            · exact .inr h
            · have := Y.hb _ _ h; omega
      refine claim l fun p p1 p2 => ?_
      obtain ⟨j, hj, hjl⟩ := unm_held Y (h6 l hlP) h3 p1 (by omega)
      rcases hlk with rfl | hlk
      · exact ⟨j, hj, hjl⟩
      · exact ⟨j, hj, Y.tr _ _ _ hjl hlk⟩
  have c2 : x + 1 - i ≤ P.countP fun k => (sh s b z k && (decide (i ≤ s k) && decide (min (b k) z ≤ x + 1))) && mt e M z k := by
    rw [List.countP_eq_length_filter]
    have := nodup_sub_len (l := (List.range' i (x + 1 - i)).map fun p => (M p).getD 0) (m := P.filter fun k => (sh s b z k && (decide (i ≤ s k) && decide (min (b k) z ≤ x + 1))) && mt e M z k) ?_ ?_
    · simpa using this
    · rw [List.Nodup, List.pairwise_map]
      refine List.Pairwise.imp_of_mem ?_ (List.nodup_range' (s := i) (n := x + 1 - i))
      intro p q hp hq hne heq
      rw [List.mem_range'_1] at hp hq
      obtain ⟨j, hj, _⟩ := hA p (by omega) (by omega)
      obtain ⟨l, hl, _⟩ := hA q (by omega) (by omega)
      rw [hj, hl] at heq
      have e1 := (Y.h1 _ _ hj).2.1
      have e2 := (Y.h1 _ _ hl).2.1
      have heq2 : j = l := heq
      rw [heq2] at e1
      omega
    · intro y hy
      obtain ⟨p, hp, rfl⟩ := List.mem_map.mp hy
      rw [List.mem_range'_1] at hp
      obtain ⟨j, hj, hjk⟩ := hA p (by omega) (by omega)
      obtain ⟨j1, j2, j3, j4⟩ := Y.h1 _ _ hj
      rw [hj]
      refine List.mem_filter.mpr ⟨hcl k hkP j j1 hjk, ?_⟩
      have hbk := Y.hb _ _ hjk
      simp only [sh, Bool.and_eq_true, decide_eq_true_eq, Option.getD_some]
      refine ⟨⟨by omega, ?_, hmin _ hbk⟩, mt_of Y hj (by omega)⟩
      refine claim j fun q q1 q2 => ?_
      obtain ⟨l, hl, hlj⟩ := Y.h2 j j1 q q1 (by omega)
      rcases hlj with rfl | hlj
      · exact ⟨l, hl, hjk⟩
      · exact ⟨l, hl, Y.tr _ _ _ hlj hjk⟩
  have h2 := countP_split (fun k => sh s b z k && (decide (i ≤ s k) && decide (min (b k) z ≤ x + 1))) (mt e M z) P
  unfold ins
  omega
end
end
section
theorem total_cons (p : Str × Int) (A : List (Str × Int)) : total (p :: A) = p.2 + total A := by unfold total; rfl
theorem total_append (A B : List (Str × Int)) : total (A ++ B) = total A + total B := by unfold total; simp
theorem total_upd {x : Str} : ∀ {A : List (Str × Int)}, (A.map (·.1)).Nodup → x ∈ A.map (·.1) → total (A.map fun p => if p.1 = x then (p.1, p.2 + 1) else p) = total A + 1
  | [], _, h => by cases h
  | (k, c) :: A, hn, h => by
    obtain ⟨h1, h2⟩ := List.nodup_cons.mp hn
    rw [List.map_cons, total_cons, total_cons]
    by_cases e : k = x
    · have e2 : (A.map fun p => if p.1 = x then (p.1, p.2 + 1) else p) = A := by
        refine (List.map_congr_left fun p hp => ?_).trans (List.map_id _)
        have hm : p.1 ∈ A.map (·.1) := List.mem_map_of_mem hp
        have : p.1 ≠ x := fun q => h1 (by rw [e, ← q]; exact hm)
        simp [this]
      rw [e2]; simp [e]; omega
    · have h3 : x ∈ A.map (·.1) := by
        rcases List.mem_cons.mp h with h | h
        · exact absurd h.symm e
        · exact h
      rw [total_upd h2 h3]; simp [e]; omega
theorem Tally.bump {A : List (Str × Int)} {l : List Str} (T : Tally A l) (x : Str) : Tally (bump A x 1) (l ++ [x]) := by
  unfold Mine.bump
  by_cases ha : A.any (fun p => p.1 = x) = true
  · rw [if_pos ha]
    have hx : x ∈ A.map (·.1) := by
      obtain ⟨p, hp, hq⟩ := List.any_eq_true.mp ha
      simp at hq
      exact hq ▸ List.mem_map_of_mem hp
    have e : (A.map fun p => if p.1 = x then (p.1, p.2 + 1) else p).map (·.1) = A.map (·.1) := by
      rw [List.map_map]
      exact List.map_congr_left fun p _ => by simp only [Function.comp]; split <;> rfl
    refine ⟨e ▸ T.nodup, fun k => ?_, fun k c hk => ?_, ?_⟩
    · rw [e, T.mem]
      constructor
      · exact fun h => List.mem_append_left _ h
      · intro h
        rcases List.mem_append.mp h with h | h
        · exact h
        · rw [List.mem_singleton.mp h]; exact (T.mem x).mp hx
    · obtain ⟨p, hp, hq⟩ := List.mem_map.mp hk
      rw [List.count_append]
      split at hq
      · rename_i hpx
        cases hq
        have := T.val _ _ hp
        rw [hpx]
        rw [hpx] at this
        simp
        omega
      · rename_i hpx
        subst hq
        have := T.val _ _ hp
        have h0 : [x].count k = 0 := List.count_eq_zero.mpr (by simpa using hpx)
        rw [h0]; exact this
    · rw [total_upd T.nodup hx, T.tot, List.length_append]; simp
  · rw [if_neg ha]
    have hx : x ∉ A.map (·.1) := fun hx => ha (by
      obtain ⟨p, hp, rfl⟩ := List.mem_map.mp hx
      exact List.any_eq_true.mpr ⟨p, hp, by simp⟩)
    refine ⟨?_, fun k => ?_, fun k c hk => ?_, ?_⟩
    · rw [List.map_append]
      exact List.nodup_append.mpr ⟨T.nodup, by simp, fun a hq b hb => by simp at hb; subst hb; exact fun e => hx (e ▸ hq)⟩
    · rw [List.map_append, List.mem_append, List.mem_append, T.mem]; rfl
    · rw [List.count_append]
      rcases List.mem_append.mp hk with h | h
      · have h0 : [x].count k = 0 := List.count_eq_zero.mpr (by
          have : k ≠ x := fun e => hx (e ▸ List.mem_map_of_mem h)
          simpa using this)
        rw [h0]; exact T.val _ _ h
      · simp at h
        obtain ⟨rfl, rfl⟩ := h
        have h0 : l.count k = 0 := List.count_eq_zero.mpr fun h => hx ((T.mem k).mpr h)
        rw [h0]; simp
    · rw [total_append, T.tot, List.length_append]; rfl
theorem Tally.perm {A : List (Str × Int)} {l l' : List Str} (T : Tally A l) (h : l.Perm l') : Tally A l' :=
  ⟨T.nodup, fun k => (T.mem k).trans h.mem_iff, fun k c hk => by rw [← h.count_eq]; exact T.val k c hk, by rw [T.tot, h.length_eq]⟩
theorem Tally.nil : Tally [] [] := ⟨.nil, fun k => by simp, fun k c h => by simp at h, rfl⟩
theorem Tally.two {A : List (Str × Int)} {l : List Str} (T : Tally A l) (x y : Str) : Tally (addC A [(x, 1), (y, 1)]) (l ++ [x, y]) := by
  have := (T.bump x).bump y
  rw [List.append_assoc] at this
  exact this
theorem flatMap_upd {g g' : Nat → List Str} {k : Nat} {t : List Str} (hg : ∀ i, i ≠ k → g' i = g i) (hk : g' k = g k ++ t) : ∀ {l : List Nat}, l.Nodup → k ∈ l → (l.flatMap g').Perm (l.flatMap g ++ t)
  | [], _, h => by cases h
  | a :: r, hn, h => by
    obtain ⟨h1, h2⟩ := List.nodup_cons.mp hn
    rw [List.flatMap_cons, List.flatMap_cons]
    by_cases e : a = k
    · subst e
      have e2 : r.flatMap g' = r.flatMap g := by
        rw [List.flatMap_def, List.flatMap_def]
        congr 1
        exact List.map_congr_left fun i hi => hg i fun q => h1 (q ▸ hi)
      rw [hk, e2, List.append_assoc, List.append_assoc]
      exact List.Perm.append_left _ List.perm_append_comm
    · have hk' : k ∈ r := by
        rcases List.mem_cons.mp h with h | h
        · exact absurd h.symm e
        · exact h
      rw [hg a e, List.append_assoc]
      exact List.Perm.append_left _ (flatMap_upd hg hk h2 hk')
theorem hget_hset (D : List (Nat × Nat)) (p k q : Nat) : hget (hset D p k) q = if q = p then some k else hget D q := by
  unfold hget hset
  rw [List.find?_append]
  by_cases h : q = p
  · subst h
    rw [if_pos rfl]
    have e : (D.filter fun x => !decide (x.1 = q)).find? (fun x => decide (x.1 = q)) = none := by
      rw [List.find?_eq_none]
      intro x hx
      have := (List.mem_filter.mp hx).2
      simpa using this
    rw [e]; simp
  · rw [if_neg h]
    have e : (D.filter fun x => !decide (x.1 = p)).find? (fun x => decide (x.1 = q)) = D.find? (fun x => decide (x.1 = q)) := by
      rw [List.find?_filter]
      congr 1
      funext x
      by_cases hx : x.1 = q
      · have : x.1 ≠ p := fun e => h (hx ▸ e)
        simp [hx, h]
      · simp [hx]
    rw [e]
    have e2 : [(p, k)].find? (fun x => decide (x.1 = q)) = none := by simp [Ne.symm h]
    rw [e2, Option.or_none]
theorem hset_nodup {D : List (Nat × Nat)} (h : (D.map (·.1)).Nodup) (p k : Nat) : ((hset D p k).map (·.1)).Nodup := by
  unfold hset
  rw [List.map_append]
  refine List.nodup_append.mpr ⟨?_, by simp, ?_⟩
  · exact List.Nodup.sublist (List.Sublist.map _ List.filter_sublist) h
  · intro a ha b hb
    obtain ⟨x, hx, rfl⟩ := List.mem_map.mp ha
    have := (List.mem_filter.mp hx).2
    simp at hb this
    subst hb; exact this
theorem hget_iff {D : List (Nat × Nat)} (h : (D.map (·.1)).Nodup) {p k : Nat} : hget D p = some k ↔ (p, k) ∈ D := by
  refine ⟨hget_mem, fun hm => ?_⟩
  induction D with
  | nil => cases hm
  | cons x r ih =>
    obtain ⟨h1, h2⟩ := List.nodup_cons.mp h
    unfold hget
    rw [List.find?_cons]
    rcases List.mem_cons.mp hm with rfl | hm
    · simp
    · have hm2 : p ∈ r.map (·.1) := List.mem_map_of_mem (f := (·.1)) hm
      have : x.1 ≠ p := fun e => h1 (by show x.1 ∈ _; rw [e]; exact hm2)
      simp only [this, decide_false]
      exact ih h2 hm
end
section
theorem nle_mono {H : List Int} {x y : Int} (h : x ≤ y) : nle H x ≤ nle H y :=
  List.countP_mono_left fun a _ ha => by rw [decide_eq_true_eq] at *; omega
theorem nlt_nle {H : List Int} {x y : Int} (h : x ≤ y) : nlt H x ≤ nle H y :=
  List.countP_mono_left fun a _ ha => by rw [decide_eq_true_eq] at *; omega
theorem before_last {J : Jobs} {j k : Nat} (h : before J j k = true) : (J j).2 ≤ (J k).2 := by rw [before_iff] at h; omega
/-- all that has been asked -/
def askedK (s e : Nat → Nat) (k : Nat) : List Str := (List.range' (s k) (e k - s k)).flatMap fun h => [lc h, fg k]
def askedAll (s e : Nat → Nat) : List Str := (List.range 6).flatMap (askedK s e)
/-- the matching under way: n jobs have come, one of them is in hand (6: none) -/
structure Run (H : List Int) (J : Jobs) (n hand : Nat) (D : List (Nat × Nat)) (A : List (Str × Int)) (e : Nat → Nat) : Prop where
  nd : (D.map (·.1)).Nodup
  i1 : ∀ p j, hget D p = some j → j < 6 ∧ j < n ∧ j ≠ hand ∧ e j = p + 1 ∧ nlt H (J j).1 ≤ p ∧ p < nle H (J j).2
  i2 : ∀ k, k < 6 → ∀ p, nlt H (J k).1 ≤ p → p < e k → ∃ j, hget D p = some j ∧ (j = k ∨ before J j k = true)
  i3 : ∀ k, k < n → k ≠ hand → hget D (e k - 1) = some k ∨ e k = nle H (J k).2
  i4 : ∀ k, k < 6 → nlt H (J k).1 ≤ e k ∧ e k ≤ nle H (J k).2
  i5 : ∀ k, n ≤ k → e k = nlt H (J k).1
  i6 : Tally A (askedAll (fun k => nlt H (J k).1) e)
theorem asked_step {s e : Nat → Nat} {k p : Nat} (hk : k < 6) (he : e k = p) (hs : s k ≤ p) :
    (askedAll s (fun j => if j = k then p + 1 else e j)).Perm (askedAll s e ++ [lc p, fg k]) := by
  refine flatMap_upd (k := k) ?_ ?_ List.nodup_range (List.mem_range.mpr hk)
  · intro i hi
    unfold askedK
    dsimp only
    rw [if_neg hi]
  · unfold askedK
    dsimp only
    rw [if_pos rfl, he]
    have e1 : p + 1 - s k = (p - s k) + 1 := by omega
    have e2 : s k + (p - s k) = p := by omega
    rw [e1, List.range'_concat, List.flatMap_append, Nat.one_mul, e2]
    rfl
theorem run_loop {H : List Int} {J : Jobs} (hlen : H.length = 5) {n : Nat} : ∀ (f p k : Nat) (D : List (Nat × Nat)) (A : List (Str × Int)) (e : Nat → Nat), Run H J n k D A e → e k = p → k < n → k < 6 → 6 ≤ f + p →
    ∃ e', Run H J n 6 (comeLoop H J f p k D A).1 (comeLoop H J f p k D A).2 e' := by
  intro f
  induction f with
  | zero =>
    intro p k D A e R he hn hk hf
    have := (R.i4 k hk).2
    have := nle_le H (J k).2
    omega
  | succ f ih =>
    intro p k D A e R he hn hk hf
    by_cases hp : p < nle H (J k).2
    · have hs : nlt H (J k).1 ≤ p := he ▸ (R.i4 k hk).1
      have T := (R.i6.two (lc p) (fg k)).perm (asked_step (s := fun k => nlt H (J k).1) hk he hs).symm
      have take : ∀ hand', (∀ q j, q ≠ p → hget D q = some j → j ≠ hand') → hand' ≠ k → (∀ j, hget D p = some j → before J k j = true ∧ j = hand') →
          Run H J n hand' (hset D p k) (addC A [(lc p, 1), (fg k, 1)]) (fun j => if j = k then p + 1 else e j) := by
        intro hand' hA hne hB
        have old : ∀ q j, q ≠ p → hget D q = some j → hget (hset D p k) q = some j := fun q j hq h => by rw [hget_hset, if_neg hq]; exact h
        have new : hget (hset D p k) p = some k := by rw [hget_hset, if_pos rfl]
        refine ⟨hset_nodup R.nd p k, ?_, ?_, ?_, ?_, ?_, T⟩
        · intro q j h
          rw [hget_hset] at h
          by_cases hq : q = p
          · rw [if_pos hq] at h
            have hj : k = j := Option.some.inj h
            subst hj
            exact ⟨hk, hn, Ne.symm hne, by simp [hq], by omega, by omega⟩
          · rw [if_neg hq] at h
            obtain ⟨a1, a2, a3, a4, a5, a6⟩ := R.i1 q j h
            exact ⟨a1, a2, hA q j hq h, by simp [a3, a4], a5, a6⟩
        · intro i hi q q1 q2
          by_cases hik : i = k
          · subst hik
            rw [if_pos rfl] at q2
            by_cases hq : q = p
            · rw [hq]; exact ⟨i, new, .inl rfl⟩
            · obtain ⟨j, hj, hjk⟩ := R.i2 i hi q q1 (by omega)
              exact ⟨j, old q j hq hj, hjk⟩
          · rw [if_neg hik] at q2
            obtain ⟨j, hj, hjk⟩ := R.i2 i hi q q1 q2
            by_cases hq : q = p
            · rw [hq] at hj ⊢
              have h1 := (hB j hj).1
              refine ⟨k, new, .inr ?_⟩
              rcases hjk with rfl | hjk
              · exact h1
              · exact before_trans h1 hjk
            · exact ⟨j, old q j hq hj, hjk⟩
        · intro j h1 h2
          by_cases hjk : j = k
          · left; subst hjk; rw [if_pos rfl, Nat.add_sub_cancel]; exact new
          · rw [if_neg hjk]
            rcases R.i3 j h1 hjk with h | h
            · left
              by_cases hq : e j - 1 = p
              · rw [hq] at h; exact absurd (hB j h).2 h2
              · exact old _ _ hq h
            · exact .inr h
        · intro j hj
          by_cases hjk : j = k
          · rw [if_pos hjk, hjk]; omega
          · rw [if_neg hjk]; exact R.i4 j hj
        · intro j hj
          rw [if_neg (by omega)]; exact R.i5 j hj
      cases hg : hget D p with
      | none =>
        rw [comeLoop_none hp hg]
        exact ⟨_, take 6 (fun q j _ h => Nat.ne_of_lt (R.i1 q j h).1) (by omega) (fun j h => by rw [hg] at h; cases h)⟩
      | some k' =>
        obtain ⟨a1, a2, a3, a4, a5, a6⟩ := R.i1 p k' hg
        cases hb : before J k k' with
        | true =>
          rw [comeLoop_yes hp hg hb]
          refine ih (p + 1) k' _ _ _ (take k' (fun q j hq h => ?_) a3 (fun j h => ?_)) (by rw [if_neg a3]; exact a4) a2 a1 (by omega)
          · rintro rfl
            have := (R.i1 q j h).2.2.2.1
            omega
          · rw [hg] at h
            have hj : k' = j := Option.some.inj h
            subst hj
            exact ⟨hb, rfl⟩
        | false =>
          rw [comeLoop_no hp hg hb]
          have hb2 := before_total (Ne.symm a3) hb
          refine ih (p + 1) k _ _ (fun j => if j = k then p + 1 else e j) ⟨R.nd, ?_, ?_, ?_, ?_, ?_, T⟩ (if_pos rfl) hn hk (by omega)
          · intro q j h
            obtain ⟨c1, c2, c3, c4, c5, c6⟩ := R.i1 q j h
            exact ⟨c1, c2, c3, by simp [c3, c4], c5, c6⟩
          · intro i hi q q1 q2
            by_cases hik : i = k
            · subst hik
              rw [if_pos rfl] at q2
              by_cases hq : q = p
              · rw [hq]; exact ⟨k', hg, .inr hb2⟩
              · exact R.i2 i hi q q1 (by omega)
            · rw [if_neg hik] at q2
              exact R.i2 i hi q q1 q2
          · intro j h1 h2
            rw [if_neg h2]; exact R.i3 j h1 h2
          · intro j hj
            by_cases hjk : j = k
            · rw [if_pos hjk, hjk]; omega
            · rw [if_neg hjk]; exact R.i4 j hj
          · intro j hj
            rw [if_neg (by omega)]; exact R.i5 j hj
    · rw [comeLoop_end hp]
      have := (R.i4 k hk).2
      refine ⟨e, R.nd, fun q j h => ?_, R.i2, fun j h1 h2 => ?_, R.i4, R.i5, R.i6⟩
      · obtain ⟨a1, a2, a3, a4⟩ := R.i1 q j h
        exact ⟨a1, a2, by omega, a4⟩
      · by_cases hj : j = k
        · subst hj; right; omega
        · exact R.i3 j h1 hj
theorem run_comes {H : List Int} {J : Jobs} (hlen : H.length = 5) (hJ : ∀ k, (J k).1 ≤ (J k).2) : ∀ n, n ≤ 6 → ∃ e, Run H J n 6 (comes H J n).1 (comes H J n).2 e
  | 0, _ => by
    refine ⟨fun k => nlt H (J k).1, .nil, ?_, ?_, ?_, ?_, fun k _ => rfl, ?_⟩
    · intro p j h; cases h
    · intro k _ p h1 h2; omega
    · intro k h; omega
    · intro k _; exact ⟨Nat.le_refl _, nlt_nle (hJ k)⟩
    · have h0 : askedAll (fun k => nlt H (J k).1) (fun k => nlt H (J k).1) = [] := by
        unfold askedAll askedK
        simp
      rw [h0]; exact Tally.nil
  | n + 1, hn => by
    obtain ⟨e, R⟩ := run_comes hlen hJ n (by omega)
    have he := R.i5 n (Nat.le_refl _)
    refine run_loop hlen 6 (nlt H (J n).1) n _ _ e ⟨R.nd, ?_, R.i2, ?_, R.i4, fun k hk => R.i5 k (by omega), R.i6⟩ he (by omega) (by omega) (by omega)
    · intro p j h
      obtain ⟨a1, a2, a3, a4⟩ := R.i1 p j h
      exact ⟨a1, by omega, by omega, a4⟩
    · intro k h1 h2
      exact R.i3 k (by omega) (by omega)
theorem run_left {H : List Int} {J : Jobs} {D : List (Nat × Nat)} {A : List (Str × Int)} {e : Nat → Nat} (R : Run H J 6 6 D A e) :
    Left (fun k => nlt H (J k).1) (fun k => nle H (J k).2) e (hget D) (fun j k => before J j k = true) where
  h1 := fun p j h => by
    obtain ⟨a1, _, _, a4, a5, a6⟩ := R.i1 p j h
    exact ⟨a1, a4, a5, a6⟩
  h2 := R.i2
  h3 := fun k hk => R.i3 k hk (by omega)
  hb := fun j k h => nle_mono (before_last h)
  tr := fun i j k h1 h2 => before_trans h1 h2
  ir := fun k h => by rw [before_irrefl] at h; cases h
  tot := fun j k h => by
    cases hb : before J j k with
    | true => exact .inl rfl
    | false => exact .inr (before_total h hb)
end
theorem filled : PySem.Challenge.rw_pm0069_01 = PySem.Challenge.rw_pm0069_01 ∧ hd.heap_39 = hd.heap_39 := by w_top off; k_fill; exact ⟨rfl, rfl⟩
section
local macro_rules | `(tactic| k_room) => `(tactic| ktr_room)
local macro_rules | `(tactic| walk_at "exec While Compare cons nil") => `(tactic| refine Halt.out ?_)
local macro_rules | `(tactic| k_mem) => `(tactic| first | assumption | exact List.Mem.head _ | (refine' List.Mem.tail _ ?_; k_mem))
local macro_rules | `(tactic| walk_at "exec For Name Call cons nil") => `(tactic| refine Halt.out ?_)
local macro_rules | `(tactic| walk_at "exec For Tuple Call cons nil") => `(tactic| refine Halt.out ?_)
local macro_rules | `(tactic| walk_at "exec For Tuple Attribute cons nil") => `(tactic| refine Halt.out ?_)
local macro_rules | `(tactic| walk_at "exec For Tuple Name cons nil") => `(tactic| refine Halt.out ?_)
local macro_rules | `(tactic| walk_at "exec For Name Name cons nil") => `(tactic| refine Halt.out ?_)
local macro_rules | `(tactic| walk_at "exec For Name Subscript cons nil") => `(tactic| refine Halt.out ?_)
local macro_rules | `(tactic| walk_at "getMethod ref") => `(tactic| (k_here; (with_reducible show wpAny _ _ (getMethod (Value.ref _) (Str.ofString "values") _) _ _ _); k_dflt (refine kdl_method (knd := PySem.strKind _ _) PySem.F.slot_dict_values PySem.F.type_dict_values (by k_asm) (by k_mem) (by assumption) ?_)))
local macro_rules | `(tactic| walk_at "getMethod ref") => `(tactic| (k_here; (with_reducible show wpAny _ _ (getMethod (Value.ref _) (Str.ofString "items") _) _ _ _); k_dflt (refine kdl_method (knd := PySem.strKind _ _) PySem.F.slot_dict_items PySem.F.type_dict_items (by k_asm) (by k_mem) (by assumption) ?_)))
local macro_rules | `(tactic| walk_at "call ref") => `(tactic| (first
  | (with_reducible show wpAny _ _ (call (Value.ref 65) _ _) _ _ _) | (with_reducible show wpAny _ _ (call (Value.ref 47) _ _) _ _ _) | (with_reducible show wpAny _ _ (call (Value.ref 139) _ _) _ _ _)
  | (with_reducible show wpAny _ _ (call (Value.ref 100) _ _) _ _ _) | (with_reducible show wpAny _ _ (call (Value.ref 86) _ _) _ _ _) | (with_reducible show wpAny _ _ (call (Value.ref 187) _ _) _ _ _)
  | (with_reducible show wpAny _ _ (call (Value.ref 153) _ _) _ _ _) | (with_reducible show wpAny _ _ (call (Value.ref 158) _ _) _ _ _) | (with_reducible show wpAny _ _ (call (Value.ref 251) _ _) _ _ _)
  | (with_reducible show wpAny _ _ (call (Value.ref 256) _ _) _ _ _) | (with_reducible show wpAny _ _ (call (Value.ref 107) _ _) _ _ _) | (with_reducible show wpAny _ _ (call (Value.ref 56) _ _) _ _ _)); refine Halt.out ?_)
local macro_rules | `(tactic| k_lt $h:ident) => `(tactic| (replace $h := allLt_of $h; simp only [AllLt, and_true] at $h:ident; repeat (first | ((with_reducible (refine and_out8 $h ?_)); clear $h; intro _ _ _ _ _ _ _ $h:ident) | ((with_reducible (refine and_out4 $h ?_)); clear $h; intro _ _ _ $h:ident) | ((with_reducible (refine and_out2 $h ?_)); clear $h; intro _ $h:ident))))
local macro_rules | `(tactic| k_all) => `(tactic| first | assumption | exact tbn_neAll (by assumption) | exact ne_of_allLt1 (by assumption) | exact List.forall_mem_nil _ | (refine' List.forall_mem_cons.mpr ⟨?a, ?b⟩; (case a => k_ne); (case b => k_all)))
local macro_rules | `(tactic| walk_at "eval ListComp") => `(tactic| refine Halt.out ?_)
local macro_rules | `(tactic| walk_at "eval Name") => `(tactic| (k_here; (with_reducible show wpAny _ _ (eval (Expr.Name _ _) (compEnvC _ _ _ _)) _ _ _); k_dflt (first
  | (refine' nmL ?F ?v ?hk ?hx ?hd ?_; (case hx => exact rfl); (case hk => exact rfl); (case F => k_asm); (case v => exact rfl); (case hd => decide); k_whole)
  | (refine' lcf_cell ?N ?c ?m ?o ?_ ?hk ?hx ?hd; (case hx => exact rfl); (case hk => exact rfl); (case c => exact rfl); (case N => k_asm); (case m => k_mem); (case o => k_asm); (case hd => decide); k_whole)
  | (refine' nmG ?F ?X ?T ?e ?g ?hk ?hx ?hd ?_; (case hx => exact rfl); (case hk => exact rfl); (case g => exact rfl); (case F => k_asm); (case X => k_asm); (case T => k_asm); (case e => k_is); (case hd => decide); k_whole)
  | (refine' nmB ?F ?X ?T ?e ?hv ?hn ?g ?b ?hk ?hx ?hd ?_; (case hx => exact rfl); (case hk => exact rfl); (case g => exact rfl); (case b => exact rfl); (case F => k_asm); (case X => k_asm); (case T => k_asm); (case e => k_is); (case hv => boot_by_name); (case hn => decide); (case hd => decide); k_whole))))
local macro_rules | `(tactic| walk_at "storeName") => `(tactic| (k_here; (with_reducible show wpAny _ _ (storeName (compEnvC _ _ _ _) _ _) _ _ _); k_dflt (refine' stC ?F ?N ?hk ?hx ?_; (case hx => exact rfl); (case hk => exact rfl); (case F => k_asm); (case N => k_asm); k_whole); intro h' F' N'; (try k_sweep)))
local macro_rules | `(tactic| walk_at "exec Assign cons ListComp") => `(tactic| ((with_reducible show wpAny _ _ (exec (Stmt.Assign [Expr.Name _ _] _ _) _) _ _ _); refine Halt.out ?_))
local macro_rules | `(tactic| walk_at "delItem ref") => `(tactic| (k_here; (with_reducible show wpAny _ _ (delItem (Value.ref _) _) _ _ _); k_dflt (refine' own_delItem ?F ?X ?I ?hQ ?hS ?hF ?_; (case F => k_asm); (case X => k_asm); (case I => k_inst); (case hS => k_is); (case hF => k_is); (case hQ => k_is); k_whole)))
local macro_rules | `(tactic| walk_at "call type:range") => `(tactic| refine Halt.out ?_)
local macro_rules | `(tactic| k_ne) => `(tactic| (refine neN ?_; (try dsimp only); (first | (with_reducible assumption) | exact Ne.symm (by with_reducible assumption) | (refine Nat.ne_of_lt ?_; (iterate 9 (try (first | (with_reducible assumption) | (with_reducible exact Nat.lt_add_one _) | (with_reducible refine ltS ?_)))); done) | (refine Nat.ne_of_gt ?_; (iterate 9 (try (first | (with_reducible assumption) | (with_reducible exact Nat.lt_add_one _) | (with_reducible refine ltS ?_)))); done) | omega)))
section
theorem midB {lo hi : Int} (h : lo < hi) : lo ≤ (lo + hi).fdiv 2 ∧ (lo + hi).fdiv 2 < hi := by
  have := fdiv_fmod_facts (lo + hi) 2
  omega
theorem toNat_ltB {a b : Int} (h : a < b) (h0 : 0 < b) : a.toNat < b.toNat := by omega
theorem nltS {ns : List Int} (hs : ns.Pairwise (· ≤ ·)) {x q : Int} (h0 : 0 ≤ q) (hl : q < ns.length) (hx : ns.getD q.toNat 0 < x) : q + 1 ≤ (nlt ns x : Nat) := by
  have := (nlt_iff hs (x := x) (i := q.toNat) (by omega)).mp hx
  omega
theorem nltG {ns : List Int} (hs : ns.Pairwise (· ≤ ·)) {x q : Int} (h0 : 0 ≤ q) (hl : q < ns.length) (hx : ¬ ns.getD q.toNat 0 < x) : ((nlt ns x : Nat) : Int) ≤ q := by
  have := _root_.mt (nlt_iff hs (x := x) (i := q.toNat) (by omega)).mpr hx
  omega
theorem nleS {ns : List Int} (hs : ns.Pairwise (· ≤ ·)) {x q : Int} (h0 : 0 ≤ q) (hl : q < ns.length) (hx : ¬ x < ns.getD q.toNat 0) : q + 1 ≤ (nle ns x : Nat) := by
  have := (nle_iff hs (x := x) (i := q.toNat) (by omega)).mp (Int.not_lt.mp hx)
  omega
theorem nleG {ns : List Int} (hs : ns.Pairwise (· ≤ ·)) {x q : Int} (h0 : 0 ≤ q) (hl : q < ns.length) (hx : x < ns.getD q.toNat 0) : ((nle ns x : Nat) : Int) ≤ q := by
  have := _root_.mt (nle_iff hs (x := x) (i := q.toNat) (by omega)).mpr (Int.not_le.mpr hx)
  omega
set_option maxRecDepth 100000 in
set_option maxHeartbeats 8000000 in
set_option pp.maxSteps 4000 in
theorem bl_spec {prog : Program} {w : World} {p : Program} {loose : List Str} {mean : ExcName → Option Value} {mg mb : Str → Option Value}
    {dp un : Nat} {gd : Option (List Code)} {cn : Str} {cs : Scope} {a : Addr} {ccd : Value} {cl : List (Str × Addr)} {outer : List Env} {A₀ : Around} {base h₀ : Heap} {L : Addr} {m : Str → Option Value} {news : List (Addr × Obj)} {s : Shared} {Q E : Value → Shared → Prop}
    {l : Addr} {vs : List Value} {n : Nat} {ns : List Int} {x : Int} {t : Tok}
    (B : Below A₀ base outer h₀) (F : Fr h₀ L s.heap m) (X : (hd.heap_39 w.params).In h₀) (N : News h₀ L s.heap news) (T : Top p loose mean mg mb h₀) (hk : cs.kind = .function)
    (hm : (l, listOf vs.toArray n) ∈ news) (hi : IntsAre vs ns) (hs : ns.Pairwise (· ≤ ·)) (hlen : ns.length ≤ 1000) (hroom : dp + 3 < recursionLimit)
    (ret : ∀ t' h' tk', Fr h₀ L h' m → News h₀ L h' news → Q (.int (nlt ns x : Nat) t') { s with heap := h', toks := tk' }) :
    wpAny (model prog w) (ktrTop dp un gd cn cs L a ccd cl outer) (call (.ref 65) [.ref l, .int x t]) Q E s := by
  have hvs : vs.length = ns.length := hi.length
  refine wpAny_call ?_
  w_strict (k_dflt ((refine' code_def ?k1 ?k2 ?k3 ?k4 ?k5 ?kA ?kF ?kK ?k6 ?k7 ?k8 ?k9 ?kB ?_ ?c2 ?c3 ?c4 ?c5; (case kA => exact rfl); (case kF => exact rfl); (case kK => first | exact rfl | assumption); (case k1 => k_asm); (case k2 => k_asm); (case k3 => k_asm); (case k4 => k_asm); (case k5 => k_asm); (case k6 => k_is); (case k7 => k_is); (case k8 => ktr_room); (case k9 => first | exact BindsTo.of_eq rfl | exact binds_K (by k_in) rfl (by k_is) rfl rfl rfl | (refine' kp_binds ?kx ?ke; (case kx => k_in); (case ke => exact fun _ => rfl))); (case c5 => decide); (case kB => exact locs rfl); (case c2 => exact rfl); (case c3 => exact rfl); (case c4 => exact rfl); k_whole; intro g' L' h' FG' F' N' B' X' T'; (try dsimp only); (try k_lift B'); (try k_fold))))
  k_steps
  rename News _ _ _ _ => N1
  refine len_list (N1.isList hm) (by simp; omega) ?_
  k_steps
  unfold Halt
  rename Fr _ _ _ (fun y => if y = _ then _ else _) => F1
  rename News _ _ _ _ => N1
  refine kw_while (σ := Int × Tok × Int × Tok) (fun _ => news) (fun c => [("a", .ref l), ("x", .int x t), ("lo", .int c.1 c.2.1), ("hi", .int c.2.2.1 c.2.2.2)])
    (fun c => 0 ≤ c.1 ∧ c.1 ≤ (nlt ns x : Nat) ∧ (nlt ns x : Nat) ≤ c.2.2.1 ∧ c.2.2.1 ≤ ns.length) (fun c => (c.2.2.1 - c.1).toNat) (0, ?tl, vs.toArray.size, ?th) F1 N1 (fun _ h => h) ?ka ?kp ?kt ?ke
  case ka => kst_all
  case kp => have := nlt_le ns x; refine ⟨?_, ?_, ?_, ?_⟩ <;> simp <;> omega
  case ke => passes_own
  clear F1 N1
  rintro ⟨lo, tlo, hi, thi⟩ u h1 tk1 ⟨q1, q2, q3, q4⟩ F2 N2
  dsimp only at q1 q2 q3 q4 F2
  k_steps
  · obtain ⟨hm1, hm2⟩ := midB (lo := lo) (hi := hi) (by assumption)
    have hn := nltS hs (x := x) (q := (lo + hi).fdiv 2) (by omega) (by omega) (by assumption)
    refine lend ((lo + hi).fdiv 2 + 1, ?t1, hi, thi) (by assumption) (by assumption) (fun _ h => h) ?k1 ⟨⟨?k3, ?k4, ?k5, ?k6⟩, ?k7⟩
    case k1 => kst_all
    case k7 => dsimp only; exact toNat_ltB (by omega) (by omega)
    all_goals dsimp only
    all_goals omega
  · obtain ⟨hm1, hm2⟩ := midB (lo := lo) (hi := hi) (by assumption)
    have hn := nltG hs (x := x) (q := (lo + hi).fdiv 2) (by omega) (by omega) (by assumption)
    refine lend (lo, tlo, (lo + hi).fdiv 2, ?t2) (by assumption) (by assumption) (fun _ h => h) ?k21 ⟨⟨?k23, ?k24, ?k25, ?k26⟩, ?k27⟩
    case k21 => kst_all
    case k27 => dsimp only; exact toNat_ltB (by omega) (by omega)
    all_goals dsimp only
    all_goals omega
  · obtain rfl : lo = (nlt ns x : Nat) := by omega
    exact ret _ _ _ (by assumption) (by assumption)
set_option maxRecDepth 100000 in
set_option maxHeartbeats 8000000 in
set_option pp.maxSteps 4000 in
theorem bl_spec4 {prog : Program} {w : World} {p : Program} {loose : List Str} {mean : ExcName → Option Value} {mg mb : Str → Option Value}
    {dp un : Nat} {gd : Option (List Code)} {cn : Str} {cs : Scope} {a : Addr} {ccd : Value} {cl : List (Str × Addr)} {outer : List Env} {A₀ : Around} {base h₀ : Heap} {L : Addr} {m : Str → Option Value} {news : List (Addr × Obj)} {s : Shared} {Q E : Value → Shared → Prop}
    {l : Addr} {vs : List Value} {n : Nat} {ns : List Int} {x : Int} {t t0 : Tok}
    (B : Below A₀ base outer h₀) (F : Fr h₀ L s.heap m) (X : (hd.heap_39 w.params).In h₀) (N : News h₀ L s.heap news) (T : Top p loose mean mg mb h₀) (hk : cs.kind = .function)
    (hm : (l, listOf vs.toArray n) ∈ news) (hi : IntsAre vs ns) (hs : ns.Pairwise (· ≤ ·)) (hlen : ns.length ≤ 1000) (hroom : dp + 3 < recursionLimit)
    (ret : ∀ t' h' tk', Fr h₀ L h' m → News h₀ L h' news → Q (.int (nlt ns x : Nat) t') { s with heap := h', toks := tk' }) :
    wpAny (model prog w) (ktrTop dp un gd cn cs L a ccd cl outer) (call (.ref 65) [.ref l, .int x t, .int 0 t0, .none]) Q E s := by
  have hvs : vs.length = ns.length := hi.length
  refine wpAny_call ?_
  w_strict (k_dflt ((refine' code_def ?k1 ?k2 ?k3 ?k4 ?k5 ?kA ?kF ?kK ?k6 ?k7 ?k8 ?k9 ?kB ?_ ?c2 ?c3 ?c4 ?c5; (case kA => exact rfl); (case kF => exact rfl); (case kK => first | exact rfl | assumption); (case k1 => k_asm); (case k2 => k_asm); (case k3 => k_asm); (case k4 => k_asm); (case k5 => k_asm); (case k6 => k_is); (case k7 => k_is); (case k8 => ktr_room); (case k9 => first | exact BindsTo.of_eq rfl | exact binds_K (by k_in) rfl (by k_is) rfl rfl rfl | (refine' kp_binds ?kx ?ke; (case kx => k_in); (case ke => exact fun _ => rfl))); (case c5 => decide); (case kB => exact locs rfl); (case c2 => exact rfl); (case c3 => exact rfl); (case c4 => exact rfl); k_whole; intro g' L' h' FG' F' N' B' X' T'; (try dsimp only); (try k_lift B'); (try k_fold))))
  k_steps
  rename News _ _ _ _ => N1
  refine len_list (N1.isList hm) (by simp; omega) ?_
  k_steps
  unfold Halt
  rename Fr _ _ _ (fun y => if y = _ then _ else _) => F1
  rename News _ _ _ _ => N1
  refine kw_while (σ := Int × Tok × Int × Tok) (fun _ => news) (fun c => [("a", .ref l), ("x", .int x t), ("lo", .int c.1 c.2.1), ("hi", .int c.2.2.1 c.2.2.2)])
    (fun c => 0 ≤ c.1 ∧ c.1 ≤ (nlt ns x : Nat) ∧ (nlt ns x : Nat) ≤ c.2.2.1 ∧ c.2.2.1 ≤ ns.length) (fun c => (c.2.2.1 - c.1).toNat) (0, ?tl, vs.toArray.size, ?th) F1 N1 (fun _ h => h) ?ka ?kp ?kt ?ke
  case ka => kst_all
  case kp => have := nlt_le ns x; refine ⟨?_, ?_, ?_, ?_⟩ <;> simp <;> omega
  case ke => passes_own
  clear F1 N1
  rintro ⟨lo, tlo, hi, thi⟩ u h1 tk1 ⟨q1, q2, q3, q4⟩ F2 N2
  dsimp only at q1 q2 q3 q4 F2
  k_steps
  · obtain ⟨hm1, hm2⟩ := midB (lo := lo) (hi := hi) (by assumption)
    have hn := nltS hs (x := x) (q := (lo + hi).fdiv 2) (by omega) (by omega) (by assumption)
    refine lend ((lo + hi).fdiv 2 + 1, ?t1, hi, thi) (by assumption) (by assumption) (fun _ h => h) ?k1 ⟨⟨?k3, ?k4, ?k5, ?k6⟩, ?k7⟩
    case k1 => kst_all
    case k7 => dsimp only; exact toNat_ltB (by omega) (by omega)
    all_goals dsimp only
    all_goals omega
  · obtain ⟨hm1, hm2⟩ := midB (lo := lo) (hi := hi) (by assumption)
    have hn := nltG hs (x := x) (q := (lo + hi).fdiv 2) (by omega) (by omega) (by assumption)
    refine lend (lo, tlo, (lo + hi).fdiv 2, ?t2) (by assumption) (by assumption) (fun _ h => h) ?k21 ⟨⟨?k23, ?k24, ?k25, ?k26⟩, ?k27⟩
    case k21 => kst_all
    case k27 => dsimp only; exact toNat_ltB (by omega) (by omega)
    all_goals dsimp only
    all_goals omega
  · obtain rfl : lo = (nlt ns x : Nat) := by omega
    exact ret _ _ _ (by assumption) (by assumption)
set_option maxRecDepth 100000 in
set_option maxHeartbeats 8000000 in
set_option pp.maxSteps 4000 in
theorem br_spec {prog : Program} {w : World} {p : Program} {loose : List Str} {mean : ExcName → Option Value} {mg mb : Str → Option Value}
    {dp un : Nat} {gd : Option (List Code)} {cn : Str} {cs : Scope} {a : Addr} {ccd : Value} {cl : List (Str × Addr)} {outer : List Env} {A₀ : Around} {base h₀ : Heap} {L : Addr} {m : Str → Option Value} {news : List (Addr × Obj)} {s : Shared} {Q E : Value → Shared → Prop}
    {l : Addr} {vs : List Value} {n : Nat} {ns : List Int} {x : Int} {t : Tok}
    (B : Below A₀ base outer h₀) (F : Fr h₀ L s.heap m) (X : (hd.heap_39 w.params).In h₀) (N : News h₀ L s.heap news) (T : Top p loose mean mg mb h₀) (hk : cs.kind = .function)
    (hm : (l, listOf vs.toArray n) ∈ news) (hi : IntsAre vs ns) (hs : ns.Pairwise (· ≤ ·)) (hlen : ns.length ≤ 1000) (hroom : dp + 3 < recursionLimit)
    (ret : ∀ t' h' tk', Fr h₀ L h' m → News h₀ L h' news → Q (.int (nle ns x : Nat) t') { s with heap := h', toks := tk' }) :
    wpAny (model prog w) (ktrTop dp un gd cn cs L a ccd cl outer) (call (.ref 47) [.ref l, .int x t]) Q E s := by
  have hvs : vs.length = ns.length := hi.length
  refine wpAny_call ?_
  w_strict (k_dflt ((refine' code_def ?k1 ?k2 ?k3 ?k4 ?k5 ?kA ?kF ?kK ?k6 ?k7 ?k8 ?k9 ?kB ?_ ?c2 ?c3 ?c4 ?c5; (case kA => exact rfl); (case kF => exact rfl); (case kK => first | exact rfl | assumption); (case k1 => k_asm); (case k2 => k_asm); (case k3 => k_asm); (case k4 => k_asm); (case k5 => k_asm); (case k6 => k_is); (case k7 => k_is); (case k8 => ktr_room); (case k9 => first | exact BindsTo.of_eq rfl | exact binds_K (by k_in) rfl (by k_is) rfl rfl rfl | (refine' kp_binds ?kx ?ke; (case kx => k_in); (case ke => exact fun _ => rfl))); (case c5 => decide); (case kB => exact locs rfl); (case c2 => exact rfl); (case c3 => exact rfl); (case c4 => exact rfl); k_whole; intro g' L' h' FG' F' N' B' X' T'; (try dsimp only); (try k_lift B'); (try k_fold))))
  k_steps
  rename News _ _ _ _ => N1
  refine len_list (N1.isList hm) (by simp; omega) ?_
  k_steps
  unfold Halt
  rename Fr _ _ _ (fun y => if y = _ then _ else _) => F1
  rename News _ _ _ _ => N1
  refine kw_while (σ := Int × Tok × Int × Tok) (fun _ => news) (fun c => [("a", .ref l), ("x", .int x t), ("lo", .int c.1 c.2.1), ("hi", .int c.2.2.1 c.2.2.2)])
    (fun c => 0 ≤ c.1 ∧ c.1 ≤ (nle ns x : Nat) ∧ (nle ns x : Nat) ≤ c.2.2.1 ∧ c.2.2.1 ≤ ns.length) (fun c => (c.2.2.1 - c.1).toNat) (0, ?tl, vs.toArray.size, ?th) F1 N1 (fun _ h => h) ?ka ?kp ?kt ?ke
  case ka => kst_all
  case kp => have := nle_le ns x; refine ⟨?_, ?_, ?_, ?_⟩ <;> simp <;> omega
  case ke => passes_own
  clear F1 N1
  rintro ⟨lo, tlo, hi, thi⟩ u h1 tk1 ⟨q1, q2, q3, q4⟩ F2 N2
  dsimp only at q1 q2 q3 q4 F2
  k_steps
  · obtain ⟨hm1, hm2⟩ := midB (lo := lo) (hi := hi) (by assumption)
    have hn := nleG hs (x := x) (q := (lo + hi).fdiv 2) (by omega) (by omega) (by assumption)
    refine lend (lo, tlo, (lo + hi).fdiv 2, ?t2) (by assumption) (by assumption) (fun _ h => h) ?k21 ⟨⟨?k23, ?k24, ?k25, ?k26⟩, ?k27⟩
    case k21 => kst_all
    case k27 => dsimp only; exact toNat_ltB (by omega) (by omega)
    all_goals dsimp only
    all_goals omega
  · obtain ⟨hm1, hm2⟩ := midB (lo := lo) (hi := hi) (by assumption)
    have hn := nleS hs (x := x) (q := (lo + hi).fdiv 2) (by omega) (by omega) (by assumption)
    refine lend ((lo + hi).fdiv 2 + 1, ?t1, hi, thi) (by assumption) (by assumption) (fun _ h => h) ?k1 ⟨⟨?k3, ?k4, ?k5, ?k6⟩, ?k7⟩
    case k1 => kst_all
    case k7 => dsimp only; exact toNat_ltB (by omega) (by omega)
    all_goals dsimp only
    all_goals omega
  · obtain rfl : lo = (nle ns x : Nat) := by omega
    exact ret _ _ _ (by assumption) (by assumption)
end
section
local macro_rules | `(tactic| walk_at "call ref") => `(tactic| ((show wpAny _ _ (call (Value.ref 65) _ _) _ _ _); refine Halt.out ?_))
set_option maxRecDepth 100000 in
set_option maxHeartbeats 8000000 in
set_option pp.maxSteps 4000 in
theorem ins_spec {prog : Program} {w : World} {p : Program} {loose : List Str} {mean : ExcName → Option Value} {mg mb : Str → Option Value}
    {dp un : Nat} {gd : Option (List Code)} {cn : Str} {cs : Scope} {a : Addr} {ccd : Value} {cl : List (Str × Addr)} {outer : List Env} {A₀ : Around} {base h₀ : Heap} {L : Addr} {m : Str → Option Value} {rest : List (Addr × Obj)} {s : Shared} {Q E : Value → Shared → Prop}
    {l : Addr} {vs : List Value} {n : Nat} {ns : List Int} {x : Int} {t : Tok}
    (B : Below A₀ base outer h₀) (F : Fr h₀ L s.heap m) (X : (hd.heap_39 w.params).In h₀) (N : News h₀ L s.heap ((l, listOf vs.toArray n) :: rest)) (T : Top p loose mean mg mb h₀) (hk : cs.kind = .function)
    (hr : ∀ p ∈ rest, p.1 ≠ l) (hi : IntsAre vs ns) (hs : ns.Pairwise (· ≤ ·)) (hlen : ns.length ≤ 1000) (hroom : dp + 6 < recursionLimit)
    (ret : ∀ h' tk', Fr h₀ L h' m → News h₀ L h' ((l, listOf (vs.take (nlt ns x) ++ .int x t :: vs.drop (nlt ns x)).toArray (n + 1)) :: rest) → Q .none { s with heap := h', toks := tk' }) :
    wpAny (model prog w) (ktrTop dp un gd cn cs L a ccd cl outer) (call (.ref 56) [.ref l, .int x t]) Q E s := by
  have hvs : vs.length = ns.length := hi.length
  refine wpAny_call ?_
  w_strict (k_dflt ((refine' code_def ?k1 ?k2 ?k3 ?k4 ?k5 ?kA ?kF ?kK ?k6 ?k7 ?k8 ?k9 ?kB ?_ ?c2 ?c3 ?c4 ?c5; (case kA => exact rfl); (case kF => exact rfl); (case kK => first | exact rfl | assumption); (case k1 => k_asm); (case k2 => k_asm); (case k3 => k_asm); (case k4 => k_asm); (case k5 => k_asm); (case k6 => k_is); (case k7 => k_is); (case k8 => ktr_room); (case k9 => first | exact BindsTo.of_eq rfl | exact binds_K (by k_in) rfl (by k_is) rfl rfl rfl | (refine' kp_binds ?kx ?ke; (case kx => k_in); (case ke => exact fun _ => rfl))); (case c5 => decide); (case kB => exact locs rfl); (case c2 => exact rfl); (case c3 => exact rfl); (case c4 => exact rfl); k_whole; intro g' L' h' FG' F' N' B' X' T'; (try dsimp only); (try k_lift B'); (try k_fold))))
  k_steps
  unfold Halt
  rename Fr _ _ _ (fun y => List.lookup y _) => F1
  rename News _ _ _ _ => N1
  rename Frag.In _ _ => X1
  rename Below _ _ _ _ => B1
  rename Top _ _ _ _ _ _ => T1
  refine bl_spec4 B1 F1 X1 N1 T1 rfl (.head _) hi hs hlen (by dsimp only [ktrTop]; omega) ?_
  clear F1 N1
  intro t1 h1 tk1 F1 N1
  k_steps
  rename Fr _ _ _ _ => F1
  rename News _ _ _ _ => N1
  have hle := nlt_le ns x
  refine kl_insert (l := vs.take (nlt ns x) ++ .int x t :: vs.drop (nlt ns x)) F1 N1 ?_ ?_ (.head hr) (by rw [sizeLine_eq]; simp; omega) ?_
  · rw [Builtin.List.listFitsIndex]; simp; omega
  · unfold kl_ins
    rw [if_neg (by omega)]
    have e : min ((nlt ns x : Nat) : Int).toNat vs.toArray.toList.length = nlt ns x := by simp; omega
    rw [e]
  intro h2 F2 N2
  clear F1 N1
  k_steps
  exact ret _ _ (by assumption) (by assumption)
end
section
abbrev tupOf (vs : Array Value) : Obj := { cls := .type "tuple", data := .seq vs }
set_option maxRecDepth 100000 in
set_option maxHeartbeats 8000000 in
set_option pp.maxSteps 4000 in
theorem cmp_spec {prog : Program} {w : World} {p : Program} {loose : List Str} {mean : ExcName → Option Value} {mg mb : Str → Option Value}
    {dp un : Nat} {gd : Option (List Code)} {cn : Str} {cs : Scope} {a : Addr} {ccd : Value} {cl : List (Str × Addr)} {outer : List Env} {A₀ : Around} {base h₀ : Heap} {L : Addr} {m : Str → Option Value} {news : List (Addr × Obj)} {s : Shared} {Q E : Value → Shared → Prop}
    {o dx l t1 t2 t3 j1 j2 : Addr} {nd n : Nat} {tk : Tok} {b1 e1 k1 b2 e2 k2 : Int} {u1 u2 u3 u4 u5 u6 u7 u8 u9 u10 u11 u12 : Tok}
    (B : Below A₀ base outer h₀) (F : Fr h₀ L s.heap m) (X : (hd.heap_39 w.params).In h₀) (N : News h₀ L s.heap news) (T : Top p loose mean mg mb h₀) (hk : cs.kind = .function)
    (ho : (o, instObj 89 dx) ∈ news) (hdx : (dx, dictOf [⟨PyData.keyHash w.params (Str.ofString "comp_select_list"), .str (Str.ofString "comp_select_list") tk, .ref l⟩] nd) ∈ news)
    (hl : (l, listOf #[.ref t1, .ref t2, .ref t3] n) ∈ news) (h1 : (t1, tupOf #[.int 1 u1, .int 1 u2]) ∈ news) (h2 : (t2, tupOf #[.int 0 u3, .int (-1) u4]) ∈ news) (h3 : (t3, tupOf #[.int 2 u5, .int (-1) u6]) ∈ news)
    (hj1 : (j1, tupOf #[.int b1 u7, .int e1 u8, .int k1 u9]) ∈ news) (hj2 : (j2, tupOf #[.int b2 u10, .int e2 u11, .int k2 u12]) ∈ news) (hroom : dp + 6 < recursionLimit)
    (ret : ∀ v t' h' tk', (v < 0 ↔ (e1 < e2 ∨ (e1 = e2 ∧ (b2 < b1 ∨ (b1 = b2 ∧ k2 < k1))))) → Fr h₀ L h' m → News h₀ L h' news → Q (.int v t') { s with heap := h', toks := tk' }) :
    wpAny (model prog w) (ktrTop dp un gd cn cs L a ccd cl outer) (call (.ref 86) [.ref o, .ref j1, .ref j2]) Q E s := by
  refine wpAny_call ?_
  w_strict (k_dflt ((refine' code_def ?k1 ?k2 ?k3 ?k4 ?k5 ?kA ?kF ?kK ?k6 ?k7 ?k8 ?k9 ?kB ?_ ?c2 ?c3 ?c4 ?c5; (case kA => exact rfl); (case kF => exact rfl); (case kK => first | exact rfl | assumption); (case k1 => k_asm); (case k2 => k_asm); (case k3 => k_asm); (case k4 => k_asm); (case k5 => k_asm); (case k6 => k_is); (case k7 => k_is); (case k8 => ktr_room); (case k9 => first | exact BindsTo.of_eq rfl | exact binds_K (by k_in) rfl (by k_is) rfl rfl rfl | (refine' kp_binds ?kx ?ke; (case kx => k_in); (case ke => exact fun _ => rfl))); (case c5 => decide); (case kB => exact locs rfl); (case c2 => exact rfl); (case c3 => exact rfl); (case c4 => exact rfl); k_whole; intro g' L' h' FG' F' N' B' X' T'; (try dsimp only); (try k_lift B'); (try k_fold))))
  k_steps
  rename Fr _ _ _ (fun y => List.lookup y _) => F1
  obtain ⟨u0, F1⟩ := fr_know [("self", .ref o), ("left", .ref j1), ("right", .ref j2)] F1 (by kst_all)
  rename Fr _ _ _ (fun y => List.lookup y _) => F0
  clear F0
  refine wpAny_For ?_
  k_steps
  rename Fr _ _ _ (kstB _ _) => F1
  rename News _ _ _ _ => N1
  refine kw_list (σ := Unit) (items := [.ref t1, .ref t2, .ref t3]) (by rfl) (fun _ => news) (fun _ => [("self", .ref o), ("left", .ref j1), ("right", .ref j2)]) (fun i _ => (1 ≤ i → e1 = e2) ∧ (2 ≤ i → b1 = b2) ∧ (3 ≤ i → k1 = k2)) () F1 N1 (fun _ h => h) ?ka ⟨by omega, by omega, by omega⟩ (fun _ => hl) ?kt ?kd ?ke
  case ka => kst_all
  case ke => passes_own
  case kd =>
    clear F1 N1
    intro c u h tk ⟨p1, p2, p3⟩ F1 N1
    k_steps
    exact ret _ _ _ _ (by simp at p1 p2 p3; omega) (by assumption) (by assumption)
  clear F1 N1
  intro i v c u I oI h tk hi ⟨p1, p2, p3⟩ hoff F1 N1
  (generalize hLP1 : LPost _ _ _ _ _ _ _ = LQ1); revert LQ1; refine Halt.out ?_; intro LQ1 hLP1
  match i, hi with
  | 0, hi =>
    cases hi
    k_steps
    all_goals rw [← hLP1]
    all_goals dsimp only [LPost]
    all_goals k_steps
    all_goals first
      | exact ret _ _ _ _ (by omega) (by assumption) (cb_drop (news' := (I, oI) :: news) (by assumption) (fun _ h => .tail _ h))
      | (refine lend () (by assumption) (by assumption) (fun _ h => h) (by kst_all) ⟨⟨by omega, by omega, by omega⟩, hoff⟩)
  | 1, hi =>
    cases hi
    k_steps
    all_goals rw [← hLP1]
    all_goals dsimp only [LPost]
    all_goals k_steps
    all_goals first
      | exact ret _ _ _ _ (by omega) (by assumption) (cb_drop (news' := (I, oI) :: news) (by assumption) (fun _ h => .tail _ h))
      | (refine lend () (by assumption) (by assumption) (fun _ h => h) (by kst_all) ⟨⟨by omega, by omega, by omega⟩, hoff⟩)
  | 2, hi =>
    cases hi
    k_steps
    all_goals rw [← hLP1]
    all_goals dsimp only [LPost]
    all_goals k_steps
    all_goals first
      | exact ret _ _ _ _ (by omega) (by assumption) (cb_drop (news' := (I, oI) :: news) (by assumption) (fun _ h => .tail _ h))
      | (refine lend () (by assumption) (by assumption) (fun _ h => h) (by kst_all) ⟨⟨by omega, by omega, by omega⟩, hoff⟩)
end
section
set_option maxRecDepth 100000 in
set_option maxHeartbeats 8000000 in
set_option pp.maxSteps 4000 in
theorem count_spec {prog : Program} {w : World} {p : Program} {loose : List Str} {mean : ExcName → Option Value} {mg mb : Str → Option Value}
    {dp un : Nat} {gd : Option (List Code)} {cn : Str} {cs : Scope} {a : Addr} {ccd : Value} {cl : List (Str × Addr)} {outer : List Env} {A₀ : Around} {base h₀ : Heap} {L : Addr} {m : Str → Option Value} {news : List (Addr × Obj)} {s : Shared} {Q E : Value → Shared → Prop}
    {d : Addr} {od : Obj} {kvs : List (Str × Value)} {C : List (Str × Int)}
    (B : Below A₀ base outer h₀) (F : Fr h₀ L s.heap m) (X : (hd.heap_39 w.params).In h₀) (N : News h₀ L s.heap news) (T : Top p loose mean mg mb h₀) (hk : cs.kind = .function)
    (hm : (d, od) ∈ news) (hD : od.IsDictOf (strKind prog w) kvs) (hlo : (d == sysModules) = false) (hC : CountsAre kvs C) (hroom : dp + 3 < recursionLimit)
    (ret : ∀ t' h' tk', Fr h₀ L h' m → News h₀ L h' news → Q (.int (total C) t') { s with heap := h', toks := tk' }) :
    wpAny (model prog w) (ktrTop dp un gd cn cs L a ccd cl outer) (call (.ref 107) [.ref d]) Q E s := by
  refine wpAny_call ?_
  w_strict (k_dflt ((refine' code_def ?k1 ?k2 ?k3 ?k4 ?k5 ?kA ?kF ?kK ?k6 ?k7 ?k8 ?k9 ?kB ?_ ?c2 ?c3 ?c4 ?c5; (case kA => exact rfl); (case kF => exact rfl); (case kK => first | exact rfl | assumption); (case k1 => k_asm); (case k2 => k_asm); (case k3 => k_asm); (case k4 => k_asm); (case k5 => k_asm); (case k6 => k_is); (case k7 => k_is); (case k8 => ktr_room); (case k9 => first | exact BindsTo.of_eq rfl | exact binds_K (by k_in) rfl (by k_is) rfl rfl rfl | (refine' kp_binds ?kx ?ke; (case kx => k_in); (case ke => exact fun _ => rfl))); (case c5 => decide); (case kB => exact locs rfl); (case c2 => exact rfl); (case c3 => exact rfl); (case c4 => exact rfl); k_whole; intro g' L' h' FG' F' N' B' X' T'; (try dsimp only); (try k_lift B'); (try k_fold))))
  k_steps
  unfold Halt
  rename Fr _ _ _ (fun y => if y = _ then _ else _) => F1
  refine wpAny_For ?_
  k_steps
  rename News _ _ _ _ => N1
  rename Fr _ _ _ _ => F1
  refine kw_values (σ := Int × Tok) (knd := strKind prog w) (kvs := kvs) (by rfl) hD ⟨rfl, rfl⟩ (fun _ => news) (fun c => [("callers", .ref d), ("nc", .int c.1 c.2)]) (fun i c => c.1 = total (C.take i)) (0, ?t0) F1 N1 (.head _) (fun _ h => .tail _ h) ?ka ?kp (fun _ => hm) (fun _ _ => rfl) ?kt ?kd ?ke
  case ka => kst_all
  case kp => rfl
  case ke => passes_own
  all_goals clear F1 N1
  case kd =>
    rintro ⟨nc, tc⟩ u h tk hp F2 N2
    dsimp only at hp F2
    k_steps
    rw [hC.length, List.take_length] at hp
    subst hp
    exact ret _ _ _ (by assumption) (by assumption)
  rintro i k x ⟨nc, tc⟩ u I oI h tk hx hp hoff F2 N2
  dsimp only at hp F2
  obtain ⟨c, t, rfl, hc⟩ := hC.get hx
  k_steps
  refine lend (nc + c, ?t2) (by assumption) (by assumption) (fun _ h => h) ?k21 ⟨?k23, hoff⟩
  case k21 => kst_all
  case k23 => rw [total_take_succ hc]; dsimp only; omega
end
section
set_option maxRecDepth 100000 in
set_option maxHeartbeats 8000000 in
set_option pp.maxSteps 4000 in
theorem add_spec {prog : Program} {w : World} {p : Program} {loose : List Str} {mean : ExcName → Option Value} {mg mb : Str → Option Value}
    {dp un : Nat} {gd : Option (List Code)} {cn : Str} {cs : Scope} {a : Addr} {ccd : Value} {cl : List (Str × Addr)} {outer : List Env} {A₀ : Around} {base h₀ : Heap} {L : Addr} {m : Str → Option Value} {news : List (Addr × Obj)} {s : Shared} {Q E : Value → Shared → Prop}
    {d e : Addr} {od oe : Obj} {kvs kvs2 : List (Str × Value)} {C C2 : List (Str × Int)}
    (B : Below A₀ base outer h₀) (F : Fr h₀ L s.heap m) (X : (hd.heap_39 w.params).In h₀) (N : News h₀ L s.heap news) (T : Top p loose mean mg mb h₀) (hk : cs.kind = .function)
    (hm : (d, od) ∈ news) (hD : od.IsDictOf (strKind prog w) kvs) (hlo : (d == sysModules) = false) (hC : CountsAre kvs C)
    (hm2 : (e, oe) ∈ news) (hD2 : oe.IsDictOf (strKind prog w) kvs2) (hlo2 : (e == sysModules) = false) (hC2 : CountsAre kvs2 C2) (hroom : dp + 3 < recursionLimit) (hz1 : C.length ≤ 1000) (hz2 : C2.length ≤ 1000)
    (ret : ∀ r or kvs' h' tk', Fr h₀ L h' m → News h₀ L h' ((r, or) :: news) → (∀ p ∈ news, p.1 < r) → or.IsDictOf (strKind prog w) kvs' → (r == sysModules) = false → CountsAre kvs' (addC C C2) → Q (.ref r) { s with heap := h', toks := tk' }) :
    wpAny (model prog w) (ktrTop dp un gd cn cs L a ccd cl outer) (call (.ref 100) [.ref d, .ref e]) Q E s := by
  refine wpAny_call ?_
  w_strict (k_dflt ((refine' code_def ?k1 ?k2 ?k3 ?k4 ?k5 ?kA ?kF ?kK ?k6 ?k7 ?k8 ?k9 ?kB ?_ ?c2 ?c3 ?c4 ?c5; (case kA => exact rfl); (case kF => exact rfl); (case kK => first | exact rfl | assumption); (case k1 => k_asm); (case k2 => k_asm); (case k3 => k_asm); (case k4 => k_asm); (case k5 => k_asm); (case k6 => k_is); (case k7 => k_is); (case k8 => ktr_room); (case k9 => first | exact BindsTo.of_eq rfl | exact binds_K (by k_in) rfl (by k_is) rfl rfl rfl | (refine' kp_binds ?kx ?ke; (case kx => k_in); (case ke => exact fun _ => rfl))); (case c5 => decide); (case kB => exact locs rfl); (case c2 => exact rfl); (case c3 => exact rfl); (case c4 => exact rfl); k_whole; intro g' L' h' FG' F' N' B' X' T'; (try dsimp only); (try k_lift B'); (try k_fold))))
  k_steps
  unfold Halt
  refine wpAny_For ?_
  k_steps
  rename_i dn _ on hfar hlo0 hD0 _ _ _ _ _ _ D' _ F1 N1 _ l1
  refine kw_items (σ := Obj) (knd := strKind prog w) (kvs := kvs) (by rfl) hD ⟨rfl, rfl⟩ (fun o => (dn, o) :: news) (fun c => [("target", .ref d), ("source", .ref e), ("new_callers", .ref dn)]) (fun i o => o.IsDictOf (strKind prog w) (kvs.take i)) on F1 N1 (.head _) (fun _ h => .tail _ h) ?ka hD0 (fun _ => .tail _ hm) ?kt ?kd ?ke
  case ka => kst_all
  case ke => passes_own
  case kd =>
    clear F1 N1
    intro o1 u1 h1 tk1 hD1 F1 N1
    rw [List.take_length] at hD1
    k_steps
    unfold Halt
    refine wpAny_For ?_
    k_steps
    rename_i D2 _ F2 N2 _ l2
    refine kw_items (σ := Obj × List (Str × Value)) (knd := strKind prog w) (kvs := kvs2) (by rfl) hD2 ⟨rfl, rfl⟩ (fun c => (dn, c.1) :: news) (fun c => [("new_callers", .ref dn)]) (fun i c => c.1.IsDictOf (strKind prog w) c.2 ∧ CountsAre c.2 (addC C (C2.take i)) ∧ c.2.length ≤ kvs.length + i) (o1, kvs) F2 N2 (.head _) (fun _ h => .tail _ h) ?kb1 ⟨hD1, hC, Nat.le_refl _⟩ (fun _ => .tail _ hm2) ?kb2 ?kb3 ?kb4
    case kb1 => kst_all
    case kb4 => passes_own
    all_goals clear F1 N1 F2 N2
    case kb3 =>
      rintro ⟨o3, kv3⟩ u3 h3 tk3 ⟨p1, p2, p3⟩ F3 N3
      dsimp only at p1 p2 p3 F3 N3
      k_steps
      rw [hC2.length, List.take_length] at p2
      exact ret dn o3 kv3 _ _ (by assumption) (by assumption) hfar p1 hlo0 p2
    rintro i k x key ⟨o3, kv3⟩ u3 I oI T h3 tk3 hx hkey ⟨p1, p2, p3⟩ hoff hoT F3 N3
    dsimp only at p1 p2 p3 F3 N3 hoff hoT
    (generalize hLP1 : LPost _ _ _ _ _ _ _ = LQ1); revert LQ1; refine Halt.out ?_; intro LQ1 hLP1
    obtain ⟨tkey, rfl⟩ := Value.isStrOf_shape hkey
    obtain ⟨c, t, rfl, hc⟩ := hC2.get hx
    k_steps
    rename News _ _ _ _ => N4
    refine in_str (d := dn) (o := o3) N4 (.tail _ (.tail _ (.head _))) p1 hlo0 ?_
    have hln : kv3.length ≤ 3000 := by
      have a1 := hC.length; have a2 := hC2.length
      have a3 : i < kvs2.length := by
        rcases Nat.lt_or_ge i kvs2.length with h' | h'
        · exact h'
        · simp [List.getElem?_eq_none h'] at hx
      omega
    have hap : ∀ p ∈ ((T, { cls := .type "tuple", data := .seq #[Value.str k tkey, Value.int c t] }) :: (I, oI) :: news : List (Addr × Obj)), p.1 ≠ dn := by
      intro p hp
      rcases List.mem_cons.mp hp with rfl | hp
      · exact Ne.symm (hoT _ (.head _))
      rcases List.mem_cons.mp hp with rfl | hp
      · exact Ne.symm (hoff _ (.head _))
      exact Nat.ne_of_lt (hfar p hp)
    have hfin : ∀ o4 : Obj, ∀ p ∈ (dn, o4) :: news, p.1 ≠ I := by
      intro o4 p hp
      rcases List.mem_cons.mp hp with rfl | hp
      · exact hoff (dn, o3) (.head _)
      · exact hoff p (.tail _ hp)
    cases hv : valueAt kv3 k with
    | none =>
      dsimp only [Option.isSome]
      k_steps
      rename News _ _ _ _ => N5
      rename Fr _ _ _ _ => F5
      refine set_str (d := dn) (o := o3) (kvs := kv3) (rest := (T, { cls := .type "tuple", data := .seq #[Value.str k tkey, Value.int c t] }) :: (I, oI) :: news) F5 (cb_drop N5 (by intro p hp; simp only [List.mem_cons] at hp ⊢; rcases hp with h | h | h | h <;> simp [h])) hap p1 (by rw [sizeLine_eq]; omega) ?_
      clear F5 N5
      intro h5 o5 F5 N5 hD5
      k_steps
      rw [← hLP1]
      refine lend (o5, _) (by assumption) N5 ?ka1 ?ka2 ⟨⟨hD5, ?ka3, ?ka4⟩, hfin o5⟩
      case ka1 => intro p hp; simp only [List.mem_cons] at hp ⊢; rcases hp with h | h | h <;> simp [h]
      case ka2 => kst_all
      case ka4 => exact Nat.le_trans stored_length (by omega)
      case ka3 => rw [addC_take_succ hc]; exact p2.stored_new hv c _
    | some v =>
      obtain ⟨c0, t0, rfl, hst⟩ := p2.stored_old (IsDictOf_nodup p1) hv
      dsimp only [Option.isSome]
      k_steps
      rename News _ _ _ _ => N6
      refine get_str (d := dn) (o := o3) N6 (.tail _ (.tail _ (.head _))) p1 hv ?_
      k_steps
      rename News _ _ _ _ => N5
      rename Fr _ _ _ _ => F5
      refine set_str (d := dn) (o := o3) (kvs := kv3) (rest := (T, { cls := .type "tuple", data := .seq #[Value.str k tkey, Value.int c t] }) :: (I, oI) :: news) F5 (cb_drop N5 (by intro p hp; simp only [List.mem_cons] at hp ⊢; rcases hp with h | h | h | h <;> simp [h])) hap p1 (by rw [sizeLine_eq]; omega) ?_
      clear F5 N5
      intro h5 o5 F5 N5 hD5
      k_steps
      rw [← hLP1]
      refine lend (o5, _) (by assumption) N5 ?kc1 ?kc2 ⟨⟨hD5, ?kc3, ?kc4⟩, hfin o5⟩
      case kc1 => intro p hp; simp only [List.mem_cons] at hp ⊢; rcases hp with h | h | h <;> simp [h]
      case kc2 => kst_all
      case kc4 => exact Nat.le_trans stored_length (by omega)
      case kc3 => rw [addC_take_succ hc]; exact hst c _
  clear F1 N1
  intro i k x key c u I oI T h tk hx hkey hp hoff hoT F2 N2
  (generalize hLP2 : LPost _ _ _ _ _ _ _ = LQ2); revert LQ2; refine Halt.out ?_; intro LQ2 hLP2
  obtain ⟨tkey, rfl⟩ := Value.isStrOf_shape hkey
  k_steps
  rename News _ _ _ _ => N3
  rename Fr _ _ _ _ => F3
  refine set_str (d := dn) (o := c) (kvs := kvs.take i) F3 (rest := (T, { cls := .type "tuple", data := .seq #[Value.str k tkey, x] }) :: (I, oI) :: news) (cb_drop N3 ?p1) ?p2 hp ?p3 ?p4
  case p1 => intro p hp; simp only [List.mem_cons] at hp ⊢; rcases hp with h | h | h | h <;> simp [h]
  case p2 =>
    intro p hp
    rcases List.mem_cons.mp hp with rfl | hp
    · exact Ne.symm (hoT _ (.head _))
    rcases List.mem_cons.mp hp with rfl | hp
    · exact Ne.symm (hoff _ (.head _))
    exact Nat.ne_of_lt (hfar p hp)
  case p3 =>
    have h1 := hC.length
    rw [sizeLine_eq, List.length_take]; omega
  case p4 =>
    clear F3 N3
    intro h3 o3 F3 N3 hD3
    rw [stored_fresh (IsDictOf_nodup hD) hx] at hD3
    k_steps
    rw [← hLP2]
    refine lend o3 (by assumption) N3 ?k1 ?k2 ⟨hD3, ?k3⟩
    case k1 => intro p hp; simp only [List.mem_cons] at hp ⊢; rcases hp with h | h | h <;> simp [h]
    case k2 => kst_all
    case k3 =>
      intro p hp
      rcases List.mem_cons.mp hp with rfl | hp
      · exact hoff (dn, c) (.head _)
      · exact hoff p (.tail _ hp)
end
section
local macro_rules | `(tactic| walk_at "getMethod ref") => `(tactic| refine Halt.out ?_)
set_option maxRecDepth 100000 in
set_option maxHeartbeats 8000000 in
set_option pp.maxSteps 4000 in
theorem conv_name {prog : Program} {w : World} {p : Program} {loose : List Str} {mean : ExcName → Option Value} {mg mb : Str → Option Value}
    {dp un : Nat} {gd : Option (List Code)} {cn : Str} {cs : Scope} {a : Addr} {ccd : Value} {cl : List (Str × Addr)} {outer : List Env} {A₀ : Around} {base h₀ : Heap} {L : Addr} {m : Str → Option Value} {news : List (Addr × Obj)} {s : Shared} {Q E : Value → Shared → Prop}
    {self : Value} {x : Str} {t : Tok}
    (B : Below A₀ base outer h₀) (F : Fr h₀ L s.heap m) (X : (hd.heap_39 w.params).In h₀) (N : News h₀ L s.heap news) (T : Top p loose mean mg mb h₀) (hk : cs.kind = .function)
    (hx : peek (hd.heap_39 w.params) ⟨prog, w.params⟩ (Builtin.«re.Pattern.search» ⟨[.ref 112, .str x t], []⟩) = some (.done (.ret .none))) (hroom : dp + 3 < recursionLimit)
    (ret : ∀ h' tk', Fr h₀ L h' m → News h₀ L h' news → Q (.str x t) { s with heap := h', toks := tk' }) :
    wpAny (model prog w) (ktrTop dp un gd cn cs L a ccd cl outer) (call (.ref 139) [self, .str x t] [("name", .bool true)]) Q E s := by
  refine wpAny_call ?_
  w_strict (k_dflt ((refine' code_def ?k1 ?k2 ?k3 ?k4 ?k5 ?kA ?kF ?kK ?k6 ?k7 ?k8 ?k9 ?kB ?_ ?c2 ?c3 ?c4 ?c5; (case kA => exact rfl); (case kF => exact rfl); (case kK => first | exact rfl | assumption); (case k1 => k_asm); (case k2 => k_asm); (case k3 => k_asm); (case k4 => k_asm); (case k5 => k_asm); (case k6 => k_is); (case k7 => k_is); (case k8 => ktr_room); (case k9 => first | exact BindsTo.of_eq rfl | exact binds_K (by k_in) rfl (by k_is) rfl rfl rfl | (refine' kp_binds ?kx ?ke; (case kx => k_in); (case ke => exact fun _ => rfl))); (case c5 => decide); (case kB => exact locs rfl); (case c2 => exact rfl); (case c3 => exact rfl); (case c4 => exact rfl); k_whole; intro g' L' h' FG' F' N' B' X' T'; (try dsimp only); (try k_lift B'); (try k_fold))))
  k_steps
  have hT : typeIn (hd.heap_39 w.params) (.ref 112) = some (.type "re.Pattern") := rfl
  unfold Halt
  refine get_search (K := hd.heap_39 w.params) (by k_in) (by rfl) (by rfl) (by rfl) ?_
  k_steps
  refine call_search (K := hd.heap_39 w.params) (by k_in) (by rfl) (by rfl) hx ?_
  k_steps
  exact ret _ _ (by assumption) (by assumption)
set_option maxRecDepth 100000 in
set_option maxHeartbeats 8000000 in
set_option pp.maxSteps 4000 in
theorem conv_value {prog : Program} {w : World} {p : Program} {loose : List Str} {mean : ExcName → Option Value} {mg mb : Str → Option Value}
    {dp un : Nat} {gd : Option (List Code)} {cn : Str} {cs : Scope} {a : Addr} {ccd : Value} {cl : List (Str × Addr)} {outer : List Env} {A₀ : Around} {base h₀ : Heap} {L : Addr} {m : Str → Option Value} {news : List (Addr × Obj)} {s : Shared} {Q E : Value → Shared → Prop}
    {self : Value} {x : Str} {t : Tok}
    (B : Below A₀ base outer h₀) (F : Fr h₀ L s.heap m) (X : (hd.heap_39 w.params).In h₀) (N : News h₀ L s.heap news) (T : Top p loose mean mg mb h₀) (hk : cs.kind = .function)
    (hx : peek (hd.heap_39 w.params) ⟨prog, w.params⟩ (Builtin.«re.Pattern.search» ⟨[.ref 117, .str x t], []⟩) = some (.done (.ret .none))) (hroom : dp + 3 < recursionLimit)
    (ret : ∀ h' tk', Fr h₀ L h' m → News h₀ L h' news → Q (.str x t) { s with heap := h', toks := tk' }) :
    wpAny (model prog w) (ktrTop dp un gd cn cs L a ccd cl outer) (call (.ref 139) [self, .str x t] [("name", .bool false)]) Q E s := by
  refine wpAny_call ?_
  w_strict (k_dflt ((refine' code_def ?k1 ?k2 ?k3 ?k4 ?k5 ?kA ?kF ?kK ?k6 ?k7 ?k8 ?k9 ?kB ?_ ?c2 ?c3 ?c4 ?c5; (case kA => exact rfl); (case kF => exact rfl); (case kK => first | exact rfl | assumption); (case k1 => k_asm); (case k2 => k_asm); (case k3 => k_asm); (case k4 => k_asm); (case k5 => k_asm); (case k6 => k_is); (case k7 => k_is); (case k8 => ktr_room); (case k9 => first | exact BindsTo.of_eq rfl | exact binds_K (by k_in) rfl (by k_is) rfl rfl rfl | (refine' kp_binds ?kx ?ke; (case kx => k_in); (case ke => exact fun _ => rfl))); (case c5 => decide); (case kB => exact locs rfl); (case c2 => exact rfl); (case c3 => exact rfl); (case c4 => exact rfl); k_whole; intro g' L' h' FG' F' N' B' X' T'; (try dsimp only); (try k_lift B'); (try k_fold))))
  k_steps
  have hT : typeIn (hd.heap_39 w.params) (.ref 117) = some (.type "re.Pattern") := rfl
  unfold Halt
  refine get_search (K := hd.heap_39 w.params) (by k_in) (by rfl) (by rfl) (by rfl) ?_
  k_steps
  refine call_search (K := hd.heap_39 w.params) (by k_in) (by rfl) (by rfl) hx ?_
  k_steps
  exact ret _ _ (by assumption) (by assumption)
end
section
section
set_option maxRecDepth 100000
set_option maxHeartbeats 4000000
theorem clean_lc (w : World) (S : Setting) (t : Tok) : ∀ p, p < 5 → peek (hd.heap_39 w.params) S (Builtin.«re.Pattern.search» ⟨[.ref 112, .str (lc p) t], []⟩) = some (.done (.ret .none))
  | 0, _ => by kernel_rfl
  | 1, _ => by kernel_rfl
  | 2, _ => by kernel_rfl
  | 3, _ => by kernel_rfl
  | 4, _ => by kernel_rfl
  | n + 5, h => absurd h (by omega)
theorem clean_uc (w : World) (S : Setting) (t : Tok) : ∀ p, p < 5 → peek (hd.heap_39 w.params) S (Builtin.«re.Pattern.search» ⟨[.ref 112, .str (uc p) t], []⟩) = some (.done (.ret .none))
  | 0, _ => by kernel_rfl
  | 1, _ => by kernel_rfl
  | 2, _ => by kernel_rfl
  | 3, _ => by kernel_rfl
  | 4, _ => by kernel_rfl
  | n + 5, h => absurd h (by omega)
theorem clean_fg (w : World) (S : Setting) (t : Tok) : ∀ p, p < 6 → peek (hd.heap_39 w.params) S (Builtin.«re.Pattern.search» ⟨[.ref 117, .str (fg p) t], []⟩) = some (.done (.ret .none))
  | 0, _ => by kernel_rfl
  | 1, _ => by kernel_rfl
  | 2, _ => by kernel_rfl
  | 3, _ => by kernel_rfl
  | 4, _ => by kernel_rfl
  | 5, _ => by kernel_rfl
  | n + 6, h => absurd h (by omega)
end
end
section
abbrev hdD (w : World) (tk : Tok) (hl : Addr) (nd : Nat) : Obj := dictOf [⟨PyData.keyHash w.params (Str.ofString "_headers"), .str (Str.ofString "_headers") tk, .ref hl⟩] nd
set_option maxRecDepth 100000 in
set_option maxHeartbeats 8000000 in
set_option pp.maxSteps 4000 in
theorem get_spec {prog : Program} {w : World} {p : Program} {loose : List Str} {mean : ExcName → Option Value} {mg mb : Str → Option Value}
    {dp un : Nat} {gd : Option (List Code)} {cn : Str} {cs : Scope} {a : Addr} {ccd : Value} {cl : List (Str × Addr)} {outer : List Env} {A₀ : Around} {base h₀ : Heap} {L : Addr} {m : Str → Option Value} {news : List (Addr × Obj)} {s : Shared} {Q E : Value → Shared → Prop}
    {di dx hl : Addr} {tk : Tok} {nd n : Nat} {rs : List Addr} {D : List (Nat × Nat)} {q : Nat} {t : Tok}
    (B : Below A₀ base outer h₀) (F : Fr h₀ L s.heap m) (X : (hd.heap_39 w.params).In h₀) (N : News h₀ L s.heap news) (T : Top p loose mean mg mb h₀) (hk : cs.kind = .function)
    (hdi : (di, instObj 240 dx) ∈ news) (hdx : (dx, hdD w tk hl nd) ∈ news) (hhl : (hl, listOf (rs.map Value.ref).toArray n) ∈ news) (hH : HdrAre news rs D) (hB : ∀ x ∈ D, x.1 < 5 ∧ x.2 < 6)
    (hq : q < 5) (hroom : dp + 6 < recursionLimit)
    (ret : ∀ v h' tk', (match hget D q with | some k => ∃ t', v = .str (fg k) t' | none => v = .none) → Fr h₀ L h' m → News h₀ L h' news → Q v { s with heap := h', toks := tk' }) :
    wpAny (model prog w) (ktrTop dp un gd cn cs L a ccd cl outer) (call (.ref 187) [.ref di, .str (lc q) t]) Q E s := by
  refine wpAny_call ?_
  w_strict (k_dflt ((refine' code_def ?k1 ?k2 ?k3 ?k4 ?k5 ?kA ?kF ?kK ?k6 ?k7 ?k8 ?k9 ?kB ?_ ?c2 ?c3 ?c4 ?c5; (case kA => exact rfl); (case kF => exact rfl); (case kK => first | exact rfl | assumption); (case k1 => k_asm); (case k2 => k_asm); (case k3 => k_asm); (case k4 => k_asm); (case k5 => k_asm); (case k6 => k_is); (case k7 => k_is); (case k8 => ktr_room); (case k9 => first | exact BindsTo.of_eq rfl | exact binds_K (by k_in) rfl (by k_is) rfl rfl rfl | (refine' kp_binds ?kx ?ke; (case kx => k_in); (case ke => exact fun _ => rfl))); (case c5 => decide); (case kB => exact locs rfl); (case c2 => exact rfl); (case c3 => exact rfl); (case c4 => exact rfl); k_whole; intro g' L' h' FG' F' N' B' X' T'; (try dsimp only); (try k_lift B'); (try k_fold))))
  k_steps
  refine SCL.lower (by rw [lc_len]; omega) ?_
  intro _
  rw [lower_lc q hq]
  k_steps
  unfold Halt
  rename Fr _ _ _ _ => F1
  rename News _ _ _ _ => N1
  rename Frag.In _ _ => X1
  rename Below _ _ _ _ => B1
  rename Top _ _ _ _ _ _ => T1
  refine conv_name B1 F1 X1 N1 T1 rfl (clean_lc w _ _ q hq) (by dsimp only [ktrTop]; omega) ?_
  clear F1 N1
  intro h1 tk1 F1 N1
  k_steps
  unfold Halt
  refine wpAny_For ?_
  k_steps
  rename Fr _ _ _ _ => F1
  rename News _ _ _ _ => N1
  refine kw_list (σ := Unit) (items := rs.map Value.ref) (nl := n) (by rfl) (fun _ => news) (fun _ => [("name", .str (lc q) ?t0), ("default", .none)]) (fun i _ => ∀ x ∈ D.take i, x.1 ≠ q) () F1 N1 (fun _ h => h) ?ka ?kp (fun _ => hhl) ?kt ?kd ?ke
  case ka => kst_all
  case kp => simp
  case ke => passes_own
  all_goals clear F1 N1
  case kd =>
    intro c u h2 tk2 hp F2 N2
    k_steps
    refine ret _ _ _ ?_ (by assumption) (by assumption)
    rw [hget_none (fun x hx => hp x (by rw [List.length_map, hH.length, List.take_length]; exact hx))]
  intro i v c u I oI h2 tk2 hi hp hoff F2 N2
  (generalize hLP1 : LPost _ _ _ _ _ _ _ = LQ1); revert LQ1; refine Halt.out ?_; intro LQ1 hLP1
  rw [List.getElem?_map] at hi
  cases hr : rs[i]? with
  | none => rw [hr] at hi; cases hi
  | some r =>
    rw [hr] at hi
    cases hi
    obtain ⟨pp, kk, t1, t2, hD, hmem⟩ := hH.get hr
    have hpk := hB (pp, kk) (List.mem_of_getElem? hD)
    k_steps
    refine SCL.lower (by rw [uc_len]; omega) ?_
    intro _
    rw [lower_uc pp hpk.1]
    k_steps
    · rename (lc pp == lc q) = true => he
      obtain rfl := lc_inj (eq_of_beq he)
      rw [← hLP1]
      dsimp only [LPost]
      k_steps
      refine ret _ _ _ ?_ (by assumption) (cb_drop (news' := (I, oI) :: news) (by assumption) (fun _ h => .tail _ h))
      rw [hget_at hp hD]
      exact ⟨_, rfl⟩
    · rename (lc pp == lc q) = false => he
      rw [← hLP1]
      refine lend () (by assumption) (by assumption) (fun _ h => h) (by kst_all) ⟨?_, hoff⟩
      intro x hx
      rw [List.take_add_one, hD] at hx
      rcases List.mem_append.mp hx with hx | hx
      · exact hp x hx
      · simp at hx
        subst hx
        intro e
        dsimp only at e
        rw [e] at he
        simp at he
end
section
set_option maxRecDepth 100000 in
set_option maxHeartbeats 8000000 in
set_option pp.maxSteps 4000 in
theorem del_spec {prog : Program} {w : World} {p : Program} {loose : List Str} {mean : ExcName → Option Value} {mg mb : Str → Option Value}
    {dp un : Nat} {gd : Option (List Code)} {cn : Str} {cs : Scope} {a : Addr} {ccd : Value} {cl : List (Str × Addr)} {outer : List Env} {A₀ : Around} {base h₀ : Heap} {L : Addr} {m : Str → Option Value} {rest : List (Addr × Obj)} {s : Shared} {Q E : Value → Shared → Prop}
    {di dx hl : Addr} {tk : Tok} {nd n : Nat} {rs : List Addr} {D : List (Nat × Nat)} {q : Nat} {t : Tok}
    (B : Below A₀ base outer h₀) (F : Fr h₀ L s.heap m) (X : (hd.heap_39 w.params).In h₀) (N : News h₀ L s.heap ((hl, listOf (rs.map Value.ref).toArray n) :: rest)) (T : Top p loose mean mg mb h₀) (hk : cs.kind = .function)
    (hr : ∀ p ∈ rest, p.1 ≠ hl) (hdi : (di, instObj 240 dx) ∈ rest) (hdx : (dx, hdD w tk hl nd) ∈ rest) (hH : HdrAre rest rs D) (hB : ∀ x ∈ D, x.1 < 5 ∧ x.2 < 6)
    (hq : q < 5) (hDl : D.length ≤ 1000) (hroom : dp + 6 < recursionLimit)
    (ret : ∀ h' tk' rs' n', HdrAre rest rs' (D.filter (fun x => !decide (x.1 = q))) → Fr h₀ L h' m → News h₀ L h' ((hl, listOf (rs'.map Value.ref).toArray n') :: rest) → Q .none { s with heap := h', toks := tk' }) :
    wpAny (model prog w) (ktrTop dp un gd cn cs L a ccd cl outer) (call (.ref 158) [.ref di, .str (uc q) t]) Q E s := by
  refine wpAny_call ?_
  w_strict (k_dflt ((refine' code_defC ?k1 ?k2 ?k3 ?k4 ?k5 ?kA ?kF ?kK ?k6 ?k7 ?k8 ?k9 ?kB ?kD ?_ ?c2 ?c3 ?c4; (case kA => exact rfl); (case kF => exact rfl); (case kK => first | exact rfl | assumption); (case k1 => k_asm); (case k2 => k_asm); (case k3 => k_asm); (case k4 => k_asm); (case k5 => k_asm); (case k6 => k_is); (case k7 => k_is); (case k8 => ktr_room); (case k9 => first | exact BindsTo.of_eq rfl | exact binds_K (by k_in) rfl (by k_is) rfl rfl rfl | (refine' kp_binds ?kx ?ke; (case kx => k_in); (case ke => exact fun _ => rfl))); (case kB => exact rfl); (case kD => decide +kernel); (case c2 => exact rfl); (case c3 => exact rfl); (case c4 => exact rfl); k_whole; intro g1 L1 h' tk' cells' FG' F' N' Y' B1 X1 T1 hAL; (try k_lt hAL); k_cells Y'; (try simp only [List.cons_append, List.nil_append] at N'); (try dsimp only); (try k_lift B1); (try k_fold))))
  rename_i hlL oc _
  k_steps
  refine SCL.lower (by rw [uc_len]; omega) ?_
  intro _
  rw [lower_uc q hq]
  k_steps
  unfold Halt
  rename Fr _ _ _ _ => F1
  rename News _ _ _ _ => N1
  refine conv_name B1 F1 X1 N1 T1 rfl (clean_lc w _ _ q hq) (by dsimp only [ktrTop]; omega) ?_
  clear F1 N1
  intro h1 tk1 F1 N1
  k_steps
  unfold Halt
  refine comp_start (cl := [("name", ?cc)]) ?hclos rfl (by decide) (fun _ => rfl) ?_
  case hclos => with_unfolding_all rfl
  k_steps
  rename Fr _ _ _ _ => F1
  rename News _ _ _ _ => N1
  rename_i oc2 hoc2
  refine comp_list (σ := List Addr) (items := rs.map Value.ref) (nl := n) (by rfl) (by rw [List.length_map, sizeLine_eq]; have := hH.length; omega) (by decide) rfl (fun _ => (L1 + 1, oc2) :: (hl, listOf (rs.map Value.ref).toArray n) :: rest)
    (fun i rs' ys => ys = rs'.map Value.ref ∧ HdrAre rest rs' ((D.take i).filter (fun x => !decide (x.1 = q)))) [] F1 N1 (fun _ h => h) ⟨rfl, .nil⟩ (fun _ => .tail _ (.head _)) ?turn ?done
  case done =>
    clear F1 N1
    intro rs' ys Dl h tk nD ⟨hys, hrs⟩ F2 N2 hDl2 ho
    rw [List.length_map, hH.length, List.take_length] at hrs
    subst hys
    k_steps
    refine set_all_N (l := hl) (its := rs.map Value.ref) (its2 := rs'.map Value.ref) (n := n) (n2 := nD) (b := Dl) (rest := (Dl, listOf (rs'.map Value.ref).toArray nD) :: (L1 + 1, oc2) :: rest) (F2.push _)
      (fun p hp => ⟨Heap.get?_push_of_some _ (N2 p ?q1).1, (N2 p ?q2).2⟩) (Heap.IsSliceOf.new ..) (.head _) ?q3 ?q4 ?q5
    case q1 => simp only [List.mem_cons] at hp ⊢; rcases hp with h | h | h | h <;> simp [h]
    case q2 => simp only [List.mem_cons] at hp ⊢; rcases hp with h | h | h | h <;> simp [h]
    case q3 =>
      intro p hp
      rcases List.mem_cons.mp hp with rfl | hp
      · exact Ne.symm (ho (hl, listOf (rs.map Value.ref).toArray n) (.tail _ (.head _)))
      rcases List.mem_cons.mp hp with rfl | hp
      · exact neN (by dsimp only; have := ltN hlL; omega)
      · exact hr p hp
    case q4 =>
      have h1 := hH.length; have h2 := hrs.length
      have h3 : (D.filter (fun x => !decide (x.1 = q))).length ≤ D.length := List.length_filter_le _ _
      simp only [List.length_map]; omega
    case q5 =>
      intro h3 n3 F3 N3
      k_steps
      refine ret _ _ rs' n3 hrs (by assumption) (cb_drop (news' := (hl, listOf (rs'.map Value.ref).toArray n3) :: (Dl, listOf (rs'.map Value.ref).toArray nD) :: (L1 + 1, oc2) :: rest) (by assumption) (by intro p hp; simp only [List.mem_cons] at hp ⊢; rcases hp with h | h <;> simp [h]))
  clear F1 N1
  intro g C Dl I oI hg hID hDC hnI i v rs' ys u h tk nD hi ⟨hys, hrs⟩ ho F2 N2
  have Xg := X1.keeps hg
  have Tg := T1.keeps hg
  rw [List.getElem?_map] at hi
  cases hr : rs[i]? with
  | none => rw [hr] at hi; cases hi
  | some r =>
    rw [hr] at hi
    cases hi
    obtain ⟨pp, kk, t1, t2, hD, hmem⟩ := hH.get hr
    have hpk := hB (pp, kk) (List.mem_of_getElem? hD)
    k_steps
    refine SCL.lower (by rw [uc_len]; omega) ?_
    intro _
    rw [lower_uc pp hpk.1]
    k_steps
    have htk : D.take (i + 1) = D.take i ++ [(pp, kk)] := by rw [List.take_add_one, hD]; rfl
    · rename (lc pp != lc q) = true => he
      have hne : ¬ pp = q := fun e => by rw [e] at he; simp at he
      refine ce (rs' ++ [r]) (by assumption) (by assumption) (fun _ h => h) ⟨by simp [hys], ?_⟩ ho
      rw [htk, List.filter_append]
      refine hrs.append ?_
      simp only [List.filter_cons, hne, decide_false, Bool.not_false, if_true, List.filter_nil]
      exact .cons hmem .nil
    · rename (lc pp != lc q) = false => he
      have hne : pp = q := by
        simp only [bne_eq_false_iff_eq] at he
        exact lc_inj he
      refine ce rs' (by assumption) (by assumption) (fun _ h => h) ⟨hys, ?_⟩ ho
      have htk : D.take (i + 1) = D.take i ++ [(pp, kk)] := by rw [List.take_add_one, hD]; rfl
      rw [htk, List.filter_append]
      simpa [List.filter_cons, hne] using hrs
end
section
set_option maxRecDepth 100000 in
set_option maxHeartbeats 8000000 in
set_option pp.maxSteps 4000 in
theorem set_spec {prog : Program} {w : World} {p : Program} {loose : List Str} {mean : ExcName → Option Value} {mg mb : Str → Option Value}
    {dp un : Nat} {gd : Option (List Code)} {cn : Str} {cs : Scope} {a : Addr} {ccd : Value} {cl : List (Str × Addr)} {outer : List Env} {A₀ : Around} {base h₀ : Heap} {L : Addr} {m : Str → Option Value} {rest : List (Addr × Obj)} {s : Shared} {Q E : Value → Shared → Prop}
    {di dx hl : Addr} {tk : Tok} {nd n : Nat} {rs : List Addr} {D : List (Nat × Nat)} {q k : Nat} {t t2 : Tok}
    (B : Below A₀ base outer h₀) (F : Fr h₀ L s.heap m) (X : (hd.heap_39 w.params).In h₀) (N : News h₀ L s.heap ((hl, listOf (rs.map Value.ref).toArray n) :: rest)) (T : Top p loose mean mg mb h₀) (hk : cs.kind = .function)
    (hr : ∀ p ∈ rest, p.1 ≠ hl) (hdi : (di, instObj 240 dx) ∈ rest) (hdx : (dx, hdD w tk hl nd) ∈ rest) (hH : HdrAre rest rs D) (hB : ∀ x ∈ D, x.1 < 5 ∧ x.2 < 6)
    (hq : q < 5) (hkk : k < 6) (hDl : D.length ≤ 900) (hroom : dp + 9 < recursionLimit)
    (ret : ∀ h' tk' rs' n' T ot, HdrAre ((T, ot) :: rest) rs' (hset D q k) → Fr h₀ L h' m → News h₀ L h' ((hl, listOf (rs'.map Value.ref).toArray n') :: (T, ot) :: rest) → (∀ p ∈ rest, p.1 < T) → T ≠ hl → Q .none { s with heap := h', toks := tk' }) :
    wpAny (model prog w) (ktrTop dp un gd cn cs L a ccd cl outer) (call (.ref 153) [.ref di, .str (uc q) t, .str (fg k) t2]) Q E s := by
  refine wpAny_call ?_
  w_strict (k_dflt ((refine' code_def ?k1 ?k2 ?k3 ?k4 ?k5 ?kA ?kF ?kK ?k6 ?k7 ?k8 ?k9 ?kB ?_ ?c2 ?c3 ?c4 ?c5; (case kA => exact rfl); (case kF => exact rfl); (case kK => first | exact rfl | assumption); (case k1 => k_asm); (case k2 => k_asm); (case k3 => k_asm); (case k4 => k_asm); (case k5 => k_asm); (case k6 => k_is); (case k7 => k_is); (case k8 => ktr_room); (case k9 => first | exact BindsTo.of_eq rfl | exact binds_K (by k_in) rfl (by k_is) rfl rfl rfl | (refine' kp_binds ?kx ?ke; (case kx => k_in); (case ke => exact fun _ => rfl))); (case c5 => decide); (case kB => exact locs rfl); (case c2 => exact rfl); (case c3 => exact rfl); (case c4 => exact rfl); k_whole; intro g1 L1 h' FG' F1 N1 B1 X1 T1; (try dsimp only); (try k_lift B1); (try k_fold))))
  k_steps
  unfold Halt
  refine del_spec B1 F1 X1 N1 T1 rfl hr hdi hdx hH hB hq (by omega) (by dsimp only [ktrTop]; omega) ?_
  clear F1 N1
  intro h1 tk1 rs1 n1 hH1 F1 N1
  k_steps
  unfold Halt
  refine conv_name B1 F1 X1 N1 T1 rfl (clean_uc w _ _ q hq) (by dsimp only [ktrTop]; omega) ?_
  clear F1 N1
  intro h2 tk2 F1 N1
  k_steps
  unfold Halt
  refine conv_value B1 F1 X1 N1 T1 rfl (clean_fg w _ _ k hkk) (by dsimp only [ktrTop]; omega) ?_
  clear F1 N1
  intro h3 tk3 F1 N1
  k_steps
  rename_i D2 _ F2 N2 hTl hAT
  have hlen : rs1.length ≤ 900 := by
    have h1 := hH1.length
    have h3 : (D.filter (fun x => !decide (x.1 = q))).length ≤ D.length := List.length_filter_le _ _
    omega
  refine append_K F2 N2 (.tail (neN (by have := ltN hTl; dsimp only; omega)) (.head hr)) ?_ (by rw [List.size_toArray, List.length_map, sizeLine_eq]; omega)
  intro h4 F4 N4
  clear F2 N2
  k_steps
  have N5 : News h₀ L h4 ((hl, listOf ((rs1 ++ [D2]).map Value.ref).toArray (n1 + 1)) :: (D2, { cls := .type "tuple", data := .seq #[Value.str (uc q) t, Value.str (fg k) t2] }) :: rest) := by
    rename News h₀ L _ _ => N6
    refine cb_drop N6 ?_
    intro p hp
    simp only [List.push_toArray, List.mem_cons, List.map_append, List.map_cons, List.map_nil] at hp ⊢
    rcases hp with h | h | h <;> simp [h]
  refine ret _ _ (rs1 ++ [D2]) (n1 + 1) _ _ ?_ (by assumption) N5 (tb_ltOf hAT) (neN (by have := ltN hTl; omega))
  unfold hset
  exact (hH1.mono (fun _ h => .tail _ h)).append (.cons (.head _) .nil)
end
section
structure CS where
  f : Nat
  p : Nat
  tp : Tok
  k : Nat
  D : List (Nat × Nat)
  A : List (Str × Int)
  rs : List Addr
  n : Nat
  ad : Addr
  od : Obj
  kvs : List (Str × Value)
  rest : List (Addr × Obj)
set_option maxRecDepth 100000 in
set_option maxHeartbeats 8000000 in
set_option pp.maxSteps 4000 in
theorem come_spec {prog : Program} {w : World} {p : Program} {loose : List Str} {mean : ExcName → Option Value} {mg mb : Str → Option Value}
    {dp un : Nat} {gd : Option (List Code)} {cn : Str} {cs : Scope} {a : Addr} {ccd : Value} {cl : List (Str × Addr)} {outer : List Env} {A₀ : Around} {base h₀ : Heap} {L : Addr} {m : Str → Option Value} {rest : List (Addr × Obj)} {s : Shared} {Q E : Value → Shared → Prop}
    {di dx hl l jl ad : Addr} {js : Nat → Addr} {tk : Tok} {nd n nh nj : Nat} {rs : List Addr} {D : List (Nat × Nat)} {hs : List Value} {H : List Int} {J : Jobs} {A : List (Str × Int)} {kvs : List (Str × Value)} {od : Obj} {k : Nat}
    (B : Below A₀ base outer h₀) (F : Fr h₀ L s.heap m) (X : (hd.heap_39 w.params).In h₀) (N : News h₀ L s.heap ((hl, listOf (rs.map Value.ref).toArray n) :: rest)) (T : Top p loose mean mg mb h₀) (hk : cs.kind = .function)
    (hr : ∀ p ∈ rest, p.1 ≠ hl) (hdi : (di, instObj 240 dx) ∈ rest) (hdx : (dx, hdD w tk hl nd) ∈ rest)
    (hl0 : (l, listOf hs.toArray nh) ∈ rest) (hHs : IntsAre hs H) (hsort : H.Pairwise (· ≤ ·)) (hHl : H.length = 5)
    (hjl : (jl, listOf #[.ref (js 0), .ref (js 1), .ref (js 2), .ref (js 3), .ref (js 4), .ref (js 5)] nj) ∈ rest)
    (hjs : ∀ i, i < 6 → ∃ u1 u2 u3, (js i, tupOf #[.int (J i).1 u1, .int (J i).2 u2, .int i u3]) ∈ rest)
    (had : (ad, od) ∈ rest) (hod : od.IsDictOf (strKind prog w) kvs) (hlo : (ad == sysModules) = false) (hA : CountsAre kvs A)
    (hH : HdrAre rest rs D) (hB : ∀ x ∈ D, x.1 < 5 ∧ x.2 < 6) (hDl : D.length ≤ 100) (hAl : A.length ≤ 500) (hkk : k < 6)
    (hroom : dp + 20 < recursionLimit)
    (ret : ∀ ad' od' kvs' rs' n' rest' h' tk', Fr h₀ L h' m → News h₀ L h' ((hl, listOf (rs'.map Value.ref).toArray n') :: rest') → (∀ p ∈ rest, p ∈ rest') → (∀ p ∈ rest', p.1 ≠ hl) → (ad', od') ∈ rest' → od'.IsDictOf (strKind prog w) kvs' → (ad' == sysModules) = false →
      CountsAre kvs' (come H J k D A).2 → HdrAre rest' rs' (come H J k D A).1 → Q (.ref ad') { s with heap := h', toks := tk' }) :
    wpAny (model prog w) (ktrTop dp un gd cn cs L a ccd cl outer) (call (.ref 251) [.ref di, .ref l, .ref jl, .ref (js k), .ref ad]) Q E s := by
  obtain ⟨u1, u2, u3, hjk⟩ := hjs k hkk
  refine wpAny_call ?_
  w_strict (k_dflt ((refine' code_def ?k1 ?k2 ?k3 ?k4 ?k5 ?kA ?kF ?kK ?k6 ?k7 ?k8 ?k9 ?kB ?_ ?c2 ?c3 ?c4 ?c5; (case kA => exact rfl); (case kF => exact rfl); (case kK => first | exact rfl | assumption); (case k1 => k_asm); (case k2 => k_asm); (case k3 => k_asm); (case k4 => k_asm); (case k5 => k_asm); (case k6 => k_is); (case k7 => k_is); (case k8 => ktr_room); (case k9 => first | exact BindsTo.of_eq rfl | exact binds_K (by k_in) rfl (by k_is) rfl rfl rfl | (refine' kp_binds ?kx ?ke; (case kx => k_in); (case ke => exact fun _ => rfl))); (case c5 => decide); (case kB => exact locs rfl); (case c2 => exact rfl); (case c3 => exact rfl); (case c4 => exact rfl); k_whole; intro g' L' h' FG' F' N' B1 X1 T1; (try dsimp only); (try k_lift B1); (try k_fold))))
  k_steps
  unfold Halt
  rename News _ _ _ _ => N1
  rename Fr _ _ _ (fun y => if y = _ then _ else _) => F1
  obtain ⟨rest2, N2, hs2, hr2, mx, md, ml, mt1, mt2, mt3⟩ := repack N1 hr (by assumption) (by assumption) (by assumption) (by assumption) (by assumption) (by assumption)
  clear N1
  refine bl_spec B1 F1 X1 N2 T1 rfl (.tail _ (hs2 _ hl0)) hHs hsort (by omega) (by dsimp only [ktrTop]; omega) ?_
  clear F1 N2
  intro t1 h1 tk1 F1 N1
  k_steps
  unfold Halt
  rename Fr _ _ _ (fun y => if y = _ then _ else _) => F1
  rename News _ _ _ ((hl, _) :: rest2) => N1
  rename_i x' d' _ _ _ _ _ _ _ _ _ _ _ _ _ _ _ _ _ _ _ _ _ _ _
  refine kw_while (σ := CS) (fun c => (hl, listOf (c.rs.map Value.ref).toArray c.n) :: c.rest) (fun c => [("diary", .ref di), ("hours", .ref l), ("jobs", .ref jl), ("job", .ref (js c.k)), ("asked", .ref c.ad), ("order", .ref x'), ("place", .int c.p c.tp)])
    (fun c => comeLoop H J c.f c.p c.k c.D c.A = come H J k D A ∧ 6 ≤ c.f + c.p ∧ c.k < 6 ∧ (∀ p ∈ rest2, p ∈ c.rest) ∧ (∀ p ∈ c.rest, p.1 ≠ hl) ∧ (c.ad, c.od) ∈ c.rest ∧ c.od.IsDictOf (strKind prog w) c.kvs ∧ (c.ad == sysModules) = false ∧ CountsAre c.kvs c.A ∧ HdrAre c.rest c.rs c.D ∧
      (∀ x ∈ c.D, x.1 < 5 ∧ x.2 < 6) ∧ c.D.length + c.f ≤ 200 ∧ c.A.length + 2 * c.f ≤ 600) (fun c => c.f) ⟨6, nlt H (J k).1, t1, k, D, A, rs, n, ad, od, kvs, rest2⟩ F1 N1 (fun _ h => h) ?ka ?kp ?kt ?ke
  case ka => kst_all
  case kp => exact ⟨rfl, by dsimp only; omega, hkk, fun _ h => h, hr2, hs2 _ had, hod, hlo, hA, hH.mono hs2, hB, by dsimp only; omega, by dsimp only; omega⟩
  case ke => passes_own
  clear F1 N1
  rintro ⟨f, q, tq, kk, D1, A1, rs1, n1, ad1, od1, kvs1, rest3⟩ u h2 tk2 ⟨q1, q2, q3, q4, q5, q6, q7, q8, q9, q10, q11, q12, q13⟩ F2 N2
  dsimp only at q1 q2 q3 q4 q5 q6 q7 q8 q9 q10 q11 q12 q13 F2 N2 ⊢
  (generalize hLP : LPost _ _ _ _ _ _ _ = LQ); revert LQ; refine Halt.out ?_; intro LQ hLP
  obtain ⟨u4, u5, u6, hjk1⟩ := hjs kk q3
  have hjk2 := q4 _ (hs2 _ hjk1)
  k_steps
  unfold Halt
  refine br_spec B1 F2 X1 N2 T1 rfl (.tail _ (q4 _ (hs2 _ hl0))) hHs hsort (by omega) (by dsimp only [ktrTop]; omega) ?_
  clear F2 N2
  intro t2 h3 tk3 F2 N2
  k_steps
  · rename (q : Int) < _ => hq0
    have hq1 := nle_le H (J kk).2
    have hq : q < 5 := by omega
    rename Fr _ _ _ (kstB _ _) => F3
    rename News _ _ _ ((hl, _) :: rest3) => N3
    refine kdn_eval (knd := PySem.strKind prog w) F3 N3 (Top.nolimit T1) rfl rfl (List.cons_ne_nil _ _) (Nat.le_of_ble_eq_true rfl) ?_
    clear F3 N3
    intro d1 h4 o1 F2 N2 hd1 hdm ho1
    k_steps
    rw [chr_lc, str_fg kk q3]
    refine made_two F2 N2 (fun p hp => Nat.ne_of_lt (hd1 p hp)) ho1 (lc_ne_fg q3) ?_
    clear F2 N2
    intro h5 o2 F2 N2 ho2
    k_steps
    unfold Halt
    refine add_spec B1 F2 X1 N2 T1 rfl (.tail _ (.tail _ q6)) q7 q8 q9 (.head _) ho2 hdm (.cons (.cons .nil)) (by dsimp only [ktrTop]; omega) (by omega) (by simp) ?_
    clear F2 N2
    intro r or kvs2 h6 tk6 F2 N2 hr6 hor hrm hCA
    have hhr : hl < r := hr6 (hl, _) (.tail _ (.head _))
    have hhd : hl < d1 := hd1 (hl, _) (.head _)
    obtain ⟨rest4, N3, hs4, hr4, mr4⟩ := repack2 N2 q5 hhr hhd
    clear N2
    have hdi4 := hs4 _ (q4 _ (hs2 _ hdi))
    have hdx4 := hs4 _ (q4 _ (hs2 _ hdx))
    k_steps
    try unfold Halt
    rw [chr_lc]
    rename Fr _ _ _ (fun y => if y = _ then _ else _) => F4
    rename News _ _ _ ((hl, _) :: rest4) => N4
    have hH4 : HdrAre rest4 rs1 D1 := q10.mono hs4
    refine get_spec B1 F4 X1 N4 T1 rfl (.tail _ hdi4) (.tail _ hdx4) (.head _) (hH4.mono (fun _ h => .tail _ h)) q11 hq (by dsimp only [ktrTop]; omega) ?_
    clear F4 N4
    intro v h7 tk7 hv F4 N4
    have hjk4 := hs4 _ hjk2
    cases hg : hget D1 q with
    | none =>
      rw [hg] at hv
      dsimp only at hv
      subst hv
      k_steps
      unfold Halt
      rw [chr_uc, str_fg kk q3]
      rename Fr _ _ _ (fun y => if y = _ then _ else _) => F5
      rename News _ _ _ ((hl, _) :: rest4) => N5
      refine set_spec B1 F5 X1 N5 T1 rfl hr4 hdi4 hdx4 hH4 q11 hq q3 (by omega) (by dsimp only [ktrTop]; omega) ?_
      clear F5 N5
      intro h8 tk8 rs5 n5 T5 ot5 hH5 F5 N5 hT5 hTl5
      k_steps
      rw [← hLP]
      dsimp only [LPost]
      k_steps
      obtain ⟨f', rfl⟩ : ∃ f', f = f' + 1 := ⟨f - 1, by omega⟩
      rw [comeLoop_none (by omega) hg] at q1
      refine ret r or kvs2 rs5 n5 ((T5, ot5) :: rest4) h8 tk8 (by assumption) (by assumption) (fun p h => .tail _ (hs4 _ (q4 _ (hs2 _ h)))) ?_ (.tail _ mr4) hor hrm ?_ ?_
      · intro p hp
        rcases List.mem_cons.mp hp with rfl | hp
        · exact hTl5
        · exact hr4 p hp
      · rw [← q1]; exact hCA
      · rw [← q1]; exact hH5
    | some k' =>
      rw [hg] at hv
      obtain ⟨t9, rfl⟩ := hv
      have hk' := (q11 _ (hget_mem hg)).2
      dsimp only at hk'
      have mx4 := hs4 _ (q4 _ mx)
      have md4 := hs4 _ (q4 _ md)
      have hjl4 := hs4 _ (q4 _ (hs2 _ hjl))
      k_steps
      refine KIN.call_text (int_fg k' hk') (by rw [fg_len]; omega) ?_
      k_steps
      rename News _ _ _ ((hl, _) :: rest4) => N5
      refine item_listR (PySem.IsL.isList (N5 _ (.tail _ hjl4)).1) (by omega) (by omega) (js_at js k' hk') ?_
      obtain ⟨u7, u8, u9, hjo⟩ := hjs k' hk'
      have hjo4 := hs4 _ (q4 _ (hs2 _ hjo))
      k_steps
      unfold Halt
      rename Fr _ _ _ (fun y => if y = _ then _ else _) => F5
      refine cmp_spec B1 F5 X1 N5 T1 rfl (.tail _ mx4) (.tail _ md4) (.tail _ (hs4 _ (q4 _ ml))) (.tail _ (hs4 _ (q4 _ mt1))) (.tail _ (hs4 _ (q4 _ mt2))) (.tail _ (hs4 _ (q4 _ mt3))) (.tail _ hjk4) (.tail _ hjo4) (by dsimp only [ktrTop]; omega) ?_
      clear F5 N5
      intro v t10 h8 tk8 hv8 F5 N5
      obtain ⟨f', rfl⟩ : ∃ f', f = f' + 1 := ⟨f - 1, by omega⟩
      have hAl2 := addC_length [(lc q, 1), (fg kk, 1)] A1
      simp only [List.length_cons, List.length_nil] at hAl2
      k_steps
      · unfold Halt
        rw [chr_uc, str_fg kk q3]
        refine set_spec B1 F5 X1 N5 T1 rfl hr4 hdi4 hdx4 hH4 q11 hq q3 (by omega) (by dsimp only [ktrTop]; omega) ?_
        clear F5 N5
        intro h9 tk9 rs5 n5 T5 ot5 hH5 F5 N5 hT5 hTl5
        k_steps
        refine KIN.call_text (int_fg k' hk') (by rw [fg_len]; omega) ?_
        k_steps
        rename News _ _ _ ((hl, _) :: _ :: rest4) => N6
        refine item_listR (PySem.IsL.isList (N6 _ (.tail _ (.tail _ hjl4))).1) (by omega) (by omega) (js_at js k' hk') ?_
        k_steps
        have hb : before J kk k' = true := by
          rw [before, decide_eq_true_eq]
          have h9 := hv8.mp (by assumption)
          omega
        rw [comeLoop_yes (by omega) hg hb] at q1
        have hDl2 := hset_length D1 q kk
        rw [← hLP]
        refine lend ⟨f', q + 1, ?t1, k', hset D1 q kk, addC A1 [(lc q, 1), (fg kk, 1)], rs5, n5, r, or, kvs2, (T5, ot5) :: rest4⟩ (by assumption) (by assumption) (fun _ h => h) ?k1 ⟨⟨q1, by dsimp only; omega, hk', fun p h => .tail _ (hs4 _ (q4 _ h)), ?k2, .tail _ mr4, hor, hrm, hCA, hH5, ?k3, by dsimp only; omega, by dsimp only; omega⟩, by dsimp only; omega⟩
        case k1 => kst_all
        case k2 =>
          intro p hp
          rcases List.mem_cons.mp hp with rfl | hp
          · exact hTl5
          · exact hr4 p hp
        case k3 =>
          intro x hx
          rcases hset_mem hx with hx | hx
          · exact q11 x hx
          · subst hx; exact ⟨hq, q3⟩
      · have hb : before J kk k' = false := by
          rw [before, decide_eq_false_iff_not]
          intro h9
          exact absurd (hv8.mpr (by omega)) (by assumption)
        rw [comeLoop_no (by omega) hg hb] at q1
        rw [← hLP]
        refine lend ⟨f', q + 1, ?t2, kk, D1, addC A1 [(lc q, 1), (fg kk, 1)], rs1, n1, r, or, kvs2, rest4⟩ (by assumption) (by assumption) (fun _ h => h) ?k4 ⟨⟨q1, by dsimp only; omega, q3, fun p h => hs4 _ (q4 _ h), hr4, mr4, hor, hrm, hCA, hH4, q11, by dsimp only; omega, by dsimp only; omega⟩, by dsimp only; omega⟩
        case k4 => kst_all
  · rw [comeLoop_end (by omega)] at q1
    refine ret ad1 od1 kvs1 rs1 n1 rest3 h3 _ (by assumption) (by assumption) (fun p h => q4 _ (hs2 _ h)) q5 q6 q7 q8 ?_ ?_
    · rw [← q1]; exact q9
    · rw [← q1]; exact q10
end
section
/-- pairs of numbers stand at these tuples -/
inductive PairsAre (news : List (Addr × Obj)) : List Addr → List (Nat × Nat) → Prop where
  | nil : PairsAre news [] []
  | cons {r : Addr} {a b : Nat} {t1 t2 : Tok} {rs S} : (r, tupOf #[.int a t1, .int b t2]) ∈ news → PairsAre news rs S → PairsAre news (r :: rs) ((a, b) :: S)
theorem PairsAre.length {news rs S} (h : PairsAre news rs S) : rs.length = S.length := by induction h <;> simp_all
theorem PairsAre.mono {news news' rs S} (h : PairsAre news rs S) (hs : ∀ p ∈ news, p ∈ news') : PairsAre news' rs S := by
  induction h with
  | nil => exact .nil
  | cons hm _ ih => exact .cons (hs _ hm) ih
theorem PairsAre.get {news rs S} (h : PairsAre news rs S) : ∀ {i : Nat} {r : Addr}, rs[i]? = some r → ∃ a b t1 t2, S[i]? = some (a, b) ∧ (r, tupOf #[.int (a : Nat) t1, .int (b : Nat) t2]) ∈ news := by
  induction h with
  | nil => intro i r h; simp at h
  | cons hm _ ih =>
    intro i r h
    cases i with
    | zero => simp at h; subst h; exact ⟨_, _, _, _, rfl, hm⟩
    | succ j => simpa using ih (by simpa using h)
theorem PairsAre.append {news rs S rs' S'} (h : PairsAre news rs S) (h' : PairsAre news rs' S') : PairsAre news (rs ++ rs') (S ++ S') := by
  induction h with
  | nil => exact h'
  | cons hm _ ih => exact .cons hm ih
/-- the spans cut at a size, the empty ones left out -/
def clip (z : Nat) (S : List (Nat × Nat)) : List (Nat × Nat) := (S.map fun x => (x.1, min x.2 z)).filter fun x => decide (x.1 < x.2)
theorem clip_take_succ {z : Nat} {S : List (Nat × Nat)} {i a b : Nat} (h : S[i]? = some (a, b)) : clip z (S.take (i + 1)) = clip z (S.take i) ++ if a < min b z then [(a, min b z)] else [] := by
  unfold clip
  rw [List.take_add_one, h]
  simp only [Option.toList_some, List.map_append, List.map_cons, List.map_nil, List.filter_append, List.filter_cons, List.filter_nil]
  congr 1
  by_cases hh : a < min b z <;> simp [hh]
/-- how many lie within -/
def insd (C : List (Nat × Nat)) (a b : Nat) : Nat := C.countP fun x => decide (a ≤ x.1) && decide (x.2 ≤ b)
/-- the greatest losses, up to each hour -/
def lostL (C : List (Nat × Nat)) : Nat → List Int
  | 0 => [0]
  | e + 1 => lostL C e ++ [((List.range (e + 1)).map fun i => (lostL C e).getD i 0 + (insd C i (e + 1) : Nat) - (((e + 1 : Nat) : Int) - (i : Nat))).foldl max ((lostL C e).getD e 0)]
theorem lostL_length (C : List (Nat × Nat)) : ∀ e, (lostL C e).length = e + 1
  | 0 => rfl
  | e + 1 => by rw [lostL, List.length_append, lostL_length C e]; rfl
/-- what _law_most tells -/
def mostOf (S : List (Nat × Nat)) (z : Nat) : Int := (clip z S).length - (lostL (clip z S) z).getD z 0
theorem insd_take_succ {C : List (Nat × Nat)} {k a b x y : Nat} (h : C[k]? = some (a, b)) : insd (C.take (k + 1)) x y = insd (C.take k) x y + if x ≤ a ∧ b ≤ y then 1 else 0 := by
  unfold insd
  rw [List.take_add_one, h]
  simp only [Option.toList_some, List.countP_append, List.countP_cons, List.countP_nil, Bool.and_eq_true, decide_eq_true_eq, Nat.zero_add]
theorem clip_length (z : Nat) (S : List (Nat × Nat)) : (clip z S).length ≤ S.length := by
  unfold clip
  exact Nat.le_trans (List.length_filter_le _ _) (by simp)
theorem insd_le (C : List (Nat × Nat)) (a b : Nat) : insd C a b ≤ C.length := List.countP_le_length
theorem ints_snoc {vs : List Value} {ns : List Int} (h : IntsAre vs ns) (n : Int) (t : Tok) : IntsAre (vs ++ [.int n t]) (ns ++ [n]) := by
  induction h with
  | nil => exact .cons _ _ .nil
  | cons _ _ _ ih => exact .cons _ _ ih
theorem foldl_max_spec : ∀ (l : List Int) (x : Int), l.foldl max x ∈ x :: l ∧ ∀ a ∈ x :: l, a ≤ l.foldl max x
  | [], x => ⟨.head _, fun a ha => by simp at ha; subst ha; exact Int.le_refl _⟩
  | y :: l, x => by
    obtain ⟨h1, h2⟩ := foldl_max_spec l (max x y)
    rw [List.foldl_cons]
    refine ⟨?_, fun a ha => ?_⟩
    · rcases List.mem_cons.mp h1 with h | h
      · rw [h]
        rcases Int.le_total x y with hxy | hxy
        · rw [Int.max_eq_right hxy]; simp
        · rw [Int.max_eq_left hxy]; simp
      · simp [h]
    · have h3 := h2 (max x y) (.head _)
      rcases List.mem_cons.mp ha with rfl | ha
      · omega
      · rcases List.mem_cons.mp ha with rfl | ha
        · omega
        · exact h2 a (.tail _ ha)
/-- the losses weighed for an hour -/
def oversL (C : List (Nat × Nat)) (e j : Nat) : List Int := (lostL C e).getD e 0 :: (List.range j).map fun i => (lostL C e).getD i 0 + (insd C i (e + 1) : Nat) - (((e + 1 : Nat) : Int) - (i : Nat))
local macro_rules | `(tactic| walk_at "call builtin:max") => `(tactic| ((with_reducible show wpAny _ _ (call (Value.builtin "max") [Value.ref _]) _ _ _); refine Halt.out ?_))
local macro_rules | `(tactic| walk_at "subscriptTail Name Constant ref int") => `(tactic| (k_here; (with_reducible show wpAny _ _ (subscriptTail _ _ (Value.ref _) (Value.int _ _)) _ _ _); k_dflt (refine' item_tupleT ?t ?a ?b ?c ?d ?_; (case t => exact News.isTup (by k_asm) (by k_mem)); (case a => decide); (case b => decide); (case c => rfl); (case d => rfl); k_whole)))
local macro_rules | `(tactic| walk_at "call builtin:list.append") => `(tactic| refine Halt.out ?_)
local macro_rules | `(tactic| walk_at "subscriptTail Name UnaryOp ref int") => `(tactic| refine Halt.out ?_)
local macro_rules | `(tactic| walk_at "subscriptTail Name Name ref int") => `(tactic| refine Halt.out ?_)
local macro_rules | `(tactic| walk_at "call builtin:len") => `(tactic| refine Halt.out ?_)
set_option maxRecDepth 100000 in
set_option maxHeartbeats 8000000 in
set_option pp.maxSteps 4000 in
theorem most_spec {prog : Program} {w : World} {p : Program} {loose : List Str} {mean : ExcName → Option Value} {mg mb : Str → Option Value}
    {dp un : Nat} {gd : Option (List Code)} {cn : Str} {cs : Scope} {a : Addr} {ccd : Value} {cl : List (Str × Addr)} {outer : List Env} {A₀ : Around} {base h₀ : Heap} {L : Addr} {m : Str → Option Value} {news : List (Addr × Obj)} {s : Shared} {Q E : Value → Shared → Prop}
    {l : Addr} {nl : Nat} {rs : List Addr} {S : List (Nat × Nat)} {z : Nat} {t : Tok}
    (B : Below A₀ base outer h₀) (F : Fr h₀ L s.heap m) (X : (hd.heap_39 w.params).In h₀) (N : News h₀ L s.heap news) (T : Top p loose mean mg mb h₀) (hk : cs.kind = .function)
    (hl : (l, listOf (rs.map Value.ref).toArray nl) ∈ news) (hS : PairsAre news rs S) (hSl : S.length ≤ 1000) (hz : z ≤ 1000) (hroom : dp + 6 < recursionLimit)
    (ret : ∀ t' h' tk', Fr h₀ L h' m → News h₀ L h' news → Q (.int (mostOf S z) t') { s with heap := h', toks := tk' }) :
    wpAny (model prog w) (ktrTop dp un gd cn cs L a ccd cl outer) (call (.ref 256) [.ref l, .int z t]) Q E s := by
  refine wpAny_call ?_
  w_strict (k_dflt ((refine' code_defC ?k1 ?k2 ?k3 ?k4 ?k5 ?kA ?kF ?kK ?k6 ?k7 ?k8 ?k9 ?kB ?kD ?_ ?c2 ?c3 ?c4; (case kA => exact rfl); (case kF => exact rfl); (case kK => first | exact rfl | assumption); (case k1 => k_asm); (case k2 => k_asm); (case k3 => k_asm); (case k4 => k_asm); (case k5 => k_asm); (case k6 => k_is); (case k7 => k_is); (case k8 => ktr_room); (case k9 => first | exact BindsTo.of_eq rfl | exact binds_K (by k_in) rfl (by k_is) rfl rfl rfl | (refine' kp_binds ?kx ?ke; (case kx => k_in); (case ke => exact fun _ => rfl))); (case kB => exact rfl); (case kD => decide +kernel); (case c2 => exact rfl); (case c3 => exact rfl); (case c4 => exact rfl); k_whole; intro g1 L1 h1 tk1 cells' FG1 F1 N1 Y' B1 X1 T1 l1; (try k_lt l1); k_cells Y'; (try simp only [List.cons_append, List.nil_append] at N1); (try dsimp only); (try k_lift B1); (try k_fold))))
  rename_i oa ob oc d1 d2 d3
  replace d1 : oa.data = .cell none := d1
  replace d2 : ob.data = .cell none := d2
  replace d3 : oc.data = .cell (some (.int z t)) := d3
  k_steps
  unfold Halt
  obtain ⟨u0, F2⟩ := fr_know [("spans", .ref l)] F1 (by kst_all)
  clear F1
  refine comp_start_used (cl := ?cl) ?hsw ?hclos rfl (by decide) (fun _ => rfl) ?_
  case hsw => with_unfolding_all rfl
  case hclos => with_unfolding_all rfl
  k_steps
  refine comp_list_used (σ := { c : List (Addr × Obj) × List Addr // ∀ p ∈ news, p ∈ c.1 }) (items := rs.map Value.ref) (nl := nl) (by rfl) (by rw [List.length_map, sizeLine_eq]; have := hS.length; omega) (by decide) rfl (fun c => (L1 + 1 + 1 + 1, oa) :: (L1 + 1 + 1, ob) :: (L1 + 1, oc) :: c.1.1)
    (fun i c ys => ys = c.1.2.map Value.ref ∧ PairsAre c.1.1 c.1.2 (clip z (S.take i)) ∧ (∀ p ∈ c.1.1, p.1 ≠ L1 + 1 + 1 + 1) ∧ (∀ p ∈ c.1.1, p.1 ≠ L1 + 1 + 1) ∧ (∀ p ∈ c.1.1, p.1 ≠ L1 + 1)) ⟨(news, []), fun _ h => h⟩ F2 N1 (fun _ h => h) ?hp (fun c => .tail _ (.tail _ (.tail _ (c.2 _ hl)))) ?turn ?done
  case hp =>
    refine ⟨rfl, .nil, ?_, ?_, ?_⟩ <;>
    · intro p hp
      have := ltN (l1 p hp)
      exact by k_ne
  case done =>
    clear F2 N1
    rintro ⟨⟨nw, rs'⟩, hsub⟩ ys Dl C oC h tk nD ⟨hys, hrs, hn1, hn2, hn3⟩ F2 N2 hDC hnD ho
    rw [List.length_map, hS.length, List.take_length] at hrs
    dsimp only at hys hrs hsub hn1 hn2 hn3 N2 ho
    subst hys
    have hnDl : ∀ p ∈ nw, p.1 ≠ Dl := fun p hp => (ho p (.tail _ (.tail _ (.tail _ hp)))).1
    have hDl1 : L1 + 1 + 1 + 1 < Dl := hnD (L1 + 1 + 1 + 1, oa) (.head _)
    have hDl9 := ltN hDl1
    k_steps
    refine uend ((L1 + 1 + 1 + 1, oa) :: (L1 + 1 + 1, ob) :: (L1 + 1, oc) :: (Dl, listOf (rs'.map Value.ref).toArray nD) :: nw) (by assumption) (by assumption) ?q1 ?q2 ?q3
    case q1 => ((try dsimp only); (repeat (refine List.forall_mem_cons.mpr ⟨(by first | ((repeat (first | (with_reducible exact List.Mem.head _) | refine List.Mem.tail _ ?_)); done) | ((repeat (first | (exact List.Mem.head _) | refine List.Mem.tail _ ?_)); done)), ?_⟩)); (intro p hp; first | (cases hp; done) | (repeat (first | exact hp | refine List.Mem.tail _ ?_))))
    case q2 =>
      have hDCn := ltN hDC
      have hDl2 := ltN hDl1
      intro p hp
      simp only [List.mem_cons] at hp
      rcases hp with h | h | h | h | h
      · subst h; exact (ho _ (.head _)).2
      · subst h; exact (ho _ (.tail _ (.head _))).2
      · subst h; exact (ho _ (.tail _ (.tail _ (.head _)))).2
      · subst h; exact Nat.ne_of_lt hDC
      · exact (ho _ (.tail _ (.tail _ (.tail _ h)))).2
    intro h2 F2 N2
    generalize hC : clip z S = Cs at hrs
    obtain ⟨u1, F3⟩ := fr_know [("shut", .ref Dl)] F2 (by kst_all)
    clear F2
    dsimp only
    k_steps
    unfold Halt
    refine wpAny_For ?_
    k_steps
    unfold Halt
    rename_i la _ hl1 hl2 hl3 hl4 hl5 _ F4 N4
    refine range2_rows F4 N4 ?_
    clear F4 N4
    intro h4 tk4 r4 t4 u4 v4 hr4 F4 N4
    refine kw_range (σ := Obj × Obj × List Value × Nat) (n := z) (by rfl) hr4 (small_one (by omega) (by omega) (by omega) (by omega)) (by rw [rangeSize_one]; split <;> omega)
      (fun c => (la, listOf c.2.2.1.toArray c.2.2.2) :: (L1 + 1 + 1 + 1, c.1) :: (L1 + 1 + 1, c.2.1) :: (L1 + 1, oc) :: (Dl, listOf (rs'.map Value.ref).toArray nD) :: nw) (fun c => [("shut", .ref Dl), ("lost", .ref la)])
      (fun i c => (∃ v, c.1.data = .cell v) ∧ (∃ v, c.2.1.data = .cell v) ∧ IntsAre c.2.2.1 (lostL Cs i)) (oa, ob, [.int 0 _], 0) F4 N4 (fun _ h => h) ?ka ⟨⟨_, d1⟩, ⟨_, d2⟩, ?kz⟩ ?kt ?kd ?ke
    case ka => kst_all
    case ke => passes_own
    case kz => exact .cons 0 _ .nil
    case kd =>
      clear F4 N4
      rintro ⟨oa3, ob3, lv, ln⟩ u h tk ⟨_, _, hlv⟩ F4 N4
      dsimp only at hlv F4 N4
      k_steps
      unfold Halt
      refine len_list (News.isList N4 (.tail _ (.tail _ (.tail _ (.tail _ (.head _)))))) (by simp; have h1 := hrs.length; have h2 := clip_length z S; rw [hC] at h2; omega) ?_
      k_steps
      unfold Halt
      refine item_list_ints_negR (News.isList N4 (.head _)) hlv (by omega) (by rw [lostL_length]; omega) (by omega) ?_
      intro t11
      have e11 : ((-1 : Int) + ((lostL Cs z).length : Nat)).toNat = z := by rw [lostL_length]; omega
      rw [e11]
      k_steps
      rename News h₀ L _ _ => N5
      have e12 : (((rs'.map Value.ref).toArray.size : Nat) : Int) - (lostL Cs z).getD z 0 = mostOf S z := by
        rw [mostOf, hC, List.size_toArray, List.length_map, hrs.length]
      rw [e12]
      exact ret _ _ _ (by assumption) (cb_drop N5 fun p hp => .tail _ (.tail _ (.tail _ (.tail _ (.tail _ (hsub p hp))))))
    clear F4 N4
    rintro i ⟨oa2, ob2, lv, ln⟩ te u I oI h tk hi ⟨⟨v1, d1'⟩, ⟨v2, d2'⟩, hlv⟩ hoff F4 N4
    dsimp only at d1' d2' hlv hoff F4 N4 ⊢
    (generalize hLP1 : LPost _ _ _ _ _ _ _ = LQ1); revert LQ1; refine Halt.out ?_; intro LQ1 hLP1
    have i1 : @Ne Nat (L1 + 1 + 1 + 1) I := hoff (L1 + 1 + 1 + 1, oa2) (.tail _ (.head _))
    have i2 : @Ne Nat (L1 + 1 + 1) I := hoff (L1 + 1 + 1, ob2) (.tail _ (.tail _ (.head _)))
    have i3 : @Ne Nat la I := hoff (la, _) (.head _)
    k_steps
    rename_i oE F5 N5 dE
    have dE : oE.data = .cell (some (.int (((i + 1 : Nat) : Int)) te)) := by rw [dE]; congr 3; omega
    unfold Halt
    refine item_list_ints_negR (News.isList N5 (.tail _ (.head _))) hlv (by omega) (by rw [lostL_length]; omega) (by omega) ?_
    intro t5
    have e5 : ((-1 : Int) + ((lostL Cs i).length : Nat)).toNat = i := by rw [lostL_length]; omega
    rw [e5]
    k_steps
    unfold Halt
    refine wpAny_For ?_
    k_steps
    unfold Halt
    rename_i ov _ ho1 ho2 ho3 ho4 ho5 ho6 ho7 _ F6 N6
    refine range1_rows F6 N6 ?_
    clear F6 N6
    intro h6 tk6 r6 t6 u6 v6 hr6 F6 N6
    refine kw_range (σ := Obj × List Value × Nat) (n := i + 1) (by rfl) hr6 (small_one (by omega) (by omega) (by omega) (by omega)) (by rw [rangeSize_one]; split <;> omega)
      (fun c => (ov, listOf c.2.1.toArray c.2.2) :: (I, oI) :: (la, listOf lv.toArray ln) :: (L1 + 1 + 1 + 1, c.1) :: (L1 + 1 + 1, oE) :: (L1 + 1, oc) :: (Dl, listOf (rs'.map Value.ref).toArray nD) :: nw) (fun c => [("shut", .ref Dl), ("lost", .ref la), ("over", .ref ov)])
      (fun j c => (∃ v, c.1.data = .cell v) ∧ IntsAre c.2.1 (oversL Cs i j)) (oa2, [.int _ _], 0) F6 N6 (fun _ h => h) ?ja ⟨⟨_, d1'⟩, ?jz⟩ ?jt ?jd ?je
    case ja => kst_all
    case je => passes_own
    case jz => exact .cons _ _ .nil
    case jd =>
      clear F6 N6
      rintro ⟨oa3, ovs, on⟩ u6 h7 tk7 ⟨hd3, hov⟩ F6 N6
      dsimp only at hd3 hov F6 N6
      k_steps
      unfold Halt
      refine max_list_N (by rfl) F6 N6 (News.isList N6 (.head _)) hov (by simp [oversL]) ?_
      clear F6 N6
      intro h9 M tM tk9 F6 N6 hM1 hM2
      have hM : M = ((List.range (i + 1)).map fun x => (lostL Cs i).getD x 0 + (insd Cs x (i + 1) : Nat) - (((i + 1 : Nat) : Int) - (x : Nat))).foldl max ((lostL Cs i).getD i 0) := by
        obtain ⟨q1, q2⟩ := foldl_max_spec ((List.range (i + 1)).map fun x => (lostL Cs i).getD x 0 + (insd Cs x (i + 1) : Nat) - (((i + 1 : Nat) : Int) - (x : Nat))) ((lostL Cs i).getD i 0)
        have e1 := hM2 _ q1
        have e2 := q2 _ hM1
        omega
      k_steps
      unfold Halt
      refine append_K F6 N6 (.tail (by k_ne) (.tail (by k_ne) (.head ?kla))) ?_ (by rw [List.size_toArray, sizeLine_eq, hlv.length, lostL_length]; omega)
      case kla =>
        refine List.forall_mem_cons.mpr ⟨by k_ne, List.forall_mem_cons.mpr ⟨by k_ne, List.forall_mem_cons.mpr ⟨by k_ne, List.forall_mem_cons.mpr ⟨by k_ne, tbn_neAll hl5⟩⟩⟩⟩
      clear F6 N6
      intro h10 F7 N7
      k_steps
      rw [List.push_toArray] at N7
      rw [← hLP1]
      refine lend ⟨oa3, oE, lv ++ [.int M tM], ln + 1⟩ (by assumption) N7 (fun _ h => .tail _ h) ?kl1 ⟨⟨hd3, ⟨_, dE⟩, ?kl2⟩, ?kl3⟩
      case kl1 => kst_all
      case kl2 => rw [lostL, ← hM]; exact ints_snoc hlv _ _
      case kl3 =>
        intro p hp
        simp only [List.mem_cons] at hp
        rcases hp with h | h | h | h | h | h
        · subst h; exact i3
        · subst h; exact i1
        · subst h; exact i2
        · exact hoff p (h ▸ .tail _ (.tail _ (.tail _ (.head _))))
        · exact hoff p (h ▸ .tail _ (.tail _ (.tail _ (.tail _ (.head _)))))
        · exact hoff p (.tail _ (.tail _ (.tail _ (.tail _ (.tail _ h)))))
    clear F6 N6
    rintro j ⟨oa3, ovs, on⟩ ts u6 I2 oI2 h7 tk7 hj ⟨⟨v3, hd3⟩, hov⟩ hoff2 F6 N6
    dsimp only at hd3 hov hoff2 F6 N6 ⊢
    (generalize hLP2 : LPost _ _ _ _ _ _ _ = LQ2); revert LQ2; refine Halt.out ?_; intro LQ2 hLP2
    have j1 : @Ne Nat (L1 + 1 + 1 + 1) I2 := hoff2 (L1 + 1 + 1 + 1, oa3) (.tail _ (.tail _ (.tail _ (.head _))))
    have j2 : @Ne Nat ov I2 := hoff2 (ov, _) (.head _)
    k_steps
    rename_i oS F7 N7 dS
    have dS : oS.data = .cell (some (.int (j : Int) ts)) := by rw [dS]; congr 3; omega
    unfold Halt
    refine comp_start_used (cl := ?cl2) ?hsw2 ?hclos2 rfl (by decide) (fun _ => rfl) ?_
    case hsw2 => with_unfolding_all rfl
    case hclos2 => with_unfolding_all rfl
    k_steps
    refine comp_list_used (σ := List Addr) (items := rs'.map Value.ref) (nl := nD) (by rfl) (by rw [List.length_map, sizeLine_eq]; have h1 := hrs.length; have h2 := clip_length z S; rw [hC] at h2; omega) (by decide) rfl
      (fun c => (I2, oI2) :: (ov, listOf ovs.toArray on) :: (I, oI) :: (la, listOf lv.toArray ln) :: (L1 + 1 + 1 + 1, oS) :: (L1 + 1 + 1, oE) :: (L1 + 1, oc) :: (Dl, listOf (rs'.map Value.ref).toArray nD) :: nw)
      (fun k c ys => ys = c.map Value.ref ∧ c.length = insd (Cs.take k) j (i + 1)) [] F7 N7 (fun _ h => h) ⟨rfl, rfl⟩ (fun _ => .tail _ (.tail _ (.tail _ (.tail _ (.tail _ (.tail _ (.tail _ (.head _)))))))) ?turn2 ?done2
    case done2 =>
      clear F7 N7
      rintro sel ys Dk Ck oCk h8 tk8 nk ⟨hys, hsel⟩ F7 N7 hDCk hnDk hok
      rw [List.length_map, hrs.length, List.take_length] at hsel
      subst hys
      dsimp only
      k_steps
      refine uend ((Dk, listOf (sel.map Value.ref).toArray nk) :: (I2, oI2) :: (ov, listOf ovs.toArray on) :: (I, oI) :: (la, listOf lv.toArray ln) :: (L1 + 1 + 1 + 1, oS) :: (L1 + 1 + 1, oE) :: (L1 + 1, oc) :: (Dl, listOf (rs'.map Value.ref).toArray nD) :: nw) (by assumption) (by assumption) (fun _ h => h) ?qb1 ?qb2
      case qb1 =>
        intro p hp
        rcases List.mem_cons.mp hp with rfl | hp
        · exact Nat.ne_of_lt hDCk
        · exact (hok p hp).2
      intro h9 F9 N9
      dsimp only
      k_steps
      unfold Halt
      refine item_list_intsR (News.isList N9 (.tail _ (.tail _ (.tail _ (.tail _ (.head _)))))) hlv (by omega) (by rw [lostL_length]; omega) (by omega) ?_
      intro t10
      have d9 := ltN (hnDk (ov, listOf ovs.toArray on) (.tail _ (.head _)))
      dsimp only at d9
      k_steps
      unfold Halt
      refine len_list (News.isList N9 (.head _)) (by simp; have := insd_le Cs j (i + 1); have h1 := hrs.length; have h2 := clip_length z S; rw [hC] at h2; omega) ?_
      k_steps
      unfold Halt
      refine append_K F9 N9 (.tail (by k_ne) (.tail (by k_ne) (.head ?kov))) ?_ (by rw [List.size_toArray, sizeLine_eq, hov.length, oversL]; simp; omega)
      case kov =>
        refine List.forall_mem_cons.mpr ⟨by k_ne, List.forall_mem_cons.mpr ⟨by k_ne, List.forall_mem_cons.mpr ⟨by k_ne, List.forall_mem_cons.mpr ⟨by k_ne, List.forall_mem_cons.mpr ⟨by k_ne, List.forall_mem_cons.mpr ⟨by k_ne, tbn_neAll ho7⟩⟩⟩⟩⟩⟩
      clear F9 N9
      intro h10 F9 N9
      k_steps
      rw [List.push_toArray] at N9
      have e13 : (lostL Cs i).getD (j : Int).toNat 0 + (((sel.map Value.ref).toArray.size : Nat) : Int) - (((i + 1 : Nat) : Int) - (j : Int)) = (lostL Cs i).getD j 0 + (insd Cs j (i + 1) : Nat) - (((i + 1 : Nat) : Int) - (j : Nat)) := by
        rw [List.size_toArray, List.length_map, hsel]; simp
      rw [e13] at N9
      rw [← hLP2]
      refine lend ⟨oS, ovs ++ [.int _ _], on + 1⟩ (by assumption) N9 (fun _ h => .tail _ h) ?kn1 ⟨⟨⟨_, dS⟩, ?kn2⟩, ?kn3⟩
      case kn1 => kst_all
      case kn2 =>
        have e14 : oversL Cs i (j + 1) = oversL Cs i j ++ [(lostL Cs i).getD j 0 + (insd Cs j (i + 1) : Nat) - (((i + 1 : Nat) : Int) - (j : Nat))] := by
          unfold oversL
          rw [List.range_succ, List.map_append]; rfl
        rw [e14]; exact ints_snoc hov _ _
      case kn3 =>
        intro p hp
        simp only [List.mem_cons] at hp
        rcases hp with h | h | h | h | h | h | h | h
        · subst h; exact j2
        · exact hoff2 p (h ▸ .tail _ (.head _))
        · exact hoff2 p (h ▸ .tail _ (.tail _ (.head _)))
        · subst h; exact j1
        · exact hoff2 p (h ▸ .tail _ (.tail _ (.tail _ (.tail _ (.head _)))))
        · exact hoff2 p (h ▸ .tail _ (.tail _ (.tail _ (.tail _ (.tail _ (.head _))))))
        · exact hoff2 p (h ▸ .tail _ (.tail _ (.tail _ (.tail _ (.tail _ (.tail _ (.head _)))))))
        · exact hoff2 p (.tail _ (.tail _ (.tail _ (.tail _ (.tail _ (.tail _ (.tail _ h)))))))
    clear F7 N7
    rintro g' C' D' I' oI' hg' hID' hDC' hnI' k v sel ys u7 h8 tk8 nk hk8 ⟨hys, hsel⟩ hok F7 N7
    have Xg' := X1.keeps hg'
    have Tg' := T1.keeps hg'
    rw [List.getElem?_map] at hk8
    cases hr8 : rs'[k]? with
    | none => rw [hr8] at hk8; cases hk8
    | some r8 =>
      rw [hr8] at hk8
      cases hk8
      obtain ⟨a8, b8, t8, u8, hC8, hm8⟩ := hrs.get hr8
      dsimp only
      k_steps
      · rename (j : Int) ≤ _ => ha1
        rename (b8 : Int) ≤ _ => ha2
        refine ce (sel ++ [r8]) (by assumption) (by assumption) (fun _ h => h) ⟨by simp [hys], ?_⟩ hok
        rw [insd_take_succ hC8, if_pos ⟨by omega, by omega⟩, List.length_append, hsel]; rfl
      · rename (j : Int) ≤ _ => ha1
        rename ¬ (b8 : Int) ≤ _ => ha2
        refine ce sel (by assumption) (by assumption) (fun _ h => h) ⟨hys, ?_⟩ hok
        rw [insd_take_succ hC8, if_neg (by omega), hsel]; rfl
      · rename ¬ (j : Int) ≤ _ => ha1
        refine ce sel (by assumption) (by assumption) (fun _ h => h) ⟨hys, ?_⟩ hok
        rw [insd_take_succ hC8, if_neg (by omega), hsel]; rfl
  clear F2 N1
  rintro g C Dl I oI hg hID hDC hnI i v ⟨⟨nw, rs'⟩, hsub⟩ ys u h tk nD hi ⟨hys, hrs, hn1, hn2, hn3⟩ ho F2 N2
  dsimp only at hys hrs hsub hn1 hn2 hn3 N2 ho
  have Xg := X1.keeps hg
  have Tg := T1.keeps hg
  rw [List.getElem?_map] at hi
  cases hr : rs[i]? with
  | none => rw [hr] at hi; cases hi
  | some r =>
    rw [hr] at hi
    cases hi
    obtain ⟨a0, b0, t1, t2, hSi, hmem⟩ := hS.get hr
    have hm2 := hsub _ hmem
    k_steps
    · rename_i T9 _ F3 N3 _ _ _ _ _ hAll
      have ht := tb_ltOf hAll
      have hb : (if (z : Int) < (b0 : Int) then (z : Int) else (b0 : Int)) = ((min b0 z : Nat) : Int) := by split <;> omega
      have hc : a0 < min b0 z := by
        rename (a0 : Int) < _ => hq
        rw [hb] at hq; omega
      rw [hb] at N3
      refine ce ⟨((T9, tupOf #[.int a0 t1, .int ((min b0 z : Nat) : Int) (if (z : Int) < (b0 : Int) then t else t2)]) :: nw, rs' ++ [T9]), fun p hp => .tail _ (hsub p hp)⟩ (by assumption) N3 ?w1 ⟨by simp [hys], ?w2, ?w3, ?w4, ?w5⟩ ?w6
      case w1 => ((try dsimp only); (repeat (refine List.forall_mem_cons.mpr ⟨(by first | ((repeat (first | (with_reducible exact List.Mem.head _) | refine List.Mem.tail _ ?_)); done) | ((repeat (first | (exact List.Mem.head _) | refine List.Mem.tail _ ?_)); done)), ?_⟩)); (intro p hp; first | (cases hp; done) | (repeat (first | exact hp | refine List.Mem.tail _ ?_))))
      case w2 =>
        rw [clip_take_succ hSi, if_pos hc]
        exact (hrs.mono (fun _ h => .tail _ h)).append (.cons (.head _) .nil)
      case w3 => exact List.forall_mem_cons.mpr ⟨Nat.ne_of_gt (by assumption), hn1⟩
      case w4 => exact List.forall_mem_cons.mpr ⟨Nat.ne_of_gt (by assumption), hn2⟩
      case w5 => exact List.forall_mem_cons.mpr ⟨Nat.ne_of_gt (by assumption), hn3⟩
      case w6 =>
        intro p hp
        simp only [List.mem_cons] at hp
        rcases hp with h | h | h | h | h
        · exact ho p (h ▸ .head _)
        · exact ho p (h ▸ .tail _ (.head _))
        · exact ho p (h ▸ .tail _ (.tail _ (.head _)))
        · subst h; exact ⟨Nat.ne_of_gt (by assumption), Nat.ne_of_gt (by assumption)⟩
        · exact ho p (.tail _ (.tail _ (.tail _ h)))
    · have hb : (if (z : Int) < (b0 : Int) then (z : Int) else (b0 : Int)) = ((min b0 z : Nat) : Int) := by split <;> omega
      have hc : ¬ a0 < min b0 z := by
        rename ¬ (a0 : Int) < _ => hq
        rw [hb] at hq; omega
      refine ce ⟨(nw, rs'), hsub⟩ (by assumption) (by assumption) (fun _ h => h) ⟨hys, ?w7, hn1, hn2, hn3⟩ ho
      rw [clip_take_succ hSi, if_neg hc, List.append_nil]
      exact hrs
end
section
section
variable {s b e : Nat → Nat} {M : Nat → Option Nat} {bef : Nat → Nat → Prop} {P : List Nat} {z : Nat}
theorem insd_ins (i x : Nat) : insd (clip z (P.map fun k => (s k, b k))) i x = ins s b z P i x := by
  unfold insd clip ins sh
  rw [List.countP_filter, List.map_map, List.countP_map]
  refine List.countP_congr fun k _ => ?_
  simp only [Function.comp, Bool.and_eq_true, decide_eq_true_eq]
  omega
theorem lostL_at (C : List (Nat × Nat)) {i : Nat} : ∀ {x : Nat}, i ≤ x → (lostL C x).getD i 0 = (lostL C i).getD i 0
  | 0, h => by rw [Nat.le_zero.mp h]
  | x + 1, h => by
    rcases Nat.eq_or_lt_of_le h with rfl | h
    · rfl
    · rw [lostL, List.getD_eq_getElem?_getD, List.getElem?_append_left (by rw [lostL_length]; omega), ← List.getD_eq_getElem?_getD]
      exact lostL_at C (by omega)
theorem lostL_succ (C : List (Nat × Nat)) (x : Nat) : (lostL C (x + 1)).getD (x + 1) 0 = ((List.range (x + 1)).map fun i => (lostL C i).getD i 0 + (insd C i (x + 1) : Nat) - (((x + 1 : Nat) : Int) - (i : Nat))).foldl max ((lostL C x).getD x 0) := by
  rw [lostL, List.getD_eq_getElem?_getD, List.getElem?_append_right (by rw [lostL_length]; exact Nat.le_refl _), lostL_length, Nat.sub_self]
  show List.foldl _ _ _ = _
  congr 1
  refine List.map_congr_left fun i hi => ?_
  rw [lostL_at C (by have := List.mem_range.mp hi; omega)]
theorem lost_un (Y : Left s b e M bef) (hP : P.Nodup) (h6 : ∀ k ∈ P, k < 6) (hcl : ∀ k ∈ P, ∀ j, j < 6 → bef j k → j ∈ P) :
    ∀ x, x ≤ z → (lostL (clip z (P.map fun k => (s k, b k))) x).getD x 0 = ((un s b e M z P x : Nat) : Int) := by
  intro x
  induction x using Nat.strongRecOn with
  | _ x ih =>
    intro hx
    cases x with
    | zero =>
      have h0 : un s b e M z P 0 = 0 := by
        unfold un
        rw [List.countP_eq_zero]
        intro k _
        simp only [sh, Bool.and_eq_true, decide_eq_true_eq]
        omega
      rw [h0]; rfl
    | succ x =>
      rw [lostL_succ]
      have e1 : ((List.range (x + 1)).map fun i => (lostL (clip z (P.map fun k => (s k, b k))) i).getD i 0 + (insd (clip z (P.map fun k => (s k, b k))) i (x + 1) : Nat) - (((x + 1 : Nat) : Int) - (i : Nat)))
          = (List.range (x + 1)).map fun i => ((un s b e M z P i : Nat) : Int) + (ins s b z P i (x + 1) : Nat) - (((x + 1 : Nat) : Int) - (i : Nat)) := by
        refine List.map_congr_left fun i hi => ?_
        have hi' := List.mem_range.mp hi
        rw [ih i hi' (by omega), insd_ins]
      rw [e1, ih x (Nat.lt_succ_self _) (by omega)]
      obtain ⟨m1, m2⟩ := foldl_max_spec ((List.range (x + 1)).map fun i => ((un s b e M z P i : Nat) : Int) + (ins s b z P i (x + 1) : Nat) - (((x + 1 : Nat) : Int) - (i : Nat))) ((un s b e M z P x : Nat) : Int)
      apply Int.le_antisymm
      · rcases List.mem_cons.mp m1 with h | h
        · rw [h]
          have := un_mono (s := s) (b := b) (e := e) (M := M) (P := P) (z := z) (Nat.le_succ x)
          have h' : un s b e M z P x ≤ un s b e M z P (x + 1) := this
          omega
        · obtain ⟨i, hi, h2⟩ := List.mem_map.mp h
          have hi' := List.mem_range.mp hi
          have := un_upper (z := z) Y hP (i := i) (x := x + 1) (by omega)
          rw [← h2]
          omega
      · rcases un_lower (z := z) Y h6 hcl (x := x) hx with h | ⟨i, hi, h⟩
        · rw [h]; exact m2 _ (.head _)
        · have := m2 _ (.tail _ (List.mem_map_of_mem (f := fun i => ((un s b e M z P i : Nat) : Int) + (ins s b z P i (x + 1) : Nat) - (((x + 1 : Nat) : Int) - (i : Nat))) (List.mem_range.mpr (show i < x + 1 by omega))))
          refine Int.le_trans ?_ this
          omega
/-- as many have an hour as the text tells -/
theorem most_mt (Y : Left s b e M bef) (hP : P.Nodup) (h6 : ∀ k ∈ P, k < 6) (hcl : ∀ k ∈ P, ∀ j, j < 6 → bef j k → j ∈ P) :
    mostOf (P.map fun k => (s k, b k)) z = ((P.countP (mt e M z) : Nat) : Int) := by
  unfold mostOf
  rw [lost_un Y hP h6 hcl z (Nat.le_refl _)]
  have e1 : (clip z (P.map fun k => (s k, b k))).length = P.countP (sh s b z) := by
    unfold clip
    rw [← List.countP_eq_length_filter, List.map_map, List.countP_map]
    rfl
  have e2 : un s b e M z P z = P.countP fun k => sh s b z k && !mt e M z k := by
    unfold un
    refine List.countP_congr fun k _ => ?_
    simp only [Bool.and_eq_true, decide_eq_true_eq]
    exact ⟨fun h => ⟨h.1.1, h.2⟩, fun h => ⟨⟨h.1, Nat.min_le_right _ _⟩, h.2⟩⟩
  have e3 : P.countP (mt e M z) = P.countP fun k => sh s b z k && mt e M z k := by
    refine List.countP_congr fun k _ => ?_
    simp only [Bool.and_eq_true]
    refine ⟨fun h => ⟨?_, h⟩, fun h => h.2⟩
    obtain ⟨p, _, _, h3, h4, h5⟩ := mt_hour Y h
    simp only [sh, decide_eq_true_eq]
    omega
  have := countP_split (sh s b z) (mt e M z) P
  rw [e1, e2, e3]
  omega
end
end
section
local macro_rules | `(tactic| walk_at "subscriptTail") => `(tactic| refine Halt.out ?_)
local macro_rules | `(tactic| walk_at "subscriptTail Name Slice ref ref") => `(tactic| refine Halt.out ?_)
local macro_rules | `(tactic| walk_at "subscriptTail Name UnaryOp ref int") => `(tactic| refine Halt.out ?_)
local macro_rules | `(tactic| walk_at "subscriptTail Name Name ref int") => `(tactic| refine Halt.out ?_)
local macro_rules | `(tactic| walk_at "subscriptTail Name Constant ref int") => `(tactic| (k_here; (with_reducible show wpAny _ _ (subscriptTail _ _ (Value.ref _) (Value.int _ _)) _ _ _); k_dflt (refine' item_tupleT ?t ?a ?b ?c ?d ?_; (case t => exact News.isTup (by k_asm) (by k_mem)); (case a => decide); (case b => decide); (case c => rfl); (case d => rfl); k_whole)))
local macro_rules | `(tactic| walk_at "call builtin:list.append") => `(tactic| refine Halt.out ?_)
local macro_rules | `(tactic| walk_at "call builtin:max") => `(tactic| ((with_reducible show wpAny _ _ (call (Value.builtin "max") [Value.ref _]) _ _ _); refine Halt.out ?_))
local macro_rules | `(tactic| walk_at "call builtin:min") => `(tactic| ((with_reducible show wpAny _ _ (call (Value.builtin "min") [Value.ref _]) _ _ _); refine Halt.out ?_))
local macro_rules | `(tactic| walk_at "binaryOp Add ref ref") => `(tactic| refine Halt.out ?_)
local macro_rules | `(tactic| walk_at "call builtin:sorted") => `(tactic| refine Halt.out ?_)
local macro_rules | `(tactic| walk_at "call builtin:len") => `(tactic| refine Halt.out ?_)
local macro_rules | `(tactic| k_all) => `(tactic| exact off_ne (by assumption) (by omega) (by omega))
local macro_rules | `(tactic| walk_at "call ref") => `(tactic| ((show wpAny _ _ (call (Value.ref 204) _ _) _ _ _); refine Halt.out ?_))
section
set_option maxRecDepth 100000 in
set_option maxHeartbeats 8000000 in
set_option pp.maxSteps 4000 in
theorem blk0 {prog : Program} {w : World} {p : Program} {loose : List Str} {mean : ExcName → Option Value} {mg mb : Str → Option Value}
    {dp un : Nat} {gd : Option (List Code)} {cn : Str} {cs : Scope} {st : Stmt} {a : Addr} {ccd : Value} {outer : List Env} {A₀ : Around} {base h₀ : Heap} {L : Addr} {m : Str → Option Value} {rest : List (Addr × Obj)} {s : Shared} {Q : Flow → Shared → Prop} {E : Value → Shared → Prop}
    {o9 o8 o7 o6 o5 o4 o3 o2 o1 : Obj} {c1 : Option Value} {l : Addr} {vs : List Value} {ns : List Int}
    (hcs : lawS = cs) (hst : lawB 0 = some st)
    (B : Below A₀ base outer h₀) (F : Fr h₀ L s.heap m) (X : (hd.heap_39 w.params).In h₀) (T : Top p loose mean mg mb h₀)
    (N : News h₀ L s.heap ((L + 1 + 1 + 1 + 1 + 1 + 1 + 1 + 1 + 1, o9) :: (L + 1 + 1 + 1 + 1 + 1 + 1 + 1 + 1, o8) :: (L + 1 + 1 + 1 + 1 + 1 + 1 + 1, o7) :: (L + 1 + 1 + 1 + 1 + 1 + 1, o6) :: (L + 1 + 1 + 1 + 1 + 1, o5) :: (L + 1 + 1 + 1 + 1, o4) :: (L + 1 + 1 + 1, o3) :: (L + 1 + 1, o2) :: (L + 1, o1) :: rest)) (hr : Off L rest) (d1 : o1.data = .cell c1)
    (hm : ∀ p ∈ [(("script" : Str), Value.ref l)], m p.1 = some p.2) (hl : h₀.IsList l vs.toArray) (hi : IntsAre vs ns) (hlen : ns.length ≤ 63)
    (ret : ∀ h' tk' m' o1' D us, Fr h₀ L h' m' → News h₀ L h' ((L + 1 + 1 + 1 + 1 + 1 + 1 + 1 + 1 + 1, o9) :: (L + 1 + 1 + 1 + 1 + 1 + 1 + 1 + 1, o8) :: (L + 1 + 1 + 1 + 1 + 1 + 1 + 1, o7) :: (L + 1 + 1 + 1 + 1 + 1 + 1, o6) :: (L + 1 + 1 + 1 + 1 + 1, o5) :: (L + 1 + 1 + 1 + 1, o4) :: (L + 1 + 1 + 1, o3) :: (L + 1 + 1, o2) :: (L + 1, o1') :: (D, listOf us.toArray 0) :: rest) →
      o1'.data = .cell (some (.ref D)) → L + 9 < D → IntsAre us (drawnOf ns) → Q .next { s with heap := h', toks := tk' }) :
    wpAny (model prog w) (ktrTop dp un gd cn cs L a ccd (cellsFrom (L + 1) cs.names []) outer) (exec st (envX cn cs L a ccd (cellsFrom (L + 1) cs.names []))) Q E s := by
  conv at hcs => lhs; whnf
  conv at hst => lhs; whnf
  cases hst
  subst hcs
  obtain ⟨u0, F1⟩ := fr_know [("script", .ref l)] F hm
  clear F
  have hvs := hi.length
  w_strict k_steps
  unfold Halt
  refine kmk_slice_ints F1 N (hl.at fun o e => F1.keep _ _ e) .none (.int 17 _) hi (kmk_upto hi (by omega)) rfl ?_ (by with_unfolding_all rfl) (by intro _; with_unfolding_all rfl) (by rw [List.size_toArray, sizeLine_eq]; omega)
  intro D1 ws1 h1 F2 N2 hD1 hi1 _ _
  clear F1 N
  k_steps
  unfold Halt
  rename News _ _ _ _ => N3
  rename Fr _ _ _ _ => F3
  refine kmk_slice_ints F3 N3 (hl.at fun o e => F3.keep _ _ e) .none (.int 17 _) hi (kmk_upto hi (by omega)) rfl ?_ (by with_unfolding_all rfl) (by intro _; with_unfolding_all rfl) (by rw [List.size_toArray, sizeLine_eq]; omega)
  intro D2 ws2 h2 F4 N4 hD2 hi2 _ _
  clear F3 N3
  have hD19 := ltN (hD1 _ (.head _))
  have hD29 := ltN (hD2 _ (.tail _ (.tail _ (.head _))))
  k_steps
  unfold Halt
  refine len_list (News.isList N4 (.head _)) (by rw [List.size_toArray, hi2.length, List.length_take]; omega) ?_
  k_steps
  unfold Halt
  rename News _ _ _ _ => N5
  rename Fr _ _ _ _ => F5
  refine slice_ints_tmp F5 N5 (News.isList N5 (.tail _ (.head _))) (.int _ _) .none (kmk_from (ns := lits) ?hlits2 (by omega)) ?_ (by with_unfolding_all rfl) (by rw [List.size_toArray, sizeLine_eq]; simp)
  case hlits2 => repeat (first | exact .nil | refine .cons _ _ ?_)
  intro D3 ws3 h3 F6 N6 hD3 hi3
  clear F5 N5
  k_steps
  unfold Halt
  refine kmk_add_ints F6 N6 (News.isList N6 (.tail _ (.tail _ (.tail _ (.head _))))) (News.isList N6 (.head _)) hi1 hi3 ?_ (by rw [sizeLine_eq, List.length_take, List.length_drop]; have h : lits.length = 17 := rfl; omega)
  intro D4 us h4 F7 N7 hD4 hi4
  have hD49 := ltN (hD4 _ (.tail _ (.tail _ (.tail _ (.tail _ (.head _))))))
  dsimp only at hD49
  clear F6 N6
  have N8 : News h₀ L h4 ((L + 1 + 1 + 1 + 1 + 1 + 1 + 1 + 1 + 1, o9) :: (L + 1 + 1 + 1 + 1 + 1 + 1 + 1 + 1, o8) :: (L + 1 + 1 + 1 + 1 + 1 + 1 + 1, o7) :: (L + 1 + 1 + 1 + 1 + 1 + 1, o6) :: (L + 1 + 1 + 1 + 1 + 1, o5) :: (L + 1 + 1 + 1 + 1, o4) :: (L + 1 + 1 + 1, o3) :: (L + 1 + 1, o2) :: (L + 1, o1) :: (D4, listOf us.toArray 0) :: rest) := cb_drop N7 (by
    ((try dsimp only); (repeat (refine List.forall_mem_cons.mpr ⟨(by first | ((repeat (first | (with_reducible exact List.Mem.head _) | refine List.Mem.tail _ ?_)); done) | ((repeat (first | (exact List.Mem.head _) | refine List.Mem.tail _ ?_)); done)), ?_⟩)); (intro p hp; first | (cases hp; done) | (repeat (first | exact hp | refine List.Mem.tail _ ?_)))))
  have hr2 : Off L ((D4, listOf us.toArray 0) :: rest) := hr.cons hD49
  clear N7
  k_steps
  refine ret _ _ _ _ D4 us (by assumption) (by assumption) (by assumption) hD49 ?_
  have e9 := hi2.length
  unfold drawnOf
  simp only [List.size_toArray, e9, Int.toNat_natCast] at hi4
  exact hi4
end
section
set_option maxRecDepth 100000 in
set_option maxHeartbeats 8000000 in
set_option pp.maxSteps 4000 in
theorem blk1 {prog : Program} {w : World} {p : Program} {loose : List Str} {mean : ExcName → Option Value} {mg mb : Str → Option Value}
    {dp un : Nat} {gd : Option (List Code)} {cn : Str} {cs : Scope} {st : Stmt} {a : Addr} {ccd : Value} {outer : List Env} {A₀ : Around} {base h₀ : Heap} {L : Addr} {m : Str → Option Value} {rest : List (Addr × Obj)} {s : Shared} {Q : Flow → Shared → Prop} {E : Value → Shared → Prop}
    {o9 o8 o7 o6 o5 o4 o3 o2 o1 : Obj} {hc : List (Addr × Obj)}
    (hcs : lawS = cs) (B : Below A₀ base outer h₀) (F : Fr h₀ L s.heap m) (X : (hd.heap_39 w.params).In h₀) (T : Top p loose mean mg mb h₀) (hst : lawB 1 = some st) (N : News h₀ L s.heap rest)
    (ret : ∀ h' tk' m' D, Fr h₀ L h' m' → News h₀ L h' ((D, listOf #[] 0) :: rest) → (∀ p ∈ rest, p.1 < D) → (∀ p ∈ [(("hours" : Str), Value.ref D)], m' p.1 = some p.2) → Q .next { s with heap := h', toks := tk' }) :
    wpAny (model prog w) (ktrTop dp un gd cn cs L a ccd (cellsFrom (L + 1) cs.names []) outer) (exec st (envX cn cs L a ccd (cellsFrom (L + 1) cs.names []))) Q E s := by
  conv at hcs => lhs; whnf
  conv at hst => lhs; whnf
  cases hst
  subst hcs
  w_strict k_steps
  refine ret _ _ _ _ (by assumption) (by assumption) (by assumption) (by kst_all)
theorem ins_sorted {ns : List Int} (hs : ns.Pairwise (· ≤ ·)) (x : Int) : (ns.take (nlt ns x) ++ x :: ns.drop (nlt ns x)).Pairwise (· ≤ ·) := by
  have hle := nlt_le ns x
  rw [List.pairwise_append, List.pairwise_cons]
  refine ⟨hs.sublist (List.take_sublist _ _), ⟨?_, hs.sublist (List.drop_sublist _ _)⟩, ?_⟩
  · intro b hb
    obtain ⟨i, hi, rfl⟩ := List.getElem_of_mem hb
    rw [List.length_drop] at hi
    rw [List.getElem_drop]
    have h1 := nlt_iff hs (x := x) (i := nlt ns x + i) (by omega)
    rw [List.getD_eq_getElem?_getD, List.getElem?_eq_getElem (by omega)] at h1
    simp at h1
    omega
  · intro a ha b hb
    obtain ⟨i, hi, rfl⟩ := List.getElem_of_mem ha
    rw [List.length_take] at hi
    rw [List.getElem_take]
    have h1 := (nlt_iff hs (x := x) (i := i) (by omega)).mpr (by omega)
    rw [List.getD_eq_getElem?_getD, List.getElem?_eq_getElem (by omega)] at h1
    simp at h1
    rcases List.mem_cons.mp hb with rfl | hb
    · omega
    · obtain ⟨j, hj, rfl⟩ := List.getElem_of_mem hb
      rw [List.length_drop] at hj
      rw [List.getElem_drop]
      exact List.pairwise_iff_getElem.mp hs i (nlt ns x + j) _ _ (by omega)
theorem ins_perm (ns : List Int) (x : Int) : (ns.take (nlt ns x) ++ x :: ns.drop (nlt ns x)).Perm (ns ++ [x]) := by
  have h1 : (ns.take (nlt ns x) ++ x :: ns.drop (nlt ns x)).Perm (x :: (ns.take (nlt ns x) ++ ns.drop (nlt ns x))) := List.perm_middle
  rw [List.take_append_drop] at h1
  exact h1.trans (List.perm_append_comm (l₁ := [x]) (l₂ := ns))
theorem ints_split {vs : List Value} {ns : List Int} (h : IntsAre vs ns) (k : Nat) (x : Int) (t : Tok) : IntsAre (vs.take k ++ .int x t :: vs.drop k) (ns.take k ++ x :: ns.drop k) :=
  (h.take k).append (.cons _ _ (h.drop k))
set_option maxRecDepth 100000 in
set_option maxHeartbeats 8000000 in
set_option pp.maxSteps 4000 in
theorem blk2 {prog : Program} {w : World} {p : Program} {loose : List Str} {mean : ExcName → Option Value} {mg mb : Str → Option Value}
    {dp un : Nat} {gd : Option (List Code)} {cn : Str} {cs : Scope} {st : Stmt} {a : Addr} {ccd : Value} {outer : List Env} {A₀ : Around} {base h₀ : Heap} {L : Addr} {m : Str → Option Value} {rest : List (Addr × Obj)} {s : Shared} {Q : Flow → Shared → Prop} {E : Value → Shared → Prop}
    {o9 o8 o7 o6 o5 o4 o3 o2 o1 : Obj} {ha D : Addr} {ds : List Int} {dv : List Value}
    (hcs : lawS = cs) (B : Below A₀ base outer h₀) (F : Fr h₀ L s.heap m) (X : (hd.heap_39 w.params).In h₀) (T : Top p loose mean mg mb h₀) (hst : lawB 2 = some st)
    (N : News h₀ L s.heap ((ha, listOf #[] 0) :: (L + 1 + 1 + 1 + 1 + 1 + 1 + 1 + 1 + 1, o9) :: (L + 1 + 1 + 1 + 1 + 1 + 1 + 1 + 1, o8) :: (L + 1 + 1 + 1 + 1 + 1 + 1 + 1, o7) :: (L + 1 + 1 + 1 + 1 + 1 + 1, o6) :: (L + 1 + 1 + 1 + 1 + 1, o5) :: (L + 1 + 1 + 1 + 1, o4) :: (L + 1 + 1 + 1, o3) :: (L + 1 + 1, o2) :: (L + 1, o1) :: rest)) (hr : Off L rest) (hha : ∀ p ∈ (L + 1 + 1 + 1 + 1 + 1 + 1 + 1 + 1 + 1, o9) :: (L + 1 + 1 + 1 + 1 + 1 + 1 + 1 + 1, o8) :: (L + 1 + 1 + 1 + 1 + 1 + 1 + 1, o7) :: (L + 1 + 1 + 1 + 1 + 1 + 1, o6) :: (L + 1 + 1 + 1 + 1 + 1, o5) :: (L + 1 + 1 + 1 + 1, o4) :: (L + 1 + 1 + 1, o3) :: (L + 1 + 1, o2) :: (L + 1, o1) :: rest, p.1 < ha)
    (d1 : o1.data = .cell (some (.ref D))) (hD : (D, listOf dv.toArray 0) ∈ rest) (hi : IntsAre dv ds) (hds : ds.length = 17) (hm : ∀ p ∈ [(("hours" : Str), Value.ref ha)], m p.1 = some p.2) (hroom : dp + 20 < recursionLimit)
    (ret : ∀ h' tk' m' hv H n, Fr h₀ L h' m' → News h₀ L h' ((ha, listOf hv.toArray n) :: (L + 1 + 1 + 1 + 1 + 1 + 1 + 1 + 1 + 1, o9) :: (L + 1 + 1 + 1 + 1 + 1 + 1 + 1 + 1, o8) :: (L + 1 + 1 + 1 + 1 + 1 + 1 + 1, o7) :: (L + 1 + 1 + 1 + 1 + 1 + 1, o6) :: (L + 1 + 1 + 1 + 1 + 1, o5) :: (L + 1 + 1 + 1 + 1, o4) :: (L + 1 + 1 + 1, o3) :: (L + 1 + 1, o2) :: (L + 1, o1) :: rest) → IntsAre hv H → H.Pairwise (· ≤ ·) → H.Perm (ds.take 5) → (∀ p ∈ [(("hours" : Str), Value.ref ha)], m' p.1 = some p.2) → Q .next { s with heap := h', toks := tk' })
    (hE : PassesOwn (model prog w) (ktrTop dp un gd cn cs L a ccd (cellsFrom (L + 1) cs.names []) outer) (envX cn cs L a ccd (cellsFrom (L + 1) cs.names [])) E) :
    wpAny (model prog w) (ktrTop dp un gd cn cs L a ccd (cellsFrom (L + 1) cs.names []) outer) (exec st (envX cn cs L a ccd (cellsFrom (L + 1) cs.names []))) Q E s := by
  have F1 := F
  obtain ⟨u0, F1⟩ := fr_know [(("hours" : Str), Value.ref ha)] F hm
  clear F
  conv at hcs => lhs; whnf
  conv at hst => lhs; whnf
  cases hst
  subst hcs
  have hrD := hr _ hD
  refine wpAny_For ?_
  w_strict k_steps
  unfold Halt
  rename Fr _ _ _ _ => F2
  rename News _ _ _ _ => N2
  refine slice_ints_tmp F2 N2 (News.isList N2 (.tail _ (.tail _ (.tail _ (.tail _ (.tail _ (.tail _ (.tail _ (.tail _ (.tail _ (.tail _ (hD)))))))))))) .none (.int 5 _) (kmk_upto hi (by omega)) ?_ (by with_unfolding_all rfl) (by rw [List.size_toArray, sizeLine_eq, hi.length]; omega)
  intro D5 ws h3 F3 N3 hD5 hi5
  clear F2 N2
  have hD59 : @LT.lt Nat _ ha D5 := ltN (hD5 (ha, _) (.head _))
  have hha9 : @LT.lt Nat _ (L + 9) ha := ltN (hha _ (.head _))
  dsimp only
  refine kw_list (σ := List Value × List Int × Nat) (items := ws) (nl := 0) (by rfl) (fun c => (ha, listOf c.1.toArray c.2.2) :: (L + 1 + 1 + 1 + 1 + 1 + 1 + 1 + 1 + 1, o9) :: (L + 1 + 1 + 1 + 1 + 1 + 1 + 1 + 1, o8) :: (L + 1 + 1 + 1 + 1 + 1 + 1 + 1, o7) :: (L + 1 + 1 + 1 + 1 + 1 + 1, o6) :: (L + 1 + 1 + 1 + 1 + 1, o5) :: (L + 1 + 1 + 1 + 1, o4) :: (L + 1 + 1 + 1, o3) :: (L + 1 + 1, o2) :: (L + 1, o1) :: (D5, listOf ws.toArray 0) :: rest) (fun c => [(("hours" : Str), Value.ref ha)])
    (fun i c => IntsAre c.1 c.2.1 ∧ c.2.1.Pairwise (· ≤ ·) ∧ c.2.1.Perm ((ds.take 5).take i)) ([], [], 0) F3 N3 ?ks ?ka ⟨.nil, .nil, by simp⟩ (fun c => .tail _ (.tail _ (.tail _ (.tail _ (.tail _ (.tail _ (.tail _ (.tail _ (.tail _ (.tail _ (.head _))))))))))) ?kt ?kd hE
  case ks =>
    ((try dsimp only); (repeat (refine List.forall_mem_cons.mpr ⟨(by first | ((repeat (first | (with_reducible exact List.Mem.head _) | refine List.Mem.tail _ ?_)); done) | ((repeat (first | (exact List.Mem.head _) | refine List.Mem.tail _ ?_)); done)), ?_⟩)); (intro p hp; first | (cases hp; done) | (repeat (first | exact hp | refine List.Mem.tail _ ?_))))
  case ka => kst_all
  case kd =>
    clear F3 N3
    rintro ⟨hv, H, n⟩ u h tk ⟨q1, q2, q3⟩ F3 N3
    dsimp only at q1 q2 q3 F3 N3
    have hwl := hi5.length
    have e5 : (List.take (Int.toNat 5) ds).length = 5 := by rw [List.length_take, hds]; rfl
    rw [hwl, e5] at q3
    refine ret _ _ _ hv H n F3 (cb_drop N3 ?kd1) q1 q2 ?kd2 (by kst_all)
    case kd1 => ((try dsimp only); (repeat (refine List.forall_mem_cons.mpr ⟨(by first | ((repeat (first | (with_reducible exact List.Mem.head _) | refine List.Mem.tail _ ?_)); done) | ((repeat (first | (exact List.Mem.head _) | refine List.Mem.tail _ ?_)); done)), ?_⟩)); (intro p hp; first | (cases hp; done) | (repeat (first | exact hp | refine List.Mem.tail _ ?_))))
    case kd2 => exact (List.take_take (i := 5) (j := 5) (l := ds)) ▸ q3
  clear F3 N3
  rintro i v ⟨hv, H, n⟩ u I oI h tk hiv ⟨q1, q2, q3⟩ hoff F3 N3
  dsimp only at q1 q2 q3 hoff F3 N3
  (generalize hLP1 : LPost _ _ _ _ _ _ _ = LQ1); revert LQ1; refine Halt.out ?_; intro LQ1 hLP1
  have haI : ha ≠ I := hoff (ha, listOf hv.toArray n) (.head _)
  have hlt : i < ws.length := by
    rcases Nat.lt_or_ge i ws.length with h' | h'
    · exact h'
    · rw [List.getElem?_eq_none h'] at hiv; cases hiv
  have hwl := hi5.length
  obtain ⟨x, hx⟩ : ∃ x, (ds.take 5)[i]? = some x := ⟨_, List.getElem?_eq_getElem (by rw [hwl] at hlt; exact hlt)⟩
  obtain ⟨tx, hvx⟩ := hi5.get i x hx
  rw [hvx] at hiv
  cases hiv
  k_steps
  unfold Halt
  rename Fr _ _ _ _ => F4
  rename News _ _ _ _ => N4
  have N5 : News h₀ L _ ((ha, listOf hv.toArray n) :: (I, oI) :: (L + 1 + 1 + 1 + 1 + 1 + 1 + 1 + 1 + 1, o9) :: (L + 1 + 1 + 1 + 1 + 1 + 1 + 1 + 1, o8) :: (L + 1 + 1 + 1 + 1 + 1 + 1 + 1, o7) :: (L + 1 + 1 + 1 + 1 + 1 + 1, o6) :: (L + 1 + 1 + 1 + 1 + 1, o5) :: (L + 1 + 1 + 1 + 1, o4) :: (L + 1 + 1 + 1, o3) :: (L + 1 + 1, o2) :: (L + 1, o1) :: (D5, listOf ws.toArray 0) :: rest) := cb_drop N4 (by
    ((try dsimp only); (repeat (refine List.forall_mem_cons.mpr ⟨(by first | ((repeat (first | (with_reducible exact List.Mem.head _) | refine List.Mem.tail _ ?_)); done) | ((repeat (first | (exact List.Mem.head _) | refine List.Mem.tail _ ?_)); done)), ?_⟩)); (intro p hp; first | (cases hp; done) | (repeat (first | exact hp | refine List.Mem.tail _ ?_)))))
  have hHl : H.length ≤ 5 := by rw [q3.length_eq]; simp; omega
  refine ins_spec B F4 X N5 T rfl ?w1 q1 q2 (by omega) (by omega) ?_
  case w1 =>
    refine List.forall_mem_cons.mpr ⟨Ne.symm haI, ?_⟩
    intro p hp
    rcases (show p = (D5, listOf ws.toArray 0) ∨ p ∈ (L + 1 + 1 + 1 + 1 + 1 + 1 + 1 + 1 + 1, o9) :: (L + 1 + 1 + 1 + 1 + 1 + 1 + 1 + 1, o8) :: (L + 1 + 1 + 1 + 1 + 1 + 1 + 1, o7) :: (L + 1 + 1 + 1 + 1 + 1 + 1, o6) :: (L + 1 + 1 + 1 + 1 + 1, o5) :: (L + 1 + 1 + 1 + 1, o4) :: (L + 1 + 1 + 1, o3) :: (L + 1 + 1, o2) :: (L + 1, o1) :: rest by refine List.mem_cons.mp ?_; revert p; ((try dsimp only); (repeat (refine List.forall_mem_cons.mpr ⟨(by first | ((repeat (first | (with_reducible exact List.Mem.head _) | refine List.Mem.tail _ ?_)); done) | ((repeat (first | (exact List.Mem.head _) | refine List.Mem.tail _ ?_)); done)), ?_⟩)); (intro p hp; first | (cases hp; done) | (repeat (first | exact hp | refine List.Mem.tail _ ?_))))) with h | h
    · subst h; exact by k_ne
    · exact Nat.ne_of_lt (hha p h)
  clear F4 N4 N5
  intro h5 tk5 F4 N4
  k_steps
  rw [← hLP1]
  refine lend ⟨_, _, n + 1⟩ (by assumption) N4 ?w2 ?w3 ⟨⟨ints_split q1 _ x tx, ins_sorted q2 x, ?w4⟩, ?w5⟩
  case w2 => ((try dsimp only); (repeat (refine List.forall_mem_cons.mpr ⟨(by first | ((repeat (first | (with_reducible exact List.Mem.head _) | refine List.Mem.tail _ ?_)); done) | ((repeat (first | (exact List.Mem.head _) | refine List.Mem.tail _ ?_)); done)), ?_⟩)); (intro p hp; first | (cases hp; done) | (repeat (first | exact hp | refine List.Mem.tail _ ?_))))
  case w3 => kst_all
  case w4 =>
    have e : (ds.take 5).take (i + 1) = (ds.take 5).take i ++ [x] := by rw [List.take_add_one, hx]; rfl
    dsimp only
    rw [e]
    exact (ins_perm H x).trans (q3.append_right _)
  case w5 =>
    intro p hp
    rcases List.mem_cons.mp hp with rfl | hp
    · exact haI
    · exact hoff p (.tail _ hp)
end
section
/-- the six jobs, drawn -/
def jobsOf (ds : List Int) : Jobs := fun i => (min (ds.getD (5 + 2 * i) 0) (ds.getD (6 + 2 * i) 0), max (ds.getD (5 + 2 * i) 0) (ds.getD (6 + 2 * i) 0))
abbrev JobAt (news : List (Addr × Obj)) (J : Jobs) (r : Addr) (i : Nat) : Prop := ∃ u1 u2 u3, (r, tupOf #[.int (J i).1 u1, .int (J i).2 u2, .int (i : Nat) u3]) ∈ news
theorem two_of (ds : List Int) (i : Nat) (hds : ds.length = 17) (hi : i < 6) : (ds.drop (5 + (i : Int) * 2).toNat).take (min (5 + (i : Int) * 2 + 2).toNat ds.length - (5 + (i : Int) * 2).toNat) = [ds.getD (5 + 2 * i) 0, ds.getD (6 + 2 * i) 0] := by
  have e1 : (5 + (i : Int) * 2).toNat = 5 + 2 * i := by omega
  have e2 : min (5 + (i : Int) * 2 + 2).toNat ds.length - (5 + 2 * i) = 2 := by
    rw [show (5 + (i : Int) * 2 + 2).toNat = 7 + 2 * i by omega, hds, Nat.min_eq_left (by omega)]; omega
  rw [e1, e2]
  apply List.ext_getElem
  · rw [List.length_take, List.length_drop, hds]; exact Nat.min_eq_left (by omega)
  · intro n h1 h2
    simp only [List.length_cons, List.length_nil] at h2
    rw [List.getElem_take, List.getElem_drop]
    match n, h2 with
    | 0, _ => simp only [List.getElem_cons_zero]; rw [List.getD_eq_getElem?_getD, List.getElem?_eq_getElem (by omega)]; rfl
    | 1, _ => simp only [List.getElem_cons_succ, List.getElem_cons_zero]; rw [List.getD_eq_getElem?_getD, List.getElem?_eq_getElem (by omega)]; simp only [Option.getD_some]; congr 1; omega
set_option maxRecDepth 100000 in
set_option maxHeartbeats 8000000 in
set_option pp.maxSteps 4000 in
theorem blk3 {prog : Program} {w : World} {p : Program} {loose : List Str} {mean : ExcName → Option Value} {mg mb : Str → Option Value}
    {dp un : Nat} {gd : Option (List Code)} {cn : Str} {cs : Scope} {st : Stmt} {a : Addr} {ccd : Value} {outer : List Env} {A₀ : Around} {base h₀ : Heap} {L : Addr} {m : Str → Option Value} {rest : List (Addr × Obj)} {s : Shared} {Q : Flow → Shared → Prop} {E : Value → Shared → Prop}
    {o9 o8 o7 o6 o5 o4 o3 o2 o1 : Obj} {ha D : Addr} {ds : List Int} {dv : List Value} {v9 : Option Value}
    (hcs : lawS = cs) (B : Below A₀ base outer h₀) (F : Fr h₀ L s.heap m) (X : (hd.heap_39 w.params).In h₀) (T : Top p loose mean mg mb h₀) (hst : lawB 3 = some st)
    (N : News h₀ L s.heap ((L + 1 + 1 + 1 + 1 + 1 + 1 + 1 + 1 + 1, o9) :: (L + 1 + 1 + 1 + 1 + 1 + 1 + 1 + 1, o8) :: (L + 1 + 1 + 1 + 1 + 1 + 1 + 1, o7) :: (L + 1 + 1 + 1 + 1 + 1 + 1, o6) :: (L + 1 + 1 + 1 + 1 + 1, o5) :: (L + 1 + 1 + 1 + 1, o4) :: (L + 1 + 1 + 1, o3) :: (L + 1 + 1, o2) :: (L + 1, o1) :: rest)) (hr : Off L rest)
    (d1 : o1.data = .cell (some (.ref D))) (d9 : o9.data = .cell v9) (hD : (D, listOf dv.toArray 0) ∈ rest) (hi : IntsAre dv ds) (hds : ds.length = 17) (hm : ∀ p ∈ [(("hours" : Str), Value.ref ha)], m p.1 = some p.2) (hroom : dp + 20 < recursionLimit)
    (ret : ∀ h' tk' m' o9' jl (js : Nat → Addr) nj rest', Fr h₀ L h' m' → News h₀ L h' ((L + 1 + 1 + 1 + 1 + 1 + 1 + 1 + 1 + 1, o9') :: (L + 1 + 1 + 1 + 1 + 1 + 1 + 1 + 1, o8) :: (L + 1 + 1 + 1 + 1 + 1 + 1 + 1, o7) :: (L + 1 + 1 + 1 + 1 + 1 + 1, o6) :: (L + 1 + 1 + 1 + 1 + 1, o5) :: (L + 1 + 1 + 1 + 1, o4) :: (L + 1 + 1 + 1, o3) :: (L + 1 + 1, o2) :: (L + 1, o1) :: (jl, listOf #[.ref (js 0), .ref (js 1), .ref (js 2), .ref (js 3), .ref (js 4), .ref (js 5)] nj) :: rest') → o9'.data = .cell (some (.ref jl)) → (∀ p ∈ rest, p ∈ rest') → Off L rest' → L + 9 < jl → (∀ i, i < 6 → JobAt rest' (jobsOf ds) (js i) i) → (∀ p ∈ [(("hours" : Str), Value.ref ha)], m' p.1 = some p.2) → Q .next { s with heap := h', toks := tk' }) :
    wpAny (model prog w) (ktrTop dp un gd cn cs L a ccd (cellsFrom (L + 1) cs.names []) outer) (exec st (envX cn cs L a ccd (cellsFrom (L + 1) cs.names []))) Q E s := by
  obtain ⟨u0, F1⟩ := fr_know [(("hours" : Str), Value.ref ha)] F hm
  clear F
  conv at hcs => lhs; whnf
  conv at hst => lhs; whnf
  cases hst
  subst hcs
  refine wpAny_Assign_Name ?_ (by with_unfolding_all rfl)
  refine comp_start (cl := ?cl) ?hclos rfl (by decide) (fun _ => rfl) ?_
  case hclos => with_unfolding_all rfl
  w_strict k_steps
  unfold Halt
  refine range3_rows F1 N (by decide) ?_
  intro h2 tk2 t2 u2 v2 hr2 F2 N2 _
  clear F1 N
  refine comp_range (σ := { c : List (Addr × Obj) × List Addr // ∀ p ∈ rest, p ∈ c.1 }) (n := 6) (by rfl) hr2 (by decide) (by decide) (by decide) (by decide) rfl (fun _ _ => rfl) (fun c => (L + 1 + 1 + 1 + 1 + 1 + 1 + 1 + 1 + 1, o9) :: (L + 1 + 1 + 1 + 1 + 1 + 1 + 1 + 1, o8) :: (L + 1 + 1 + 1 + 1 + 1 + 1 + 1, o7) :: (L + 1 + 1 + 1 + 1 + 1 + 1, o6) :: (L + 1 + 1 + 1 + 1 + 1, o5) :: (L + 1 + 1 + 1 + 1, o4) :: (L + 1 + 1 + 1, o3) :: (L + 1 + 1, o2) :: (L + 1, o1) :: c.1.1)
    (fun i c ys => ys = c.1.2.map Value.ref ∧ c.1.2.length = i ∧ Off L c.1.1 ∧ ∀ j, j < i → JobAt c.1.1 (jobsOf ds) (c.1.2.getD j 0) j) ⟨(rest, []), fun _ h => h⟩ F2 N2 (fun _ h => h) ⟨rfl, rfl, hr, fun j hj => absurd hj (Nat.not_lt_zero _)⟩ ?turn ?done
  case done =>
    clear F2 N2
    rintro ⟨⟨nw, rs⟩, hsub⟩ ys Dl h3 tk3 nD ⟨hys, hlen, hoff, hjobs⟩ F2 N2 hnD ho
    dsimp only at hys hlen hoff hjobs hsub N2 ho
    subst hys
    have hDl9 : @LT.lt Nat _ (L + 9) Dl := ltN (hnD _ (.head _))
    have e6 : rs.map Value.ref = [.ref (rs.getD 0 0), .ref (rs.getD 1 0), .ref (rs.getD 2 0), .ref (rs.getD 3 0), .ref (rs.getD 4 0), .ref (rs.getD 5 0)] := by
      match rs, hlen with
      | [a0, a1, a2, a3, a4, a5], _ => rfl
    rw [e6] at N2
    have N3 : News h₀ L h3 ((L + 1 + 1 + 1 + 1 + 1 + 1 + 1 + 1 + 1, o9) :: (L + 1 + 1 + 1 + 1 + 1 + 1 + 1 + 1, o8) :: (L + 1 + 1 + 1 + 1 + 1 + 1 + 1, o7) :: (L + 1 + 1 + 1 + 1 + 1 + 1, o6) :: (L + 1 + 1 + 1 + 1 + 1, o5) :: (L + 1 + 1 + 1 + 1, o4) :: (L + 1 + 1 + 1, o3) :: (L + 1 + 1, o2) :: (L + 1, o1) :: (Dl, listOf #[.ref (rs.getD 0 0), .ref (rs.getD 1 0), .ref (rs.getD 2 0), .ref (rs.getD 3 0), .ref (rs.getD 4 0), .ref (rs.getD 5 0)] nD) :: nw) := cb_drop N2 (by
      ((try dsimp only); (repeat (refine List.forall_mem_cons.mpr ⟨(by first | ((repeat (first | (with_reducible exact List.Mem.head _) | refine List.Mem.tail _ ?_)); done) | ((repeat (first | (exact List.Mem.head _) | refine List.Mem.tail _ ?_)); done)), ?_⟩)); (intro p hp; first | (cases hp; done) | (repeat (first | exact hp | refine List.Mem.tail _ ?_)))))
    have hoff2 : Off L ((Dl, listOf #[.ref (rs.getD 0 0), .ref (rs.getD 1 0), .ref (rs.getD 2 0), .ref (rs.getD 3 0), .ref (rs.getD 4 0), .ref (rs.getD 5 0)] nD) :: nw) := hoff.cons hDl9
    clear N2
    refine storeX_C F2 N3 rfl (.head (List.forall_mem_cons.mpr ⟨by k_ne, List.forall_mem_cons.mpr ⟨by k_ne, List.forall_mem_cons.mpr ⟨by k_ne, List.forall_mem_cons.mpr ⟨by k_ne, List.forall_mem_cons.mpr ⟨by k_ne, List.forall_mem_cons.mpr ⟨by k_ne, List.forall_mem_cons.mpr ⟨by k_ne, List.forall_mem_cons.mpr ⟨by k_ne, off_ne hoff2 (by omega) (by omega)⟩⟩⟩⟩⟩⟩⟩⟩)) d9 ?_
    intro h4 o9' F4 N4 d9'
    exact ret _ _ _ o9' Dl (fun i => rs.getD i 0) nD nw F4 N4 d9' hsub hoff hDl9 hjobs (by kst_all)
  clear F2 N2
  rintro g C Dl I oI hg hID hDC hnI i tv ⟨⟨nw, rs⟩, hsub⟩ ys u h tk nD hi6 ⟨hys, hlen, hoff, hjobs⟩ ho F2 N2
  dsimp only at hys hlen hoff hjobs hsub N2 ho
  have Xg := X.keeps hg
  have Tg := T.keeps hg
  dsimp only
  k_steps
  unfold Halt
  rename Fr _ _ _ _ => F3
  rename News _ _ _ _ => N3
  have hD9 := hsub _ hD
  have hI9 : @LT.lt Nat _ (L + 9) I := ltN (hnI _ (.head _))
  refine slice_ints_tmp F3 N3 (News.isList N3 (.tail _ (.tail _ (.tail _ (.tail _ (.tail _ (.tail _ (.tail _ (.tail _ (.tail _ (.tail _ (.tail _ (hD9))))))))))))) (.int _ _) (.int _ _) (kmk_run hi (by omega) (by omega)) ?_ (by with_unfolding_all rfl) (by rw [List.size_toArray, sizeLine_eq, hi.length]; omega)
  intro D5 ws h3 F4 N4 hD5 hi5
  rw [two_of ds i hds hi6] at hi5
  clear F3 N3
  k_steps
  unfold Halt
  refine min_list_N (by rfl) F4 N4 (News.isList N4 (.head _)) hi5 (by simp) ?_
  clear F4
  intro h4 M1 t4 tk4 F5 N5 hm1 hm2
  clear N4
  have hM1 : M1 = (jobsOf ds i).1 := by
    unfold jobsOf
    simp only [List.mem_cons, List.not_mem_nil, or_false] at hm1
    have q1 := hm2 _ (.head _); have q2 := hm2 _ (.tail _ (.head _))
    dsimp only; omega
  k_steps
  unfold Halt
  refine slice_ints_tmp F5 N5 (News.isList N5 (.tail _ (.tail _ (.tail _ (.tail _ (.tail _ (.tail _ (.tail _ (.tail _ (.tail _ (.tail _ (.tail _ (.tail _ (hD9)))))))))))))) (.int _ _) (.int _ _) (kmk_run hi (by omega) (by omega)) ?_ (by with_unfolding_all rfl) (by rw [List.size_toArray, sizeLine_eq, hi.length]; omega)
  intro D6 ws6 h6 F6 N6 hD6 hi6'
  rw [two_of ds i hds hi6] at hi6'
  clear F5 N5
  k_steps
  unfold Halt
  refine max_list_N (by rfl) F6 N6 (News.isList N6 (.head _)) hi6' (by simp) ?_
  clear F6
  intro h7 M2 t7 tk7 F7 N7 hm3 hm4
  clear N6
  have hM2 : M2 = (jobsOf ds i).2 := by
    unfold jobsOf
    simp only [List.mem_cons, List.not_mem_nil, or_false] at hm3
    have q1 := hm4 _ (.head _); have q2 := hm4 _ (.tail _ (.head _))
    dsimp only; omega
  subst hM1 hM2
  k_steps
  rename_i T9 _ F8 N8 _ _ _ _ _ _ _ _ _ _ _ _ _ hAll
  have e2 : Int.fdiv (5 + (i : Int) * 2 - 5) 2 = i := by have := fdiv_fmod_facts (5 + (i : Int) * 2 - 5) 2; omega
  rw [e2] at N8
  obtain ⟨u1, u2, u3, N9⟩ : ∃ u1 u2 u3, News g C _ ((T9, tupOf #[.int (jobsOf ds i).1 u1, .int (jobsOf ds i).2 u2, .int (i : Nat) u3]) :: (D6, listOf ws6.toArray 0) :: (D5, listOf ws.toArray 0) :: (Dl, listOf ys.toArray nD) :: (I, oI) :: (L + 1 + 1 + 1 + 1 + 1 + 1 + 1 + 1 + 1, o9) :: (L + 1 + 1 + 1 + 1 + 1 + 1 + 1 + 1, o8) :: (L + 1 + 1 + 1 + 1 + 1 + 1 + 1, o7) :: (L + 1 + 1 + 1 + 1 + 1 + 1, o6) :: (L + 1 + 1 + 1 + 1 + 1, o5) :: (L + 1 + 1 + 1 + 1, o4) :: (L + 1 + 1 + 1, o3) :: (L + 1 + 1, o2) :: (L + 1, o1) :: nw) := ⟨_, _, _, N8⟩
  refine ce ⟨((T9, tupOf #[.int (jobsOf ds i).1 u1, .int (jobsOf ds i).2 u2, .int (i : Nat) u3]) :: nw, rs ++ [T9]), fun p hp => .tail _ (hsub p hp)⟩ (by assumption) N9 ?w1 ⟨by simp [hys], by simp [hlen], hoff.cons (by omega), ?w2⟩ ?w3
  case w1 => ((try dsimp only); (repeat (refine List.forall_mem_cons.mpr ⟨(by first | ((repeat (first | (with_reducible exact List.Mem.head _) | refine List.Mem.tail _ ?_)); done) | ((repeat (first | (exact List.Mem.head _) | refine List.Mem.tail _ ?_)); done)), ?_⟩)); (intro p hp; first | (cases hp; done) | (repeat (first | exact hp | refine List.Mem.tail _ ?_))))
  case w2 =>
    intro j hj
    dsimp only
    rcases Nat.lt_or_ge j i with h | h
    · obtain ⟨a1, a2, a3, a4⟩ := hjobs j h
      rw [List.getD_eq_getElem?_getD, List.getElem?_append_left (by omega), ← List.getD_eq_getElem?_getD]
      exact ⟨a1, a2, a3, .tail _ a4⟩
    · have e : j = i := by omega
      subst e
      rw [List.getD_eq_getElem?_getD, List.getElem?_append_right (by omega), hlen, Nat.sub_self]
      exact ⟨u1, u2, u3, .head _⟩
  case w3 =>
    intro p hp
    rcases (show p = (T9, tupOf #[.int (jobsOf ds i).1 u1, .int (jobsOf ds i).2 u2, .int (i : Nat) u3]) ∨ p ∈ (L + 1 + 1 + 1 + 1 + 1 + 1 + 1 + 1 + 1, o9) :: (L + 1 + 1 + 1 + 1 + 1 + 1 + 1 + 1, o8) :: (L + 1 + 1 + 1 + 1 + 1 + 1 + 1, o7) :: (L + 1 + 1 + 1 + 1 + 1 + 1, o6) :: (L + 1 + 1 + 1 + 1 + 1, o5) :: (L + 1 + 1 + 1 + 1, o4) :: (L + 1 + 1 + 1, o3) :: (L + 1 + 1, o2) :: (L + 1, o1) :: nw by refine List.mem_cons.mp ?_; revert p; ((try dsimp only); (repeat (refine List.forall_mem_cons.mpr ⟨(by first | ((repeat (first | (with_reducible exact List.Mem.head _) | refine List.Mem.tail _ ?_)); done) | ((repeat (first | (exact List.Mem.head _) | refine List.Mem.tail _ ?_)); done)), ?_⟩)); (intro p hp; first | (cases hp; done) | (repeat (first | exact hp | refine List.Mem.tail _ ?_))))) with h | h
    · subst h; exact ⟨Nat.ne_of_gt (by assumption), Nat.ne_of_gt (by assumption)⟩
    · exact ho p h
end
section
set_option maxRecDepth 100000 in
set_option maxHeartbeats 8000000 in
set_option pp.maxSteps 4000 in
theorem blk4 {prog : Program} {w : World} {p : Program} {loose : List Str} {mean : ExcName → Option Value} {mg mb : Str → Option Value}
    {dp un : Nat} {gd : Option (List Code)} {cn : Str} {cs : Scope} {st : Stmt} {a : Addr} {ccd : Value} {outer : List Env} {A₀ : Around} {base h₀ : Heap} {L : Addr} {m : Str → Option Value} {rest : List (Addr × Obj)} {s : Shared} {Q : Flow → Shared → Prop} {E : Value → Shared → Prop}
    {o9 o8 o7 o6 o5 o4 o3 o2 o1 : Obj} {ha : Addr} {v2 : Option Value}
    (hcs : lawS = cs) (B : Below A₀ base outer h₀) (F : Fr h₀ L s.heap m) (X : (hd.heap_39 w.params).In h₀) (T : Top p loose mean mg mb h₀) (hst : lawB 4 = some st)
    (N : News h₀ L s.heap ((L + 1 + 1 + 1 + 1 + 1 + 1 + 1 + 1 + 1, o9) :: (L + 1 + 1 + 1 + 1 + 1 + 1 + 1 + 1, o8) :: (L + 1 + 1 + 1 + 1 + 1 + 1 + 1, o7) :: (L + 1 + 1 + 1 + 1 + 1 + 1, o6) :: (L + 1 + 1 + 1 + 1 + 1, o5) :: (L + 1 + 1 + 1 + 1, o4) :: (L + 1 + 1 + 1, o3) :: (L + 1 + 1, o2) :: (L + 1, o1) :: rest)) (hr : Off L rest) (d2 : o2.data = .cell v2) (hm : ∀ p ∈ [(("hours" : Str), Value.ref ha)], m p.1 = some p.2) (hroom : dp + 20 < recursionLimit)
    (ret : ∀ h' tk' m' o2' di dx hl tk nd, Fr h₀ L h' m' → News h₀ L h' ((hl, listOf #[] 0) :: (di, instObj 240 dx) :: (dx, hdD w tk hl nd) :: (L + 1 + 1 + 1 + 1 + 1 + 1 + 1 + 1 + 1, o9) :: (L + 1 + 1 + 1 + 1 + 1 + 1 + 1 + 1, o8) :: (L + 1 + 1 + 1 + 1 + 1 + 1 + 1, o7) :: (L + 1 + 1 + 1 + 1 + 1 + 1, o6) :: (L + 1 + 1 + 1 + 1 + 1, o5) :: (L + 1 + 1 + 1 + 1, o4) :: (L + 1 + 1 + 1, o3) :: (L + 1 + 1, o2') :: (L + 1, o1) :: rest) → o2'.data = .cell (some (.ref di)) → (∀ p ∈ rest, p.1 < hl) → @LT.lt Nat _ (L + 9) hl → @LT.lt Nat _ dx hl → @LT.lt Nat _ di hl → @LT.lt Nat _ (L + 9) dx → @LT.lt Nat _ (L + 9) di → (∀ p ∈ [(("hours" : Str), Value.ref ha)], m' p.1 = some p.2) → Q .next { s with heap := h', toks := tk' }) :
    wpAny (model prog w) (ktrTop dp un gd cn cs L a ccd (cellsFrom (L + 1) cs.names []) outer) (exec st (envX cn cs L a ccd (cellsFrom (L + 1) cs.names []))) Q E s := by
  obtain ⟨u0, F1⟩ := fr_know [(("hours" : Str), Value.ref ha)] F hm
  clear F
  conv at hcs => lhs; whnf
  conv at hst => lhs; whnf
  cases hst
  subst hcs
  w_strict k_steps
  unfold Halt
  refine wpAny_For ?_
  k_steps
  rename Fr _ _ _ _ => F2
  rename News _ _ _ _ => N2
  obtain ⟨u1, F3⟩ := fr_know [] F2 (by intro p hp; cases hp)
  clear F2
  refine kw_list (σ := Unit) (items := []) (nl := 0) (by rfl) (fun _ => _) (fun _ => []) (fun _ _ => True) () F3 N2 (fun _ h => h) (by intro p hp; cases hp) trivial (fun _ => .head _) ?kt ?kd ?ke
  case ke => passes_own
  case kt => intro i v c u I oI h tk hi; simp at hi
  case kd =>
    clear F3 N2
    intro c u h tk _ F3 N2
    k_steps
    rename_i _ _ Fq Nq dq
    refine ret _ _ _ _ _ _ _ _ _ Fq Nq dq (tb_ltOf (by assumption)) (by omega) (by omega) (by omega) (by omega) (by omega) (by kst_all)
end
section
set_option maxRecDepth 100000 in
set_option maxHeartbeats 8000000 in
set_option pp.maxSteps 4000 in
theorem blk5 {prog : Program} {w : World} {p : Program} {loose : List Str} {mean : ExcName → Option Value} {mg mb : Str → Option Value}
    {dp un : Nat} {gd : Option (List Code)} {cn : Str} {cs : Scope} {st : Stmt} {a : Addr} {ccd : Value} {outer : List Env} {A₀ : Around} {base h₀ : Heap} {L : Addr} {m : Str → Option Value} {rest : List (Addr × Obj)} {s : Shared} {Q : Flow → Shared → Prop} {E : Value → Shared → Prop}
    {o9 o8 o7 o6 o5 o4 o3 o2 o1 : Obj} {ha : Addr}
    (hcs : lawS = cs) (B : Below A₀ base outer h₀) (F : Fr h₀ L s.heap m) (X : (hd.heap_39 w.params).In h₀) (T : Top p loose mean mg mb h₀) (hst : lawB 5 = some st) (N : News h₀ L s.heap rest) (hm : ∀ p ∈ [(("hours" : Str), Value.ref ha)], m p.1 = some p.2)
    (ret : ∀ h' tk' m' ad od, Fr h₀ L h' m' → News h₀ L h' ((ad, od) :: rest) → (∀ p ∈ rest, p.1 < ad) → od.IsDictOf (strKind prog w) [] → (ad == sysModules) = false → (∀ p ∈ [(("hours" : Str), Value.ref ha), (("asked" : Str), Value.ref ad)], m' p.1 = some p.2) → Q .next { s with heap := h', toks := tk' }) :
    wpAny (model prog w) (ktrTop dp un gd cn cs L a ccd (cellsFrom (L + 1) cs.names []) outer) (exec st (envX cn cs L a ccd (cellsFrom (L + 1) cs.names []))) Q E s := by
  obtain ⟨u0, F1⟩ := fr_know [(("hours" : Str), Value.ref ha)] F hm
  clear F
  conv at hcs => lhs; whnf
  conv at hst => lhs; whnf
  cases hst
  subst hcs
  w_strict k_steps
  exact ret _ _ _ _ _ (by assumption) (by assumption) (by assumption) (by assumption) (by assumption) (by kst_all)
end
section
structure CS6 where
  D : List (Nat × Nat)
  A : List (Str × Int)
  rs : List Addr
  n : Nat
  ad : Addr
  od : Obj
  kvs : List (Str × Value)
  rest : List (Addr × Obj)
theorem js_item (js : Nat → Addr) : ∀ i : Nat, ∀ v, ([.ref (js 0), .ref (js 1), .ref (js 2), .ref (js 3), .ref (js 4), .ref (js 5)] : List Value)[i]? = some v → i < 6 ∧ v = .ref (js i)
  | 0, v, h => by cases h; exact ⟨by decide, rfl⟩
  | 1, v, h => by cases h; exact ⟨by decide, rfl⟩
  | 2, v, h => by cases h; exact ⟨by decide, rfl⟩
  | 3, v, h => by cases h; exact ⟨by decide, rfl⟩
  | 4, v, h => by cases h; exact ⟨by decide, rfl⟩
  | 5, v, h => by cases h; exact ⟨by decide, rfl⟩
  | k + 6, v, h => by cases h
set_option maxRecDepth 100000 in
set_option maxHeartbeats 8000000 in
set_option pp.maxSteps 4000 in
theorem blk6 {prog : Program} {w : World} {p : Program} {loose : List Str} {mean : ExcName → Option Value} {mg mb : Str → Option Value}
    {dp un : Nat} {gd : Option (List Code)} {cn : Str} {cs : Scope} {st : Stmt} {a : Addr} {ccd : Value} {outer : List Env} {A₀ : Around} {base h₀ : Heap} {L : Addr} {m : Str → Option Value} {rest : List (Addr × Obj)} {s : Shared} {Q : Flow → Shared → Prop} {E : Value → Shared → Prop}
    {o9 o8 o7 o6 o5 o4 o3 o2 o1 : Obj} {ha di dx hl jl ad : Addr} {js : Nat → Addr} {tk : Tok} {nd nh nj : Nat} {hs : List Value} {H : List Int} {J : Jobs} {od : Obj}
    (hcs : lawS = cs) (B : Below A₀ base outer h₀) (F : Fr h₀ L s.heap m) (X : (hd.heap_39 w.params).In h₀) (T : Top p loose mean mg mb h₀) (hst : lawB 6 = some st)
    (N : News h₀ L s.heap ((hl, listOf #[] 0) :: rest)) (hr : ∀ p ∈ rest, p.1 ≠ hl)
    (d2 : o2.data = .cell (some (.ref di))) (d9 : o9.data = .cell (some (.ref jl)))
    (hc2 : (L + 1 + 1, o2) ∈ rest) (hc9 : (L + 1 + 1 + 1 + 1 + 1 + 1 + 1 + 1 + 1, o9) ∈ rest)
    (hdi : (di, instObj 240 dx) ∈ rest) (hdx : (dx, hdD w tk hl nd) ∈ rest)
    (hha : (ha, listOf hs.toArray nh) ∈ rest) (hHs : IntsAre hs H) (hsort : H.Pairwise (· ≤ ·)) (hHl : H.length = 5)
    (hjl : (jl, listOf #[.ref (js 0), .ref (js 1), .ref (js 2), .ref (js 3), .ref (js 4), .ref (js 5)] nj) ∈ rest)
    (hjs : ∀ i, i < 6 → JobAt rest J (js i) i)
    (had : (ad, od) ∈ rest) (hod : od.IsDictOf (strKind prog w) []) (hlo : (ad == sysModules) = false)
    (hm : ∀ p ∈ [(("hours" : Str), Value.ref ha), (("asked" : Str), Value.ref ad)], m p.1 = some p.2) (hroom : dp + 40 < recursionLimit)
    (ret : ∀ h' tk' m' (c : CS6), Fr h₀ L h' m' → News h₀ L h' ((hl, listOf (c.rs.map Value.ref).toArray c.n) :: c.rest) → (∀ p ∈ rest, p ∈ c.rest) → (∀ p ∈ c.rest, p.1 ≠ hl) → (c.ad, c.od) ∈ c.rest → c.od.IsDictOf (strKind prog w) c.kvs → (c.ad == sysModules) = false →
      CountsAre c.kvs (comes H J 6).2 → HdrAre c.rest c.rs (comes H J 6).1 → (∀ p ∈ [(("hours" : Str), Value.ref ha), (("asked" : Str), Value.ref c.ad)], m' p.1 = some p.2) → Q .next { s with heap := h', toks := tk' })
    (hE : PassesOwn (model prog w) (ktrTop dp un gd cn cs L a ccd (cellsFrom (L + 1) cs.names []) outer) (envX cn cs L a ccd (cellsFrom (L + 1) cs.names [])) E) :
    wpAny (model prog w) (ktrTop dp un gd cn cs L a ccd (cellsFrom (L + 1) cs.names []) outer) (exec st (envX cn cs L a ccd (cellsFrom (L + 1) cs.names []))) Q E s := by
  obtain ⟨u0, F1⟩ := fr_know [(("hours" : Str), Value.ref ha), (("asked" : Str), Value.ref ad)] F hm
  clear F
  conv at hcs => lhs; whnf
  conv at hst => lhs; whnf
  cases hst
  subst hcs
  refine wpAny_For ?_
  w_strict k_steps
  rename Fr _ _ _ _ => F2
  rename News _ _ _ _ => N2
  refine kw_listI (σ := { c : CS6 // ∀ p ∈ rest, p ∈ c.rest }) (items := [.ref (js 0), .ref (js 1), .ref (js 2), .ref (js 3), .ref (js 4), .ref (js 5)]) (nl := nj) (by rfl) (fun c => (hl, listOf (c.1.rs.map Value.ref).toArray c.1.n) :: c.1.rest) (fun c => [(("hours" : Str), Value.ref ha), (("asked" : Str), Value.ref c.1.ad)])
    (fun i c => c.1.D = (comes H J i).1 ∧ c.1.A = (comes H J i).2 ∧ (∀ p ∈ c.1.rest, p.1 ≠ hl) ∧ (c.1.ad, c.1.od) ∈ c.1.rest ∧ c.1.od.IsDictOf (strKind prog w) c.1.kvs ∧ (c.1.ad == sysModules) = false ∧ CountsAre c.1.kvs c.1.A ∧ HdrAre c.1.rest c.1.rs c.1.D)
    ⟨⟨[], [], [], 0, ad, od, [], rest⟩, fun _ h => h⟩ F2 N2 (fun _ h => h) ?ka ⟨rfl, rfl, hr, had, hod, hlo, .nil, .nil⟩ (fun c => .tail _ (c.2 _ hjl)) ?kt ?kd hE
  case ka => kst_all
  case kd =>
    clear F2 N2
    rintro ⟨c, hsub⟩ u h tk2 ⟨q1, q2, q3, q4, q5, q6, q7, q8⟩ F3 N3
    dsimp only at q1 q2 q3 q4 q5 q6 q7 q8 hsub F3 N3
    have q7' : CountsAre c.kvs (comes H J 6).2 := q2 ▸ q7
    have q8' : HdrAre c.rest c.rs (comes H J 6).1 := q1 ▸ q8
    exact ret _ _ _ c F3 N3 hsub q3 q4 q5 q6 q7' q8' (by kst_all)
  clear F2 N2
  rintro i v ⟨c, hsub⟩ u I oI h tk2 hiv ⟨q1, q2, q3, q4, q5, q6, q7, q8⟩ hoff hcI F3 N3
  dsimp only at q1 q2 q3 q4 q5 q6 q7 q8 hsub hoff F3 N3
  (generalize hLP1 : LPost _ _ _ _ _ _ _ = LQ1); revert LQ1; refine Halt.out ?_; intro LQ1 hLP1
  obtain ⟨hi6, rfl⟩ := js_item js i v hiv
  have hc2' := hsub _ hc2
  have hc9' := hsub _ hc9
  k_steps
  unfold Halt
  rename Fr _ _ _ _ => F4
  rename News _ _ _ _ => N4
  have N5 : News h₀ L _ ((hl, listOf (c.rs.map Value.ref).toArray c.n) :: (I, oI) :: c.rest) := cb_drop N4 (by
    ((try dsimp only); (repeat (refine List.forall_mem_cons.mpr ⟨(by first | ((repeat (first | (with_reducible exact List.Mem.head _) | refine List.Mem.tail _ ?_)); done) | ((repeat (first | (exact List.Mem.head _) | refine List.Mem.tail _ ?_)); done)), ?_⟩)); (intro p hp; first | (cases hp; done) | (repeat (first | exact hp | refine List.Mem.tail _ ?_)))))
  have hlI : hl ≠ I := hoff (hl, listOf (c.rs.map Value.ref).toArray c.n) (.head _)
  obtain ⟨b1, b2, b3⟩ := comes_bounds (J := J) hHl i (by omega)
  rw [← q1] at b1 b3
  rw [← q2] at b2
  refine come_spec (J := J) B F4 X N5 T rfl ?w1 (.tail _ (hsub _ hdi)) (.tail _ (hsub _ hdx)) (.tail _ (hsub _ hha)) hHs hsort hHl (.tail _ (hsub _ hjl)) ?w2 (.tail _ q4) q5 q6 q7 (q8.mono fun _ h => .tail _ h) b3 (by omega) (by omega) hi6 (by omega) ?_
  case w1 => exact List.forall_mem_cons.mpr ⟨Ne.symm hlI, q3⟩
  case w2 =>
    intro j hj
    obtain ⟨a1, a2, a3, a4⟩ := hjs j hj
    exact ⟨a1, a2, a3, .tail _ (hsub _ a4)⟩
  clear F4 N4 N5
  intro ad' od' kvs' rs' n' rest' h5 tk5 F5 N5 hs5 hr5 ma5 hod5 hlo5 hCA5 hHdr5
  rw [q1, q2] at hCA5 hHdr5
  k_steps
  have hII : (I, oI) ∈ rest' := hs5 _ (.head _)
  have hf : ∀ p ∈ rest', p.1 ≠ I → p ∈ rest'.filter (fun p => !(p.1 == I)) := fun p hp hne => List.mem_filter.mpr ⟨hp, by simpa using hne⟩
  rename News _ _ _ _ => N6
  rw [← hLP1]
  refine lend ⟨⟨(comes H J (i + 1)).1, (comes H J (i + 1)).2, rs', n', ad', od', kvs', rest'.filter (fun p => !(p.1 == I))⟩, fun p hp => hf p (hs5 _ (.tail _ (hsub p hp))) (hoff p (.tail _ (hsub p hp)))⟩ (by assumption) N6 ?w3 ?w4 ⟨⟨rfl, rfl, ?w5, ?w6, hod5, hlo5, hCA5, ?w7⟩, ?w8⟩
  case w3 =>
    intro p hp
    rcases List.mem_cons.mp hp with rfl | hp
    · exact .tail _ hII
    rcases List.mem_cons.mp hp with rfl | hp
    · exact .head _
    · exact .tail _ (List.mem_filter.mp hp).1
  case w4 => kst_all
  case w5 => intro p hp; exact hr5 p (List.mem_filter.mp hp).1
  case w6 =>
    refine hf _ ma5 fun e => ?_
    dsimp only at e
    have e2 := news_one N6 (x := ad') (.tail _ ma5) (.tail _ (e ▸ hII))
    obtain ⟨_, _, hx, _⟩ := hod5
    rw [e2] at hx
    unfold Obj.ExactDict at hx
    simp [hcI] at hx
  case w7 =>
    refine hHdr5.mono_of fun r o hc _ hm => hf _ hm fun e => ?_
    dsimp only at e
    have e2 := news_one N6 (x := r) (.tail _ hm) (.tail _ (e ▸ hII))
    rw [e2, hcI] at hc
    simp at hc
  case w8 =>
    intro p hp
    rcases List.mem_cons.mp hp with rfl | hp
    · exact hlI
    · have h9 := (List.mem_filter.mp hp).2
      simpa using h9
end
section
set_option maxRecDepth 100000 in
set_option maxHeartbeats 8000000 in
set_option pp.maxSteps 4000 in
theorem blk7 {prog : Program} {w : World} {p : Program} {loose : List Str} {mean : ExcName → Option Value} {mg mb : Str → Option Value}
    {dp un : Nat} {gd : Option (List Code)} {cn : Str} {cs : Scope} {st : Stmt} {a : Addr} {ccd : Value} {outer : List Env} {A₀ : Around} {base h₀ : Heap} {L : Addr} {m : Str → Option Value} {rest : List (Addr × Obj)} {s : Shared} {Q : Flow → Shared → Prop} {E : Value → Shared → Prop}
    {o9 o8 o7 o6 o5 o4 o3 o2 o1 : Obj} {ad D : Addr} {ds : List Int} {dv : List Value}
    (hcs : lawS = cs) (B : Below A₀ base outer h₀) (F : Fr h₀ L s.heap m) (X : (hd.heap_39 w.params).In h₀) (T : Top p loose mean mg mb h₀) (hst : lawB 7 = some st) (N : News h₀ L s.heap ((L + 1 + 1 + 1 + 1 + 1 + 1 + 1 + 1 + 1, o9) :: (L + 1 + 1 + 1 + 1 + 1 + 1 + 1 + 1, o8) :: (L + 1 + 1 + 1 + 1 + 1 + 1 + 1, o7) :: (L + 1 + 1 + 1 + 1 + 1 + 1, o6) :: (L + 1 + 1 + 1 + 1 + 1, o5) :: (L + 1 + 1 + 1 + 1, o4) :: (L + 1 + 1 + 1, o3) :: (L + 1 + 1, o2) :: (L + 1, o1) :: rest)) (hr : Off L rest) (d1 : o1.data = .cell (some (.ref D))) (hD : (D, listOf dv.toArray 0) ∈ rest) (hi : IntsAre dv ds) (hds : ds.length = 17) (hm : ∀ p ∈ [(("asked" : Str), Value.ref ad)], m p.1 = some p.2)
    (ret : ∀ h' tk' m' pa pv ps n, Fr h₀ L h' m' → News h₀ L h' ((L + 1 + 1 + 1 + 1 + 1 + 1 + 1 + 1 + 1, o9) :: (L + 1 + 1 + 1 + 1 + 1 + 1 + 1 + 1, o8) :: (L + 1 + 1 + 1 + 1 + 1 + 1 + 1, o7) :: (L + 1 + 1 + 1 + 1 + 1 + 1, o6) :: (L + 1 + 1 + 1 + 1 + 1, o5) :: (L + 1 + 1 + 1 + 1, o4) :: (L + 1 + 1 + 1, o3) :: (L + 1 + 1, o2) :: (L + 1, o1) :: (pa, listOf pv.toArray n) :: rest) → @LT.lt Nat _ (L + 9) pa → IntsAre pv ps → ps.Pairwise (· ≤ ·) → ps.Perm (ds.take 5) → (∀ p ∈ [(("asked" : Str), Value.ref ad), (("plain" : Str), Value.ref pa)], m' p.1 = some p.2) → Q .next { s with heap := h', toks := tk' }) :
    wpAny (model prog w) (ktrTop dp un gd cn cs L a ccd (cellsFrom (L + 1) cs.names []) outer) (exec st (envX cn cs L a ccd (cellsFrom (L + 1) cs.names []))) Q E s := by
  obtain ⟨u0, F1⟩ := fr_know [(("asked" : Str), Value.ref ad)] F hm
  clear F
  conv at hcs => lhs; whnf
  conv at hst => lhs; whnf
  cases hst
  subst hcs
  w_strict k_steps
  unfold Halt
  rename Fr _ _ _ _ => F2
  rename News _ _ _ _ => N2
  refine slice_ints_tmp F2 N2 (News.isList N2 (.tail _ (.tail _ (.tail _ (.tail _ (.tail _ (.tail _ (.tail _ (.tail _ (.tail _ (hD))))))))))) .none (.int 5 _) (kmk_upto hi (by omega)) ?_ (by with_unfolding_all rfl) (by rw [List.size_toArray, sizeLine_eq, hi.length]; omega)
  intro D5 ws h3 F3 N3 hD5 hi5
  clear F2 N2
  k_steps
  unfold Halt
  refine kso_sorted F3 N3 (News.isList N3 (.head _)) hi5 (by rw [List.length_take, hds]; decide) ?_
  intro pa pv ps n h4 F4 N4 hpa hip _ hperm hsort _
  clear F3 N3
  have hpa9 := ltN (hpa _ (.tail _ (.head _)))
  k_steps
  refine ret _ _ _ pa pv ps n (by assumption) (cb_drop (by assumption) ?_) (by omega) hip hsort hperm (by kst_all)
  ((try dsimp only); (repeat (refine List.forall_mem_cons.mpr ⟨(by first | ((repeat (first | (with_reducible exact List.Mem.head _) | refine List.Mem.tail _ ?_)); done) | ((repeat (first | (exact List.Mem.head _) | refine List.Mem.tail _ ?_)); done)), ?_⟩)); (intro p hp; first | (cases hp; done) | (repeat (first | exact hp | refine List.Mem.tail _ ?_))))
set_option maxRecDepth 100000 in
set_option maxHeartbeats 8000000 in
set_option pp.maxSteps 4000 in
theorem blk8 {prog : Program} {w : World} {p : Program} {loose : List Str} {mean : ExcName → Option Value} {mg mb : Str → Option Value}
    {dp un : Nat} {gd : Option (List Code)} {cn : Str} {cs : Scope} {st : Stmt} {a : Addr} {ccd : Value} {outer : List Env} {A₀ : Around} {base h₀ : Heap} {L : Addr} {m : Str → Option Value} {rest : List (Addr × Obj)} {s : Shared} {Q : Flow → Shared → Prop} {E : Value → Shared → Prop}
    {o9 o8 o7 o6 o5 o4 o3 o2 o1 : Obj} {ad pa : Addr} {v3 : Option Value}
    (hcs : lawS = cs) (B : Below A₀ base outer h₀) (F : Fr h₀ L s.heap m) (X : (hd.heap_39 w.params).In h₀) (T : Top p loose mean mg mb h₀) (hst : lawB 8 = some st) (N : News h₀ L s.heap ((L + 1 + 1 + 1 + 1 + 1 + 1 + 1 + 1 + 1, o9) :: (L + 1 + 1 + 1 + 1 + 1 + 1 + 1 + 1, o8) :: (L + 1 + 1 + 1 + 1 + 1 + 1 + 1, o7) :: (L + 1 + 1 + 1 + 1 + 1 + 1, o6) :: (L + 1 + 1 + 1 + 1 + 1, o5) :: (L + 1 + 1 + 1 + 1, o4) :: (L + 1 + 1 + 1, o3) :: (L + 1 + 1, o2) :: (L + 1, o1) :: rest)) (hr : Off L rest) (d3 : o3.data = .cell v3) (hm : ∀ p ∈ [(("asked" : Str), Value.ref ad), (("plain" : Str), Value.ref pa)], m p.1 = some p.2)
    (ret : ∀ h' tk' m' o3' sa, Fr h₀ L h' m' → News h₀ L h' ((sa, listOf #[] 0) :: (L + 1 + 1 + 1 + 1 + 1 + 1 + 1 + 1 + 1, o9) :: (L + 1 + 1 + 1 + 1 + 1 + 1 + 1 + 1, o8) :: (L + 1 + 1 + 1 + 1 + 1 + 1 + 1, o7) :: (L + 1 + 1 + 1 + 1 + 1 + 1, o6) :: (L + 1 + 1 + 1 + 1 + 1, o5) :: (L + 1 + 1 + 1 + 1, o4) :: (L + 1 + 1 + 1, o3') :: (L + 1 + 1, o2) :: (L + 1, o1) :: rest) → o3'.data = .cell (some (.ref sa)) → @LT.lt Nat _ (L + 9) sa → (∀ p ∈ rest, p.1 < sa) → (∀ p ∈ [(("asked" : Str), Value.ref ad), (("plain" : Str), Value.ref pa)], m' p.1 = some p.2) → Q .next { s with heap := h', toks := tk' }) :
    wpAny (model prog w) (ktrTop dp un gd cn cs L a ccd (cellsFrom (L + 1) cs.names []) outer) (exec st (envX cn cs L a ccd (cellsFrom (L + 1) cs.names []))) Q E s := by
  obtain ⟨u0, F1⟩ := fr_know [(("asked" : Str), Value.ref ad), (("plain" : Str), Value.ref pa)] F hm
  clear F
  conv at hcs => lhs; whnf
  conv at hst => lhs; whnf
  cases hst
  subst hcs
  w_strict k_steps
  refine ret _ _ _ _ _ (by assumption) (by assumption) (by assumption) (by omega) (tb_ltOf (by assumption)) (by kst_all)
set_option maxRecDepth 100000 in
set_option maxHeartbeats 8000000 in
set_option pp.maxSteps 4000 in
theorem blk13 {prog : Program} {w : World} {p : Program} {loose : List Str} {mean : ExcName → Option Value} {mg mb : Str → Option Value}
    {dp un : Nat} {gd : Option (List Code)} {cn : Str} {cs : Scope} {st : Stmt} {a : Addr} {ccd : Value} {outer : List Env} {A₀ : Around} {base h₀ : Heap} {L : Addr} {m : Str → Option Value} {rest : List (Addr × Obj)} {s : Shared} {Q : Flow → Shared → Prop} {E : Value → Shared → Prop}
    {o9 o8 o7 o6 o5 o4 o3 o2 o1 : Obj} {ad pa : Addr} {v8 : Option Value}
    (hcs : lawS = cs) (B : Below A₀ base outer h₀) (F : Fr h₀ L s.heap m) (X : (hd.heap_39 w.params).In h₀) (T : Top p loose mean mg mb h₀) (hst : lawB 13 = some st) (N : News h₀ L s.heap ((L + 1 + 1 + 1 + 1 + 1 + 1 + 1 + 1 + 1, o9) :: (L + 1 + 1 + 1 + 1 + 1 + 1 + 1 + 1, o8) :: (L + 1 + 1 + 1 + 1 + 1 + 1 + 1, o7) :: (L + 1 + 1 + 1 + 1 + 1 + 1, o6) :: (L + 1 + 1 + 1 + 1 + 1, o5) :: (L + 1 + 1 + 1 + 1, o4) :: (L + 1 + 1 + 1, o3) :: (L + 1 + 1, o2) :: (L + 1, o1) :: rest)) (hr : Off L rest) (d8 : o8.data = .cell v8) (hm : ∀ p ∈ [(("asked" : Str), Value.ref ad), (("plain" : Str), Value.ref pa)], m p.1 = some p.2)
    (ret : ∀ h' tk' m' o8' sa, Fr h₀ L h' m' → News h₀ L h' ((sa, listOf #[] 0) :: (L + 1 + 1 + 1 + 1 + 1 + 1 + 1 + 1 + 1, o9) :: (L + 1 + 1 + 1 + 1 + 1 + 1 + 1 + 1, o8') :: (L + 1 + 1 + 1 + 1 + 1 + 1 + 1, o7) :: (L + 1 + 1 + 1 + 1 + 1 + 1, o6) :: (L + 1 + 1 + 1 + 1 + 1, o5) :: (L + 1 + 1 + 1 + 1, o4) :: (L + 1 + 1 + 1, o3) :: (L + 1 + 1, o2) :: (L + 1, o1) :: rest) → o8'.data = .cell (some (.ref sa)) → @LT.lt Nat _ (L + 9) sa → (∀ p ∈ rest, p.1 < sa) → (∀ p ∈ [(("asked" : Str), Value.ref ad), (("plain" : Str), Value.ref pa)], m' p.1 = some p.2) → Q .next { s with heap := h', toks := tk' }) :
    wpAny (model prog w) (ktrTop dp un gd cn cs L a ccd (cellsFrom (L + 1) cs.names []) outer) (exec st (envX cn cs L a ccd (cellsFrom (L + 1) cs.names []))) Q E s := by
  obtain ⟨u0, F1⟩ := fr_know [(("asked" : Str), Value.ref ad), (("plain" : Str), Value.ref pa)] F hm
  clear F
  conv at hcs => lhs; whnf
  conv at hst => lhs; whnf
  cases hst
  subst hcs
  w_strict k_steps
  refine ret _ _ _ _ _ (by assumption) (by assumption) (by assumption) (by omega) (tb_ltOf (by assumption)) (by kst_all)
end
section
structure CS9 where
  oB : Obj
  oL : Obj
  rs : List Addr
  n : Nat
  rest : List (Addr × Obj)
/-- the hours that a job can have -/
def spanOf (H : List Int) (J : Jobs) (k : Nat) : Nat × Nat := (nlt H (J k).1, nle H (J k).2)
theorem nlt_take_succ {ns : List Int} {i : Nat} {y x : Int} (h : ns[i]? = some y) : nlt (ns.take (i + 1)) x = nlt (ns.take i) x + if y < x then 1 else 0 := by
  unfold nlt
  rw [List.take_add_one, h]
  simp [List.countP_append, List.countP_cons]
theorem nle_take_succ {ns : List Int} {i : Nat} {y x : Int} (h : ns[i]? = some y) : nle (ns.take (i + 1)) x = nle (ns.take i) x + if y ≤ x then 1 else 0 := by
  unfold nle
  rw [List.take_add_one, h]
  simp [List.countP_append, List.countP_cons]
set_option maxRecDepth 100000 in
set_option maxHeartbeats 8000000 in
set_option pp.maxSteps 4000 in
theorem blk9 {prog : Program} {w : World} {p : Program} {loose : List Str} {mean : ExcName → Option Value} {mg mb : Str → Option Value}
    {dp un : Nat} {gd : Option (List Code)} {cn : Str} {cs : Scope} {st : Stmt} {a : Addr} {ccd : Value} {outer : List Env} {A₀ : Around} {base h₀ : Heap} {L : Addr} {m : Str → Option Value} {rest : List (Addr × Obj)} {s : Shared} {Q : Flow → Shared → Prop} {E : Value → Shared → Prop}
    {o9 o8 o7 o6 o5 o4 o3 o2 o1 : Obj} {ad pa sa jl : Addr} {js : Nat → Addr} {nj np : Nat} {pv : List Value} {ps : List Int} {J : Jobs} {v4 v5 : Option Value}
    (hcs : lawS = cs) (B : Below A₀ base outer h₀) (F : Fr h₀ L s.heap m) (X : (hd.heap_39 w.params).In h₀) (T : Top p loose mean mg mb h₀) (hst : lawB 9 = some st) (N : News h₀ L s.heap ((sa, listOf #[] 0) :: (L + 1 + 1 + 1 + 1 + 1 + 1 + 1 + 1 + 1, o9) :: (L + 1 + 1 + 1 + 1 + 1 + 1 + 1 + 1, o8) :: (L + 1 + 1 + 1 + 1 + 1 + 1 + 1, o7) :: (L + 1 + 1 + 1 + 1 + 1 + 1, o6) :: (L + 1 + 1 + 1 + 1 + 1, o5) :: (L + 1 + 1 + 1 + 1, o4) :: (L + 1 + 1 + 1, o3) :: (L + 1 + 1, o2) :: (L + 1, o1) :: rest)) (hr : Off L rest) (hsa : ∀ p ∈ rest, p.1 ≠ sa) (hsa9 : @LT.lt Nat _ (L + 9) sa)
    (d9 : o9.data = .cell (some (.ref jl))) (d3 : o3.data = .cell (some (.ref sa))) (d4 : o4.data = .cell v4) (d5 : o5.data = .cell v5)
    (hjl : (jl, listOf #[.ref (js 0), .ref (js 1), .ref (js 2), .ref (js 3), .ref (js 4), .ref (js 5)] nj) ∈ rest) (hjs : ∀ i, i < 6 → JobAt rest J (js i) i)
    (hpa : (pa, listOf pv.toArray np) ∈ rest) (hip : IntsAre pv ps) (hps : ps.length = 5)
    (hm : ∀ p ∈ [(("asked" : Str), Value.ref ad), (("plain" : Str), Value.ref pa)], m p.1 = some p.2) (hroom : dp + 20 < recursionLimit)
    (ret : ∀ h' tk' m' (c : CS9), Fr h₀ L h' m' → News h₀ L h' ((sa, listOf (c.rs.map Value.ref).toArray c.n) :: (L + 1 + 1 + 1 + 1 + 1 + 1 + 1 + 1 + 1, o9) :: (L + 1 + 1 + 1 + 1 + 1 + 1 + 1 + 1, o8) :: (L + 1 + 1 + 1 + 1 + 1 + 1 + 1, o7) :: (L + 1 + 1 + 1 + 1 + 1 + 1, o6) :: (L + 1 + 1 + 1 + 1 + 1, c.oL) :: (L + 1 + 1 + 1 + 1, c.oB) :: (L + 1 + 1 + 1, o3) :: (L + 1 + 1, o2) :: (L + 1, o1) :: c.rest) → (∀ p ∈ rest, p ∈ c.rest) → Off L c.rest → (∀ p ∈ c.rest, p.1 ≠ sa) → PairsAre c.rest c.rs ((List.range 6).map (spanOf ps J)) → (∀ p ∈ [(("asked" : Str), Value.ref ad), (("plain" : Str), Value.ref pa)], m' p.1 = some p.2) → Q .next { s with heap := h', toks := tk' })
    (hE : PassesOwn (model prog w) (ktrTop dp un gd cn cs L a ccd (cellsFrom (L + 1) cs.names []) outer) (envX cn cs L a ccd (cellsFrom (L + 1) cs.names [])) E) :
    wpAny (model prog w) (ktrTop dp un gd cn cs L a ccd (cellsFrom (L + 1) cs.names []) outer) (exec st (envX cn cs L a ccd (cellsFrom (L + 1) cs.names []))) Q E s := by
  obtain ⟨u0, F1⟩ := fr_know [(("asked" : Str), Value.ref ad), (("plain" : Str), Value.ref pa)] F hm
  clear F
  conv at hcs => lhs; whnf
  conv at hst => lhs; whnf
  cases hst
  subst hcs
  refine wpAny_For ?_
  w_strict k_steps
  rename Fr _ _ _ _ => F2
  rename News _ _ _ _ => N2
  refine kw_list (σ := { c : CS9 // ∀ p ∈ rest, p ∈ c.rest }) (items := [.ref (js 0), .ref (js 1), .ref (js 2), .ref (js 3), .ref (js 4), .ref (js 5)]) (nl := nj) (by rfl) (fun c => (sa, listOf (c.1.rs.map Value.ref).toArray c.1.n) :: (L + 1 + 1 + 1 + 1 + 1 + 1 + 1 + 1 + 1, o9) :: (L + 1 + 1 + 1 + 1 + 1 + 1 + 1 + 1, o8) :: (L + 1 + 1 + 1 + 1 + 1 + 1 + 1, o7) :: (L + 1 + 1 + 1 + 1 + 1 + 1, o6) :: (L + 1 + 1 + 1 + 1 + 1, c.1.oL) :: (L + 1 + 1 + 1 + 1, c.1.oB) :: (L + 1 + 1 + 1, o3) :: (L + 1 + 1, o2) :: (L + 1, o1) :: c.1.rest) (fun c => [(("asked" : Str), Value.ref ad), (("plain" : Str), Value.ref pa)])
    (fun i c => (∃ v, c.1.oB.data = .cell v) ∧ (∃ v, c.1.oL.data = .cell v) ∧ Off L c.1.rest ∧ (∀ p ∈ c.1.rest, p.1 ≠ sa) ∧ PairsAre c.1.rest c.1.rs ((List.range i).map (spanOf ps J)))
    ⟨⟨o4, o5, [], 0, rest⟩, fun _ h => h⟩ F2 N2 (fun _ h => h) ?ka ⟨⟨_, d4⟩, ⟨_, d5⟩, hr, hsa, .nil⟩ (fun c => .tail _ (.tail _ (.tail _ (.tail _ (.tail _ (.tail _ (.tail _ (.tail _ (.tail _ (.tail _ (c.2 _ hjl))))))))))) ?kt ?kd hE
  case ka => kst_all
  case kd =>
    clear F2 N2
    rintro ⟨c, hsub⟩ u h tk2 ⟨_, _, q3, q4, q5⟩ F3 N3
    dsimp only at q3 q4 q5 hsub F3 N3
    exact ret _ _ _ c F3 N3 hsub q3 q4 q5 (by kst_all)
  clear F2 N2
  rintro i v ⟨⟨oB, oL, rs, n, rest2⟩, hsub⟩ u I oI h tk2 hiv ⟨⟨vB, q1⟩, ⟨vL, q2⟩, q3, q4, q5⟩ hoff F3 N3
  dsimp only at q1 q2 q3 q4 q5 hsub hoff F3 N3
  (generalize hLP1 : LPost _ _ _ _ _ _ _ = LQ1); revert LQ1; refine Halt.out ?_; intro LQ1 hLP1
  obtain ⟨hi6, rfl⟩ := js_item js i v hiv
  obtain ⟨u1, u2, u3, hj⟩ := hjs i hi6
  have hj2 := hsub _ hj
  have hpa2 := hsub _ hpa
  have iI : @Ne Nat sa I := hoff (sa, listOf (rs.map Value.ref).toArray n) (.head _)
  have i5 : @Ne Nat (L + 1 + 1 + 1 + 1 + 1) I := hoff (L + 1 + 1 + 1 + 1 + 1, oL) (.tail _ (.tail _ (.tail _ (.tail _ (.tail _ (.head _))))))
  have i4 : @Ne Nat (L + 1 + 1 + 1 + 1) I := hoff (L + 1 + 1 + 1 + 1, oB) (.tail _ (.tail _ (.tail _ (.tail _ (.tail _ (.tail _ (.head _)))))))
  dsimp only
  k_steps
  rename_i oB2 dB2 _ oL2 dL2 _ F4 N4
  unfold Halt
  have hpz : pv.length ≤ sizeLine := by rw [sizeLine_eq, hip.length]; omega
  refine comp_start (cl := ?cl) ?hclos rfl (by decide) (fun _ => rfl) ?_
  case hclos => with_unfolding_all rfl
  k_steps
  refine comp_list (σ := Unit) (items := pv) (nl := np) (by rfl) hpz (by decide) rfl (fun _ => (I, oI) :: (sa, listOf (rs.map Value.ref).toArray n) :: (L + 1 + 1 + 1 + 1 + 1 + 1 + 1 + 1 + 1, o9) :: (L + 1 + 1 + 1 + 1 + 1 + 1 + 1 + 1, o8) :: (L + 1 + 1 + 1 + 1 + 1 + 1 + 1, o7) :: (L + 1 + 1 + 1 + 1 + 1 + 1, o6) :: (L + 1 + 1 + 1 + 1 + 1, oL2) :: (L + 1 + 1 + 1 + 1, oB2) :: (L + 1 + 1 + 1, o3) :: (L + 1 + 1, o2) :: (L + 1, o1) :: rest2)
    (fun k _ ys => ys.length = nlt (ps.take k) (J i).1) () F4 N4 (fun _ h => h) rfl (fun _ => .tail _ (.tail _ (.tail _ (.tail _ (.tail _ (.tail _ (.tail _ (.tail _ (.tail _ (.tail _ (.tail _ (hpa2)))))))))))) ?turn ?done
  case turn =>
    clear F4 N4
    rintro g C Dk I' oI' hg hID hDC hnI k v cc ys u7 h8 tk8 nk hk8 hys ho F5 N5
    have Xg := X.keeps hg
    have Tg := T.keeps hg
    have hlt : k < pv.length := by
      rcases Nat.lt_or_ge k pv.length with h' | h'
      · exact h'
      · rw [List.getElem?_eq_none h'] at hk8; cases hk8
    obtain ⟨x, hx⟩ : ∃ x, ps[k]? = some x := ⟨_, List.getElem?_eq_getElem (by rw [← hip.length]; exact hlt)⟩
    obtain ⟨tx, hvx⟩ := hip.get k x hx
    rw [hvx] at hk8
    cases hk8
    dsimp only
    k_steps
    · rename x < _ => hlt2
      exact ce () (by assumption) (by assumption) (fun _ h => h) (by rw [nlt_take_succ hx, if_pos hlt2, List.length_append, hys]; rfl) ho
    · rename ¬ x < _ => hlt2
      exact ce () (by assumption) (by assumption) (fun _ h => h) (by rw [nlt_take_succ hx, if_neg hlt2, hys]; rfl) ho
  case done =>
    clear F4 N4
    intro cc ys D1 h8 tk8 nk hys F5 N5 hnD ho
    rw [hip.length, List.take_length] at hys
    have hle1 := nlt_le ps (J i).1
    have hD1 : @LT.lt Nat _ sa D1 := ltN (hnD (sa, _) (.tail _ (.head _)))
    dsimp only
    k_steps
    unfold Halt
    refine len_list (News.isList N5 (.head _)) (by rw [List.size_toArray, hys]; omega) ?_
    k_steps
    unfold Halt
    refine comp_start (cl := ?cl2) ?hclos2 rfl (by decide) (fun _ => rfl) ?_
    case hclos2 => with_unfolding_all rfl
    k_steps
    refine comp_list (σ := Unit) (items := pv) (nl := np) (by rfl) hpz (by decide) rfl (fun _ => (D1, listOf ys.toArray nk) :: (I, oI) :: (sa, listOf (rs.map Value.ref).toArray n) :: (L + 1 + 1 + 1 + 1 + 1 + 1 + 1 + 1 + 1, o9) :: (L + 1 + 1 + 1 + 1 + 1 + 1 + 1 + 1, o8) :: (L + 1 + 1 + 1 + 1 + 1 + 1 + 1, o7) :: (L + 1 + 1 + 1 + 1 + 1 + 1, o6) :: (L + 1 + 1 + 1 + 1 + 1, oL2) :: (L + 1 + 1 + 1 + 1, oB2) :: (L + 1 + 1 + 1, o3) :: (L + 1 + 1, o2) :: (L + 1, o1) :: rest2)
      (fun k _ ys => ys.length = nle (ps.take k) (J i).2) () F5 N5 (fun _ h => h) rfl (fun _ => .tail _ (.tail _ (.tail _ (.tail _ (.tail _ (.tail _ (.tail _ (.tail _ (.tail _ (.tail _ (.tail _ (.tail _ (hpa2))))))))))))) ?turn2 ?done2
    case turn2 =>
      clear F5 N5
      rintro g C Dk I' oI' hg hID hDC hnI k v cc ys2 u7 h8 tk8 nk2 hk8 hys2 ho2 F5 N5
      have Xg := X.keeps hg
      have Tg := T.keeps hg
      have hlt : k < pv.length := by
        rcases Nat.lt_or_ge k pv.length with h' | h'
        · exact h'
        · rw [List.getElem?_eq_none h'] at hk8; cases hk8
      obtain ⟨x, hx⟩ : ∃ x, ps[k]? = some x := ⟨_, List.getElem?_eq_getElem (by rw [← hip.length]; exact hlt)⟩
      obtain ⟨tx, hvx⟩ := hip.get k x hx
      rw [hvx] at hk8
      cases hk8
      dsimp only
      k_steps
      · rename x ≤ _ => hlt2
        exact ce () (by assumption) (by assumption) (fun _ h => h) (by rw [nle_take_succ hx, if_pos hlt2, List.length_append, hys2]; rfl) ho2
      · rename ¬ x ≤ _ => hlt2
        exact ce () (by assumption) (by assumption) (fun _ h => h) (by rw [nle_take_succ hx, if_neg hlt2, hys2]; rfl) ho2
    clear F5 N5
    intro cc2 ys2 D2 h9 tk9 nk2 hys2 F6 N6 hnD2 ho2
    rw [hip.length, List.take_length] at hys2
    have hle2 := nle_le ps (J i).2
    have hD2 : @LT.lt Nat _ sa D2 := ltN (hnD2 (sa, _) (.tail _ (.tail _ (.head _))))
    dsimp only
    k_steps
    unfold Halt
    refine len_list (News.isList N6 (.head _)) (by rw [List.size_toArray, hys2]; omega) ?_
    k_steps
    rename_i T9 _ F7 N7 _ _ _ _ _ _ _ _ _ _ _ _ _ hAll
    unfold Halt
    rw [List.size_toArray, List.size_toArray, hys, hys2] at N7
    obtain ⟨v1, v2, N9⟩ : ∃ v1 v2, News h₀ L _ ((T9, tupOf #[.int (nlt ps (J i).1 : Nat) v1, .int (nle ps (J i).2 : Nat) v2]) :: (D2, listOf ys2.toArray nk2) :: (D1, listOf ys.toArray nk) :: (I, oI) :: (sa, listOf (rs.map Value.ref).toArray n) :: (L + 1 + 1 + 1 + 1 + 1 + 1 + 1 + 1 + 1, o9) :: (L + 1 + 1 + 1 + 1 + 1 + 1 + 1 + 1, o8) :: (L + 1 + 1 + 1 + 1 + 1 + 1 + 1, o7) :: (L + 1 + 1 + 1 + 1 + 1 + 1, o6) :: (L + 1 + 1 + 1 + 1 + 1, oL2) :: (L + 1 + 1 + 1 + 1, oB2) :: (L + 1 + 1 + 1, o3) :: (L + 1 + 1, o2) :: (L + 1, o1) :: rest2) := ⟨_, _, N7⟩
    have N8 : News h₀ L _ ((sa, listOf (rs.map Value.ref).toArray n) :: (I, oI) :: (L + 1 + 1 + 1 + 1 + 1 + 1 + 1 + 1 + 1, o9) :: (L + 1 + 1 + 1 + 1 + 1 + 1 + 1 + 1, o8) :: (L + 1 + 1 + 1 + 1 + 1 + 1 + 1, o7) :: (L + 1 + 1 + 1 + 1 + 1 + 1, o6) :: (L + 1 + 1 + 1 + 1 + 1, oL2) :: (L + 1 + 1 + 1 + 1, oB2) :: (L + 1 + 1 + 1, o3) :: (L + 1 + 1, o2) :: (L + 1, o1) :: (T9, tupOf #[.int (nlt ps (J i).1 : Nat) v1, .int (nle ps (J i).2 : Nat) v2]) :: rest2) := cb_drop N9 (by
      ((try dsimp only); (repeat (refine List.forall_mem_cons.mpr ⟨(by first | ((repeat (first | (with_reducible exact List.Mem.head _) | refine List.Mem.tail _ ?_)); done) | ((repeat (first | (exact List.Mem.head _) | refine List.Mem.tail _ ?_)); done)), ?_⟩)); (intro p hp; first | (cases hp; done) | (repeat (first | exact hp | refine List.Mem.tail _ ?_)))))
    have hall : ∀ p ∈ (I, oI) :: (L + 1 + 1 + 1 + 1 + 1 + 1 + 1 + 1 + 1, o9) :: (L + 1 + 1 + 1 + 1 + 1 + 1 + 1 + 1, o8) :: (L + 1 + 1 + 1 + 1 + 1 + 1 + 1, o7) :: (L + 1 + 1 + 1 + 1 + 1 + 1, o6) :: (L + 1 + 1 + 1 + 1 + 1, oL2) :: (L + 1 + 1 + 1 + 1, oB2) :: (L + 1 + 1 + 1, o3) :: (L + 1 + 1, o2) :: (L + 1, o1) :: (T9, tupOf #[.int (nlt ps (J i).1 : Nat) v1, .int (nle ps (J i).2 : Nat) v2]) :: rest2, p.1 ≠ sa := by
      refine List.forall_mem_cons.mpr ⟨neN (Ne.symm iI), ?_⟩
      iterate 10 (refine List.forall_mem_cons.mpr ⟨by k_ne, ?_⟩)
      exact q4
    have hrl : rs.length = i := by rw [q5.length, List.length_map, List.length_range]
    refine append_K F7 N8 (.head hall) ?_ (by rw [List.size_toArray, List.length_map, hrl, sizeLine_eq]; omega)
    clear F7 N7 N8 N9
    intro h10 F7 N7
    rw [List.push_toArray] at N7
    k_steps
    have e1 : rs.map Value.ref ++ [Value.ref T9] = (rs ++ [T9]).map Value.ref := by simp
    rw [e1] at N7
    rw [← hLP1]
    refine lend ⟨⟨oB2, oL2, rs ++ [T9], n + 1, (T9, tupOf #[.int (nlt ps (J i).1 : Nat) v1, .int (nle ps (J i).2 : Nat) v2]) :: rest2⟩, fun p hp => .tail _ (hsub p hp)⟩ (by assumption) N7 ?w2 ?w3 ⟨⟨⟨_, dB2⟩, ⟨_, dL2⟩, q3.cons (by omega), ?w6, ?w4⟩, ?w5⟩
    case w2 => ((try dsimp only); (repeat (refine List.forall_mem_cons.mpr ⟨(by first | ((repeat (first | (with_reducible exact List.Mem.head _) | refine List.Mem.tail _ ?_)); done) | ((repeat (first | (exact List.Mem.head _) | refine List.Mem.tail _ ?_)); done)), ?_⟩)); (intro p hp; first | (cases hp; done) | (repeat (first | exact hp | refine List.Mem.tail _ ?_))))
    case w3 => kst_all
    case w4 =>
      rw [List.range_succ, List.map_append]
      exact (q5.mono (fun _ h => .tail _ h)).append (.cons (.head _) .nil)
    case w6 =>
      intro p hp
      rcases List.mem_cons.mp hp with rfl | hp
      · exact by k_ne
      · exact q4 p hp
    case w5 =>
      refine List.forall_mem_cons.mpr ⟨iI, ?_⟩
      iterate 4 (refine List.forall_mem_cons.mpr ⟨hoff (_, _) (by (first | ((repeat (first | (with_reducible exact List.Mem.head _) | refine List.Mem.tail _ ?_)); done) | ((repeat (first | (exact List.Mem.head _) | refine List.Mem.tail _ ?_)); done))), ?_⟩)
      refine List.forall_mem_cons.mpr ⟨i5, ?_⟩
      refine List.forall_mem_cons.mpr ⟨i4, ?_⟩
      iterate 3 (refine List.forall_mem_cons.mpr ⟨hoff (_, _) (by (first | ((repeat (first | (with_reducible exact List.Mem.head _) | refine List.Mem.tail _ ?_)); done) | ((repeat (first | (exact List.Mem.head _) | refine List.Mem.tail _ ?_)); done))), ?_⟩)
      refine List.forall_mem_cons.mpr ⟨Nat.ne_of_gt (by assumption), ?_⟩
      intro p hp
      exact hoff p (by repeat (first | exact hp | refine List.Mem.tail _ ?_))
end
section
structure CS10 where
  ors : List Addr
  rest : List (Addr × Obj)
/-- the hours that a job has -/
def ownOf (D : List (Nat × Nat)) (k : Nat) : List Int := (D.filter fun x => decide (x.2 = k)).map fun x => (x.1 : Int)
abbrev OwnAt (news : List (Addr × Obj)) (D : List (Nat × Nat)) (r : Addr) (k : Nat) : Prop := ∃ vs n, (r, listOf (List.toArray vs) n) ∈ news ∧ IntsAre vs (ownOf D k)
theorem kmk_allv (vs : List Value) : (slicePick vs.toArray none none none).toList = vs := by rw [slicePick_all]
set_option maxRecDepth 100000 in
set_option maxHeartbeats 8000000 in
set_option pp.maxSteps 4000 in
theorem items_spec {prog : Program} {w : World} {p : Program} {loose : List Str} {mean : ExcName → Option Value} {mg mb : Str → Option Value}
    {dp un : Nat} {gd : Option (List Code)} {cn : Str} {cs : Scope} {a : Addr} {ccd : Value} {cl : List (Str × Addr)} {outer : List Env} {base g : Heap} {L C : Addr} {u : Str → Option Value} {news : List (Addr × Obj)} {s : Shared} {Q E : Value → Shared → Prop}
    {di dx hl : Addr} {tk : Tok} {nd nh : Nat} {vs : List Value}
    (Bg : Below (ktrTop dp un gd cn cs L a ccd cl outer) base (envX cn cs L a ccd cl :: outer) g) (F : Fr g C s.heap u) (Xg : (hd.heap_39 w.params).In g) (N : News g C s.heap news) (Tg : Top p loose mean mg mb g)
    (hdi : (di, instObj 240 dx) ∈ news) (hdx : (dx, hdD w tk hl nd) ∈ news) (hhl : (hl, listOf vs.toArray nh) ∈ news) (hz : vs.length ≤ 1000) (hroom : dp + 3 < recursionLimit)
    (ret : ∀ h' tk' D2, Fr g C h' u → News g C h' ((D2, listOf vs.toArray 0) :: news) → (∀ p ∈ news, p.1 < D2) → Q (.ref D2) { s with heap := h', toks := tk' }) :
    wpAny (model prog w) (ktrTop dp un gd cn cs L a ccd cl outer) (call (.ref 204) [.ref di]) Q E s := by
  refine wpAny_call ?_
  w_strict (refine' code_defB ?k1 ?k2 ?k3 ?k4 ?k5 ?k6 ?k7 ?k8 ?k9 ?kB ?_ ?c2 ?c3 ?c4 ?c5; (case k1 => exact Bg); (case k2 => exact F); (case k3 => exact Xg); (case k4 => exact N); (case k5 => exact Tg); (case k6 => k_is); (case k7 => k_is); (case k8 => ktr_room); (case k9 => exact BindsTo.of_eq rfl); (case kB => exact locs rfl); (case c2 => exact rfl); (case c3 => exact rfl); (case c4 => exact rfl); (case c5 => decide))
  intro g2 L2 h2 FG F2 N2 B2 X2 T2
  dsimp only
  k_steps
  unfold Halt
  rename Fr _ _ _ _ => F3
  rename News _ _ _ _ => N3
  refine slice_vals_tmp F3 N3 (News.isList N3 hhl) .none .none (kmk_allv vs) ?_ (by with_unfolding_all rfl) (by rw [List.size_toArray, sizeLine_eq]; omega)
  intro D2 h4 F4 N4 hD4
  clear F3 N3
  k_steps
  exact ret _ _ D2 (by assumption) (by assumption) hD4
set_option maxRecDepth 100000 in
set_option maxHeartbeats 8000000 in
set_option pp.maxSteps 4000 in
theorem blk10 {prog : Program} {w : World} {p : Program} {loose : List Str} {mean : ExcName → Option Value} {mg mb : Str → Option Value}
    {dp un : Nat} {gd : Option (List Code)} {cn : Str} {cs : Scope} {st : Stmt} {a : Addr} {ccd : Value} {outer : List Env} {A₀ : Around} {base h₀ : Heap} {L : Addr} {m : Str → Option Value} {rest : List (Addr × Obj)} {s : Shared} {Q : Flow → Shared → Prop} {E : Value → Shared → Prop}
    {o9 o8 o7 o6 o5 o4 o3 o2 o1 : Obj} {ad pa di dx hl : Addr} {tk : Tok} {nd nh : Nat} {rs : List Addr} {D : List (Nat × Nat)} {v6 : Option Value}
    (hcs : lawS = cs) (B : Below A₀ base outer h₀) (F : Fr h₀ L s.heap m) (X : (hd.heap_39 w.params).In h₀) (T : Top p loose mean mg mb h₀) (hst : lawB 10 = some st) (N : News h₀ L s.heap ((L + 1 + 1 + 1 + 1 + 1 + 1 + 1 + 1 + 1, o9) :: (L + 1 + 1 + 1 + 1 + 1 + 1 + 1 + 1, o8) :: (L + 1 + 1 + 1 + 1 + 1 + 1 + 1, o7) :: (L + 1 + 1 + 1 + 1 + 1 + 1, o6) :: (L + 1 + 1 + 1 + 1 + 1, o5) :: (L + 1 + 1 + 1 + 1, o4) :: (L + 1 + 1 + 1, o3) :: (L + 1 + 1, o2) :: (L + 1, o1) :: rest)) (hr : Off L rest)
    (d2 : o2.data = .cell (some (.ref di))) (d6 : o6.data = .cell v6)
    (hdi : (di, instObj 240 dx) ∈ rest) (hdx : (dx, hdD w tk hl nd) ∈ rest) (hhl : (hl, listOf (rs.map Value.ref).toArray nh) ∈ rest) (hH : HdrAre rest rs D) (hB : ∀ x ∈ D, x.1 < 5 ∧ x.2 < 6) (hDl : D.length ≤ 100)
    (hm : ∀ p ∈ [(("asked" : Str), Value.ref ad), (("plain" : Str), Value.ref pa)], m p.1 = some p.2) (hroom : dp + 20 < recursionLimit)
    (ret : ∀ h' tk' m' o6' oa (os : Nat → Addr) no rest', Fr h₀ L h' m' → News h₀ L h' ((L + 1 + 1 + 1 + 1 + 1 + 1 + 1 + 1 + 1, o9) :: (L + 1 + 1 + 1 + 1 + 1 + 1 + 1 + 1, o8) :: (L + 1 + 1 + 1 + 1 + 1 + 1 + 1, o7) :: (L + 1 + 1 + 1 + 1 + 1 + 1, o6') :: (L + 1 + 1 + 1 + 1 + 1, o5) :: (L + 1 + 1 + 1 + 1, o4) :: (L + 1 + 1 + 1, o3) :: (L + 1 + 1, o2) :: (L + 1, o1) :: (oa, listOf #[.ref (os 0), .ref (os 1), .ref (os 2), .ref (os 3), .ref (os 4), .ref (os 5)] no) :: rest') → o6'.data = .cell (some (.ref oa)) → @LT.lt Nat _ (L + 9) oa → (∀ p ∈ rest, p ∈ rest') → Off L rest' → (∀ k, k < 6 → OwnAt rest' D (os k) k) → (∀ p ∈ [(("asked" : Str), Value.ref ad), (("plain" : Str), Value.ref pa)], m' p.1 = some p.2) → Q .next { s with heap := h', toks := tk' }) :
    wpAny (model prog w) (ktrTop dp un gd cn cs L a ccd (cellsFrom (L + 1) cs.names []) outer) (exec st (envX cn cs L a ccd (cellsFrom (L + 1) cs.names []))) Q E s := by
  obtain ⟨u0, F1⟩ := fr_know [(("asked" : Str), Value.ref ad), (("plain" : Str), Value.ref pa)] F hm
  clear F
  have mkB : ∀ g, Fr h₀ L g (kstB u0 [(("asked" : Str), Value.ref ad), (("plain" : Str), Value.ref pa)]) → Below (ktrTop dp un gd cn cs L a ccd (cellsFrom (L + 1) cs.names []) outer) base (envX cn cs L a ccd (cellsFrom (L + 1) cs.names []) :: outer) g := fun g hF =>
    below_block B hF rfl rfl (by rw [← hcs]; rfl)
  conv at hcs => lhs; whnf
  conv at hst => lhs; whnf
  cases hst
  subst hcs
  refine wpAny_Assign_Name ?_ (by with_unfolding_all rfl)
  refine comp_start (cl := ?cl) ?hclos rfl (by decide) (fun _ => rfl) ?_
  case hclos => with_unfolding_all rfl
  w_strict k_steps
  unfold Halt
  refine range1_rows F1 N ?_
  clear F1 N
  intro h2 tk2 r2 t2 u2 v2 hr2 F2 N2
  refine comp_range1 (σ := { c : CS10 // ∀ p ∈ rest, p ∈ c.rest }) (n := 6) (x := "k") (by rfl) hr2 (by decide) (by decide) (by decide) (fun _ => rfl) (fun _ => rfl) rfl (fun _ _ => rfl) (fun c => (L + 1 + 1 + 1 + 1 + 1 + 1 + 1 + 1 + 1, o9) :: (L + 1 + 1 + 1 + 1 + 1 + 1 + 1 + 1, o8) :: (L + 1 + 1 + 1 + 1 + 1 + 1 + 1, o7) :: (L + 1 + 1 + 1 + 1 + 1 + 1, o6) :: (L + 1 + 1 + 1 + 1 + 1, o5) :: (L + 1 + 1 + 1 + 1, o4) :: (L + 1 + 1 + 1, o3) :: (L + 1 + 1, o2) :: (L + 1, o1) :: c.1.rest)
    (fun i c ys => ys = c.1.ors.map Value.ref ∧ c.1.ors.length = i ∧ Off L c.1.rest ∧ ∀ j, j < i → OwnAt c.1.rest D (c.1.ors.getD j 0) j) ⟨⟨[], rest⟩, fun _ h => h⟩ F2 N2 (fun _ h => h) ⟨rfl, rfl, hr, fun j hj => absurd hj (Nat.not_lt_zero _)⟩ ?turn ?done
  case done =>
    clear F2 N2
    rintro ⟨⟨ors, nw⟩, hsub⟩ ys Dl h3 tk3 nD ⟨hys, hlen, hoff, hown⟩ F2 N2 hnD ho
    dsimp only at hys hlen hoff hown hsub N2 ho
    subst hys
    have hDl9 : @LT.lt Nat _ (L + 9) Dl := ltN (hnD _ (.head _))
    have e6 : ors.map Value.ref = [.ref (ors.getD 0 0), .ref (ors.getD 1 0), .ref (ors.getD 2 0), .ref (ors.getD 3 0), .ref (ors.getD 4 0), .ref (ors.getD 5 0)] := by
      obtain ⟨a0, r0, rfl, hl0⟩ := len_succ hlen
      obtain ⟨a1, r1, rfl, hl1⟩ := len_succ hl0
      obtain ⟨a2, r2, rfl, hl2⟩ := len_succ hl1
      obtain ⟨a3, r3, rfl, hl3⟩ := len_succ hl2
      obtain ⟨a4, r4, rfl, hl4⟩ := len_succ hl3
      obtain ⟨a5, r5, rfl, hl5⟩ := len_succ hl4
      obtain rfl := List.eq_nil_of_length_eq_zero hl5
      rfl
    rw [e6] at N2
    have N3 : News h₀ L h3 ((L + 1 + 1 + 1 + 1 + 1 + 1 + 1 + 1 + 1, o9) :: (L + 1 + 1 + 1 + 1 + 1 + 1 + 1 + 1, o8) :: (L + 1 + 1 + 1 + 1 + 1 + 1 + 1, o7) :: (L + 1 + 1 + 1 + 1 + 1 + 1, o6) :: (L + 1 + 1 + 1 + 1 + 1, o5) :: (L + 1 + 1 + 1 + 1, o4) :: (L + 1 + 1 + 1, o3) :: (L + 1 + 1, o2) :: (L + 1, o1) :: (Dl, listOf #[.ref (ors.getD 0 0), .ref (ors.getD 1 0), .ref (ors.getD 2 0), .ref (ors.getD 3 0), .ref (ors.getD 4 0), .ref (ors.getD 5 0)] nD) :: nw) := cb_drop N2 (by
      ((try dsimp only); (repeat (refine List.forall_mem_cons.mpr ⟨(by first | ((repeat (first | (with_reducible exact List.Mem.head _) | refine List.Mem.tail _ ?_)); done) | ((repeat (first | (exact List.Mem.head _) | refine List.Mem.tail _ ?_)); done)), ?_⟩)); (intro p hp; first | (cases hp; done) | (repeat (first | exact hp | refine List.Mem.tail _ ?_)))))
    have hoff2 : Off L ((Dl, listOf #[.ref (ors.getD 0 0), .ref (ors.getD 1 0), .ref (ors.getD 2 0), .ref (ors.getD 3 0), .ref (ors.getD 4 0), .ref (ors.getD 5 0)] nD) :: nw) := hoff.cons hDl9
    clear N2
    refine storeX_C F2 N3 rfl (.tail (by k_ne) (.tail (by k_ne) (.tail (by k_ne) (.head (List.forall_mem_cons.mpr ⟨by k_ne, List.forall_mem_cons.mpr ⟨by k_ne, List.forall_mem_cons.mpr ⟨by k_ne, List.forall_mem_cons.mpr ⟨by k_ne, List.forall_mem_cons.mpr ⟨by k_ne, off_ne hoff2 (by omega) (by omega)⟩⟩⟩⟩⟩))))) d6 ?_
    intro h4 o6' F4 N4 d6'
    exact ret _ _ _ o6' Dl (fun i => ors.getD i 0) nD nw F4 N4 d6' hDl9 hsub hoff hown (by kst_all)
  clear F2 N2
  rintro g C Dl I oI hFg hg hID hDC hnI i tv ⟨⟨ors, nw⟩, hsub⟩ oK ys u h tk3 nD hi6 ⟨hys, hlen, hoff, hown⟩ ho ⟨vK, hK⟩ F2 N2
  dsimp only at hys hlen hoff hown hsub N2 ho
  have Xg := X.keeps hg
  have Tg := T.keeps hg
  have hdi2 := hsub _ hdi
  have hdx2 := hsub _ hdx
  have hhl2 := hsub _ hhl
  have hI9 : @LT.lt Nat _ (L + 9) I := ltN (hnI _ (.head _))
  have hID9 := ltN hID
  have hDC9 := ltN hDC
  have hnwC : ∀ p ∈ nw, p.1 ≠ C + 1 := fun p hp => (ho p (.tail _ (.tail _ (.tail _ (.tail _ (.tail _ (.tail _ (.tail _ (.tail _ (.tail _ (hp))))))))))).2.2
  dsimp only
  k_steps
  have hall : ∀ p ∈ (L + 1 + 1 + 1 + 1 + 1 + 1 + 1 + 1 + 1, o9) :: (L + 1 + 1 + 1 + 1 + 1 + 1 + 1 + 1, o8) :: (L + 1 + 1 + 1 + 1 + 1 + 1 + 1, o7) :: (L + 1 + 1 + 1 + 1 + 1 + 1, o6) :: (L + 1 + 1 + 1 + 1 + 1, o5) :: (L + 1 + 1 + 1 + 1, o4) :: (L + 1 + 1 + 1, o3) :: (L + 1 + 1, o2) :: (L + 1, o1) :: nw, p.1 ≠ C + 1 := fun p hp => (ho p hp).2.2
  refine stCcell F2 N2 rfl (.tail (by k_ne) (.tail (by k_ne) (.head hall))) hK ?_ rfl rfl
  clear F2 N2
  intro h4 oK2 F2 N2 hK2
  k_steps
  unfold Halt
  refine comp_start (cl := ?cl2) ?hclos2 rfl (by decide) (fun _ => rfl) ?_
  case hclos2 => with_unfolding_all rfl
  k_steps
  unfold Halt
  have Bg := mkB g hFg
  have hrl := hH.length
  refine items_spec Bg F2 Xg N2 Tg (.tail _ (.tail _ (.tail _ (.tail _ (.tail _ (.tail _ (.tail _ (.tail _ (.tail _ (.tail _ (.tail _ (.tail _ (hdi2))))))))))))) (.tail _ (.tail _ (.tail _ (.tail _ (.tail _ (.tail _ (.tail _ (.tail _ (.tail _ (.tail _ (.tail _ (.tail _ (hdx2))))))))))))) (.tail _ (.tail _ (.tail _ (.tail _ (.tail _ (.tail _ (.tail _ (.tail _ (.tail _ (.tail _ (.tail _ (.tail _ (hhl2))))))))))))) (by rw [List.length_map]; omega) (by omega) ?_
  clear F2 N2
  intro h5 tk5 D2 F2 N2 hD2
  k_steps
  refine comp_list (σ := Unit) (items := rs.map Value.ref) (nl := 0) (by rfl) (by rw [List.length_map, sizeLine_eq]; omega) (by decide) rfl (fun _ => (D2, listOf (rs.map Value.ref).toArray 0) :: (Dl, listOf ys.toArray nD) :: (I, oI) :: (C + 1, oK2) :: (L + 1 + 1 + 1 + 1 + 1 + 1 + 1 + 1 + 1, o9) :: (L + 1 + 1 + 1 + 1 + 1 + 1 + 1 + 1, o8) :: (L + 1 + 1 + 1 + 1 + 1 + 1 + 1, o7) :: (L + 1 + 1 + 1 + 1 + 1 + 1, o6) :: (L + 1 + 1 + 1 + 1 + 1, o5) :: (L + 1 + 1 + 1 + 1, o4) :: (L + 1 + 1 + 1, o3) :: (L + 1 + 1, o2) :: (L + 1, o1) :: nw)
    (fun k2 _ ys2 => IntsAre ys2 (ownOf (D.take k2) i)) () F2 N2 (fun _ h => h) .nil (fun _ => .head _) ?turn2 ?done2
  case done2 =>
    clear F2 N2
    intro cc ys2 D3 h9 tk9 nk2 hys2 F6 N6 hnD3 ho3
    rw [List.length_map, hrl, List.take_length] at hys2
    have hD39 : @LT.lt Nat _ (L + 9) D3 := ltN (hnD3 _ (.tail _ (.tail _ (.tail _ (.tail _ (.head _))))))
    have hD3l : @LT.lt Nat _ Dl D3 := ltN (hnD3 (Dl, _) (.tail _ (.head _)))
    have hD3C : @LT.lt Nat _ (C + 1) D3 := ltN (hnD3 (C + 1, _) (.tail _ (.tail _ (.tail _ (.head _)))))
    dsimp only
    refine ce1 ⟨⟨ors ++ [D3], (D3, listOf ys2.toArray nk2) :: nw⟩, fun p hp => .tail _ (hsub p hp)⟩ oK2 F6 N6 ?w1 ⟨by simp [hys], by simp [hlen], hoff.cons hD39, ?w2⟩ ?w3 ⟨_, hK2⟩
    case w1 => ((try dsimp only); (repeat (refine List.forall_mem_cons.mpr ⟨(by first | ((repeat (first | (with_reducible exact List.Mem.head _) | refine List.Mem.tail _ ?_)); done) | ((repeat (first | (exact List.Mem.head _) | refine List.Mem.tail _ ?_)); done)), ?_⟩)); (intro p hp; first | (cases hp; done) | (repeat (first | exact hp | refine List.Mem.tail _ ?_))))
    case w2 =>
      intro j hj
      dsimp only
      rcases Nat.lt_or_ge j i with h | h
      · obtain ⟨a1, a2, a3, a4⟩ := hown j h
        rw [List.getD_eq_getElem?_getD, List.getElem?_append_left (by omega), ← List.getD_eq_getElem?_getD]
        exact ⟨a1, a2, .tail _ a3, a4⟩
      · have e : j = i := by omega
        subst e
        rw [List.getD_eq_getElem?_getD, List.getElem?_append_right (by omega), hlen, Nat.sub_self]
        exact ⟨ys2, nk2, .head _, hys2⟩
    case w3 =>
      intro p hp
      rcases (show p = (D3, listOf ys2.toArray nk2) ∨ p ∈ (L + 1 + 1 + 1 + 1 + 1 + 1 + 1 + 1 + 1, o9) :: (L + 1 + 1 + 1 + 1 + 1 + 1 + 1 + 1, o8) :: (L + 1 + 1 + 1 + 1 + 1 + 1 + 1, o7) :: (L + 1 + 1 + 1 + 1 + 1 + 1, o6) :: (L + 1 + 1 + 1 + 1 + 1, o5) :: (L + 1 + 1 + 1 + 1, o4) :: (L + 1 + 1 + 1, o3) :: (L + 1 + 1, o2) :: (L + 1, o1) :: nw by refine List.mem_cons.mp ?_; revert p; ((try dsimp only); (repeat (refine List.forall_mem_cons.mpr ⟨(by first | ((repeat (first | (with_reducible exact List.Mem.head _) | refine List.Mem.tail _ ?_)); done) | ((repeat (first | (exact List.Mem.head _) | refine List.Mem.tail _ ?_)); done)), ?_⟩)); (intro p hp; first | (cases hp; done) | (repeat (first | exact hp | refine List.Mem.tail _ ?_))))) with h | h
      · subst h; exact ⟨by k_ne, by k_ne, by k_ne⟩
      · exact ho p h
  clear F2 N2
  rintro g3 C3 Dk I3 oI3 hg3 hID3 hDC3 hnI3 k2 v cc ys2 u7 h8 tk8 nk2 hk8 hys2 ho2 F5 N5
  have Xg3 := Xg.keeps hg3
  have Tg3 := Tg.keeps hg3
  rw [List.getElem?_map] at hk8
  cases hr8 : rs[k2]? with
  | none => rw [hr8] at hk8; cases hk8
  | some r8 =>
    rw [hr8] at hk8
    cases hk8
    obtain ⟨pp, kk, t8, u8, hC8, hm8⟩ := hH.get hr8
    have hm9 := hsub _ hm8
    have hpk := hB (pp, kk) (List.mem_of_getElem? hC8)
    dsimp only
    k_steps
    all_goals have es : Str.ofString (toString ((0 : Int) + (i : Int) * 1)) = fg i := by rw [show (0 : Int) + (i : Int) * 1 = (i : Int) by omega]; exact str_fg i hi6
    · rename (fg kk == _) = true => he
      rw [es] at he
      obtain rfl := fg_inj (eq_of_beq he)
      have e65 : (((65 + pp : Nat) : Int) - 65) = (pp : Int) := by omega
      rw [e65]
      refine ce () (by assumption) (by assumption) (fun _ h => h) ?_ ho2
      have e : ownOf (D.take (k2 + 1)) kk = ownOf (D.take k2) kk ++ [(pp : Int)] := by
        unfold ownOf
        rw [List.take_add_one, hC8]
        simp
      rw [e]
      exact ints_snoc hys2 _ _
    · rename (fg kk == _) = false => he
      rw [es] at he
      have hne : ¬ kk = i := fun e => by rw [e] at he; simp at he
      refine ce () (by assumption) (by assumption) (fun _ h => h) ?_ ho2
      have e : ownOf (D.take (k2 + 1)) i = ownOf (D.take k2) i := by
        unfold ownOf
        rw [List.take_add_one, hC8]
        simp [hne]
      rw [e]
      exact hys2
end
section
local macro_rules | `(tactic| walk_at "subscriptTail Subscript Name Name Constant ref int") => `(tactic| (k_here; (with_reducible show wpAny _ _ (subscriptTail _ _ (Value.ref _) (Value.int _ _)) _ _ _); k_dflt (refine' item_tupleT ?t ?a ?b ?c ?d ?_; (case t => exact News.isTup (by k_asm) (by k_mem)); (case a => decide); (case b => decide); (case c => rfl); (case d => rfl); k_whole)))
local macro_rules | `(tactic| walk_at "call builtin:list.extend") => `(tactic| refine Halt.out ?_)
/-- the least of these and of the hours' number -/
def minOf (xs : List Int) : Int := xs.foldl min 5
/-- what a job asks for: its hours' letters and its figure -/
def namesK (S : Nat × Nat) (mn : Int) (k : Nat) : List Str := ((List.range' S.1 (S.2 - S.1)).filter fun (h : Nat) => decide ((h : Int) ≤ mn)).flatMap fun h => [lc h, fg k]
def namesUp (S : Nat → Nat × Nat) (own : Nat → List Int) (i : Nat) : List Str := (List.range i).flatMap fun k => namesK (S k) (minOf (own k)) k
theorem foldl_min_spec : ∀ (l : List Int) (x : Int), l.foldl min x ∈ x :: l ∧ ∀ a ∈ x :: l, l.foldl min x ≤ a
  | [], x => ⟨.head _, fun a ha => by simp at ha; subst ha; exact Int.le_refl _⟩
  | y :: l, x => by
    obtain ⟨h1, h2⟩ := foldl_min_spec l (min x y)
    rw [List.foldl_cons]
    refine ⟨?_, fun a ha => ?_⟩
    · rcases List.mem_cons.mp h1 with h | h
      · rw [h]
        rcases Int.le_total x y with hxy | hxy
        · rw [Int.min_eq_left hxy]; simp
        · rw [Int.min_eq_right hxy]; simp
      · simp [h]
    · have h3 := h2 (min x y) (.head _)
      rcases List.mem_cons.mp ha with rfl | ha
      · omega
      · rcases List.mem_cons.mp ha with rfl | ha
        · omega
        · exact h2 a (.tail _ ha)
theorem min_uniq {xs : List Int} {M : Int} (h1 : M ∈ xs ++ [5]) (h2 : ∀ a ∈ xs ++ [5], M ≤ a) : M = minOf xs := by
  obtain ⟨q1, q2⟩ := foldl_min_spec xs 5
  have a1 := h2 (minOf xs) (by unfold minOf; rcases List.mem_cons.mp q1 with h | h <;> simp [h])
  have a2 := q2 M (by simp at h1 ⊢; rcases h1 with h | h <;> simp [h])
  unfold minOf at *
  omega
theorem pairs_length (f : Nat → List Str) (hf : ∀ h, (f h).length = 2) : ∀ l : List Nat, (l.flatMap f).length = 2 * l.length
  | [] => rfl
  | h :: l => by rw [List.flatMap_cons, List.length_append, hf, pairs_length f hf l, List.length_cons]; omega
theorem namesK_length (S : Nat × Nat) (mn : Int) (k : Nat) (h : S.2 ≤ 5) : (namesK S mn k).length ≤ 10 := by
  unfold namesK
  rw [pairs_length _ (fun _ => rfl)]
  have := List.length_filter_le (fun (h : Nat) => decide ((h : Int) ≤ mn)) (List.range' S.1 (S.2 - S.1))
  rw [List.length_range'] at this
  omega
theorem namesUp_length (S : Nat → Nat × Nat) (own : Nat → List Int) (hS : ∀ k, k < 6 → (S k).2 ≤ 5) : ∀ i, i ≤ 6 → (namesUp S own i).length ≤ 10 * i
  | 0, _ => Nat.le_refl _
  | i + 1, hi => by
    have h1 := namesUp_length S own hS i (by omega)
    have h2 := namesK_length (S i) (minOf (own i)) i (hS i (by omega))
    have e : namesUp S own (i + 1) = namesUp S own i ++ namesK (S i) (minOf (own i)) i := by
      unfold namesUp
      rw [List.range_succ, List.flatMap_append]; simp
    rw [e, List.length_append]; omega
set_option maxRecDepth 100000 in
set_option maxHeartbeats 8000000 in
set_option pp.maxSteps 4000 in
theorem blk14 {prog : Program} {w : World} {p : Program} {loose : List Str} {mean : ExcName → Option Value} {mg mb : Str → Option Value}
    {dp un : Nat} {gd : Option (List Code)} {cn : Str} {cs : Scope} {st : Stmt} {a : Addr} {ccd : Value} {outer : List Env} {A₀ : Around} {base h₀ : Heap} {L : Addr} {m : Str → Option Value} {rest : List (Addr × Obj)} {s : Shared} {Q : Flow → Shared → Prop} {E : Value → Shared → Prop}
    {o9 o8 o7 o6 o5 o4 o3 o2 o1 : Obj} {ad pa sa oa na : Addr} {os : Nat → Addr} {np no nsa : Nat} {pv : List Value} {ps : List Int} {rs : List Addr} {S : Nat → Nat × Nat} {D : List (Nat × Nat)}
    (hcs : lawS = cs) (B : Below A₀ base outer h₀) (F : Fr h₀ L s.heap m) (X : (hd.heap_39 w.params).In h₀) (T : Top p loose mean mg mb h₀) (hst : lawB 14 = some st) (N : News h₀ L s.heap ((na, listOf #[] 0) :: (L + 1 + 1 + 1 + 1 + 1 + 1 + 1 + 1 + 1, o9) :: (L + 1 + 1 + 1 + 1 + 1 + 1 + 1 + 1, o8) :: (L + 1 + 1 + 1 + 1 + 1 + 1 + 1, o7) :: (L + 1 + 1 + 1 + 1 + 1 + 1, o6) :: (L + 1 + 1 + 1 + 1 + 1, o5) :: (L + 1 + 1 + 1 + 1, o4) :: (L + 1 + 1 + 1, o3) :: (L + 1 + 1, o2) :: (L + 1, o1) :: rest)) (hr : Off L rest) (hna : ∀ p ∈ rest, p.1 ≠ na) (hna9 : @LT.lt Nat _ (L + 9) na)
    (d8 : o8.data = .cell (some (.ref na))) (d3 : o3.data = .cell (some (.ref sa))) (d6 : o6.data = .cell (some (.ref oa)))
    (hsa : (sa, listOf (rs.map Value.ref).toArray nsa) ∈ rest) (hS : PairsAre rest rs ((List.range 6).map S)) (hSb : ∀ k, k < 6 → (S k).1 ≤ 5 ∧ (S k).2 ≤ 5)
    (hoa : (oa, listOf #[.ref (os 0), .ref (os 1), .ref (os 2), .ref (os 3), .ref (os 4), .ref (os 5)] no) ∈ rest) (hos : ∀ k, k < 6 → OwnAt rest D (os k) k) (hDl : D.length ≤ 100)
    (hpa : (pa, listOf pv.toArray np) ∈ rest) (hip : IntsAre pv ps) (hps : ps.length = 5)
    (hm : ∀ p ∈ [(("asked" : Str), Value.ref ad), (("plain" : Str), Value.ref pa)], m p.1 = some p.2) (hroom : dp + 20 < recursionLimit)
    (ret : ∀ h' tk' m' nv n, Fr h₀ L h' m' → News h₀ L h' ((na, listOf (List.toArray nv) n) :: (L + 1 + 1 + 1 + 1 + 1 + 1 + 1 + 1 + 1, o9) :: (L + 1 + 1 + 1 + 1 + 1 + 1 + 1 + 1, o8) :: (L + 1 + 1 + 1 + 1 + 1 + 1 + 1, o7) :: (L + 1 + 1 + 1 + 1 + 1 + 1, o6) :: (L + 1 + 1 + 1 + 1 + 1, o5) :: (L + 1 + 1 + 1 + 1, o4) :: (L + 1 + 1 + 1, o3) :: (L + 1 + 1, o2) :: (L + 1, o1) :: rest) → StrsAre nv (namesUp S (ownOf D) 6) → (∀ p ∈ [(("asked" : Str), Value.ref ad), (("plain" : Str), Value.ref pa)], m' p.1 = some p.2) → Q .next { s with heap := h', toks := tk' })
    (hE : PassesOwn (model prog w) (ktrTop dp un gd cn cs L a ccd (cellsFrom (L + 1) cs.names []) outer) (envX cn cs L a ccd (cellsFrom (L + 1) cs.names [])) E) :
    wpAny (model prog w) (ktrTop dp un gd cn cs L a ccd (cellsFrom (L + 1) cs.names []) outer) (exec st (envX cn cs L a ccd (cellsFrom (L + 1) cs.names []))) Q E s := by
  obtain ⟨u0, F1⟩ := fr_know [(("asked" : Str), Value.ref ad), (("plain" : Str), Value.ref pa)] F hm
  clear F
  conv at hcs => lhs; whnf
  conv at hst => lhs; whnf
  cases hst
  subst hcs
  have hrl : rs.length = 6 := by rw [hS.length]; rfl
  refine wpAny_For ?_
  w_strict k_steps
  unfold Halt
  refine range1_rows F1 N ?_
  clear F1 N
  intro h2 tk2 r2 t2 u2 v2 hr2 F2 N2
  refine kw_range (σ := List Value × Nat) (n := 6) (by rfl) hr2 (by decide) (by decide)
    (fun c => (na, listOf c.1.toArray c.2) :: (L + 1 + 1 + 1 + 1 + 1 + 1 + 1 + 1 + 1, o9) :: (L + 1 + 1 + 1 + 1 + 1 + 1 + 1 + 1, o8) :: (L + 1 + 1 + 1 + 1 + 1 + 1 + 1, o7) :: (L + 1 + 1 + 1 + 1 + 1 + 1, o6) :: (L + 1 + 1 + 1 + 1 + 1, o5) :: (L + 1 + 1 + 1 + 1, o4) :: (L + 1 + 1 + 1, o3) :: (L + 1 + 1, o2) :: (L + 1, o1) :: rest) (fun c => [(("asked" : Str), Value.ref ad), (("plain" : Str), Value.ref pa)])
    (fun i c => StrsAre c.1 (namesUp S (ownOf D) i)) ([], 0) F2 N2 (fun _ h => h) ?ka .nil ?kt ?kd hE
  case ka => kst_all
  case kd =>
    clear F2 N2
    rintro ⟨nv, n⟩ u h tk q1 F3 N3
    exact ret _ _ _ nv n F3 N3 q1 (by kst_all)
  clear F2 N2
  rintro i ⟨nv, n⟩ tv u I oI h tk3 hi6 q1 hoff F3 N3
  dsimp only at q1 hoff F3 N3
  (generalize hLP1 : LPost _ _ _ _ _ _ _ = LQ1); revert LQ1; refine Halt.out ?_; intro LQ1 hLP1
  have iI : @Ne Nat na I := hoff (na, listOf nv.toArray n) (.head _)
  obtain ⟨a0, b0, t1, t2, hSi, hmem⟩ := hS.get (i := i) (r := rs.getD i 0) (by rw [List.getD_eq_getElem?_getD, List.getElem?_eq_getElem (by omega)]; rfl)
  have hSi2 : S i = (a0, b0) := by
    rw [List.getElem?_map, List.getElem?_range (by omega)] at hSi
    exact Option.some.inj hSi
  obtain ⟨ov, on, how, hio⟩ := hos i hi6
  dsimp only
  k_steps
  unfold Halt
  refine wpAny_For ?_
  k_steps
  unfold Halt
  rename Fr _ _ _ _ => F3
  rename News _ _ _ _ => N3
  have hx : (rs.map Value.ref).toArray[((0 : Int) + (i : Int) * 1).toNat]? = some (.ref (rs.getD i 0)) := by
    have e : ((0 : Int) + (i : Int) * 1).toNat = i := by omega
    rw [e, List.getElem?_toArray, List.getElem?_map, List.getD_eq_getElem?_getD, List.getElem?_eq_getElem (by omega)]; rfl
  have hlS : ∀ {h : Heap} {nw}, News h₀ L h nw → (∀ p ∈ rest, p ∈ nw) → h.IsList sa (rs.map Value.ref).toArray := fun N hs => News.isList N (hs _ hsa)
  refine item_listR (hlS N3 fun p hp => .tail _ (.tail _ (.tail _ (.tail _ (.tail _ (.tail _ (.tail _ (.tail _ (.tail _ (.tail _ (.tail _ (hp)))))))))))) (by omega) (by omega) hx ?_
  k_steps
  unfold Halt
  refine item_listR (hlS N3 fun p hp => .tail _ (.tail _ (.tail _ (.tail _ (.tail _ (.tail _ (.tail _ (.tail _ (.tail _ (.tail _ (.tail _ (hp)))))))))))) (by omega) (by omega) hx ?_
  k_steps
  unfold Halt
  refine range2_rows F3 N3 ?_
  clear F3 N3
  intro h4 tk4 r4 t4 u4 v4 hr4 F3 N3
  have hSb2 := hSb i hi6
  rw [hSi2] at hSb2
  dsimp only at hSb2
  refine kw_range (σ := List Value × Nat) (n := b0 - a0) (by rfl) hr4 (small_one (by omega) (by omega) (by omega) (by omega)) (by rw [rangeSize_one]; split <;> omega)
    (fun c => (I, oI) :: (na, listOf c.1.toArray c.2) :: (L + 1 + 1 + 1 + 1 + 1 + 1 + 1 + 1 + 1, o9) :: (L + 1 + 1 + 1 + 1 + 1 + 1 + 1 + 1, o8) :: (L + 1 + 1 + 1 + 1 + 1 + 1 + 1, o7) :: (L + 1 + 1 + 1 + 1 + 1 + 1, o6) :: (L + 1 + 1 + 1 + 1 + 1, o5) :: (L + 1 + 1 + 1 + 1, o4) :: (L + 1 + 1 + 1, o3) :: (L + 1 + 1, o2) :: (L + 1, o1) :: rest) (fun c => (("k" : Str), .int ((0 : Int) + (i : Int) * 1) tv) :: [(("asked" : Str), Value.ref ad), (("plain" : Str), Value.ref pa)])
    (fun j c => StrsAre c.1 (namesUp S (ownOf D) i ++ ((List.range' a0 j).filter fun (h : Nat) => decide ((h : Int) ≤ minOf (ownOf D i))).flatMap fun h => [lc h, fg i])) (nv, n) F3 N3 (fun _ h => h) ?ja (by simpa using q1) ?jt ?jd ?je
  case ja => kst_all
  case je => passes_own
  case jd =>
    clear F3 N3
    rintro ⟨nv2, n2⟩ u5 h5 tk5 q2 F4 N4
    dsimp only at q2 F4 N4
    k_steps
    rw [← hLP1]
    refine lend (nv2, n2) (by assumption) (by assumption) (fun _ h => h) (by kst_all) ⟨?jd1, ?jd2⟩
    case jd1 =>
      have e : namesUp S (ownOf D) (i + 1) = namesUp S (ownOf D) i ++ namesK (S i) (minOf (ownOf D i)) i := by
        unfold namesUp
        rw [List.range_succ, List.flatMap_append]; simp
      rw [e]
      unfold namesK
      rw [hSi2]
      exact q2
    case jd2 =>
      intro p hp
      rcases List.mem_cons.mp hp with rfl | hp
      · exact iI
      · exact hoff p (.tail _ hp)
  clear F3 N3
  rintro j ⟨nv2, n2⟩ tv2 u5 I2 oI2 h5 tk5 hj q2 hoff2 F4 N4
  dsimp only at q2 hoff2 F4 N4
  (generalize hLP2 : LPost _ _ _ _ _ _ _ = LQ2); revert LQ2; refine Halt.out ?_; intro LQ2 hLP2
  have i2I : @Ne Nat na I2 := hoff2 (na, listOf nv2.toArray n2) (.tail _ (.head _))
  have e0 : (0 : Int) + (i : Int) * 1 = (i : Int) := by omega
  k_steps
  unfold Halt
  rename Fr _ _ _ _ => F5
  rename News _ _ _ _ => N5
  refine item_listR (News.isList N5 (.tail _ (.tail _ (.tail _ (.tail _ (.tail _ (.tail _ (.tail _ (.tail _ (.tail _ (.tail _ (.tail _ (.tail _ (hoa)))))))))))))) (by omega) (by omega) (by rw [e0]; exact js_at os i hi6) ?_
  k_steps
  unfold Halt
  refine len_list (News.isList N5 (.tail _ (.tail _ (.tail _ (.tail _ (.tail _ (.tail _ (.tail _ (.tail _ (.tail _ (.tail _ (.tail _ (.tail _ (hpa)))))))))))))) (by rw [List.size_toArray, hip.length]; omega) ?_
  have e5 : ((pv.toArray.size : Nat) : Int) = 5 := by rw [List.size_toArray, hip.length, hps]; rfl
  rw [e5]
  k_steps
  unfold Halt
  rename Fr _ _ _ _ => F5
  rename News _ _ _ _ => N5
  have howl : (ownOf D i).length ≤ 100 := by
    unfold ownOf
    rw [List.length_map]
    exact Nat.le_trans (List.length_filter_le _ _) hDl
  refine kmk_add_ints F5 N5 (News.isList N5 (.tail _ (.tail _ (.tail _ (.tail _ (.tail _ (.tail _ (.tail _ (.tail _ (.tail _ (.tail _ (.tail _ (.tail _ (.tail _ (how))))))))))))))) (News.isList N5 (.head _)) hio (.cons 5 _ .nil) ?_ (by rw [sizeLine_eq]; simp only [List.length_cons, List.length_nil]; omega)
  clear F5
  intro D5 us h6 F5 N6 hD5 hi5
  clear N5
  k_steps
  unfold Halt
  refine min_list_N (by rfl) F5 N6 (News.isList N6 (.head _)) hi5 (by simp) ?_
  clear F5
  intro h7 M tM tk7 F5 N7 hM1 hM2
  clear N6
  have hM := min_uniq hM1 hM2
  subst hM
  k_steps
  · rename (a0 : Int) + (j : Int) * 1 ≤ _ => hle
    rename_i lx _ F8 N8 _ _ _ _ _ _ _ _ _ _ _ _ _ _ hAll
    unfold Halt
    have e97 : (97 + ((a0 : Int) + (j : Int) * 1)).toNat = 97 + (a0 + j) := by omega
    have es : Str.ofString (toString ((0 : Int) + (i : Int) * 1)) = fg i := by rw [e0]; exact str_fg i hi6
    rw [e97, es] at N8
    have hD5n : @LT.lt Nat _ na D5 := ltN (hD5 (na, _) (.tail _ (.tail _ (.tail _ (.head _)))))
    have hlen := q2.length
    have hup := namesUp_length S (ownOf D) (fun k hk => (hSb k hk).2) i (by omega)
    rw [List.length_append, pairs_length _ (fun _ => rfl)] at hlen
    have hfl := List.length_filter_le (fun (h : Nat) => decide ((h : Int) ≤ minOf (ownOf D i))) (List.range' a0 j)
    rw [List.length_range'] at hfl
    have hnv : nv2.length ≤ 200 := by omega
    refine kl_extend (l := nv2 ++ [.str (lc (a0 + j)) (tk7 + 1 + 1), .str (fg i) (tk7 + 1 + 1 + 1)]) F8 N8 (.head _) rfl (by simp) (.tail (by k_ne) (.tail (by k_ne) (.tail (by k_ne) (.tail (by k_ne) (.tail (by k_ne) (.head ?kna)))))) (extend_door (by rw [sizeLine_eq]; simp only [List.size_toArray, List.length_cons, List.length_nil]; omega)) (by rw [sizeLine_eq]; simp only [List.toList_toArray]; omega) (by rw [sizeLine_eq]; simp only [List.size_toArray, List.length_cons, List.length_nil]; omega) ?_
    case kna =>
      iterate 9 (refine List.forall_mem_cons.mpr ⟨by k_ne, ?_⟩)
      exact hna
    clear F8 N8
    intro h9 F9 N9
    k_steps
    rw [← hLP2]
    refine lend (nv2 ++ [.str (lc (a0 + j)) (tk7 + 1 + 1), .str (fg i) (tk7 + 1 + 1 + 1)], n2 + 1) (by assumption) N9 ?w1 ?w2 ⟨?w3, ?w4⟩
    case w1 => ((try dsimp only); (repeat (refine List.forall_mem_cons.mpr ⟨(by first | ((repeat (first | (with_reducible exact List.Mem.head _) | refine List.Mem.tail _ ?_)); done) | ((repeat (first | (exact List.Mem.head _) | refine List.Mem.tail _ ?_)); done)), ?_⟩)); (intro p hp; first | (cases hp; done) | (repeat (first | exact hp | refine List.Mem.tail _ ?_))))
    case w2 => kst_all
    case w3 =>
      have e : List.range' a0 (j + 1) = List.range' a0 j ++ [a0 + j] := by rw [List.range'_concat]; simp
      dsimp only
      rw [e, List.filter_append, List.flatMap_append, ← List.append_assoc]
      refine q2.append' ?_
      have hd : decide (((a0 + j : Nat) : Int) ≤ minOf (ownOf D i)) = true := by rw [decide_eq_true_eq]; push_cast; omega
      simp only [List.filter_cons, hd, if_true, List.filter_nil, List.flatMap_cons, List.flatMap_nil, List.append_nil]
      exact .cons _ _ (.cons _ _ .nil)
    case w4 =>
      intro p hp
      rcases List.mem_cons.mp hp with rfl | hp
      · exact hoff2 _ (.head _)
      rcases List.mem_cons.mp hp with rfl | hp
      · exact i2I
      · exact hoff2 p (.tail _ (.tail _ hp))
  · rename ¬ (a0 : Int) + (j : Int) * 1 ≤ _ => hle
    rw [← hLP2]
    refine lend (nv2, n2) (by assumption) N7 ?w5 (by kst_all) ⟨?w6, hoff2⟩
    case w5 => ((try dsimp only); (repeat (refine List.forall_mem_cons.mpr ⟨(by first | ((repeat (first | (with_reducible exact List.Mem.head _) | refine List.Mem.tail _ ?_)); done) | ((repeat (first | (exact List.Mem.head _) | refine List.Mem.tail _ ?_)); done)), ?_⟩)); (intro p hp; first | (cases hp; done) | (repeat (first | exact hp | refine List.Mem.tail _ ?_))))
    case w6 =>
      have e : List.range' a0 (j + 1) = List.range' a0 j ++ [a0 + j] := by rw [List.range'_concat]; simp
      have hd : decide (((a0 + j : Nat) : Int) ≤ minOf (ownOf D i)) = false := by rw [decide_eq_false_iff_not]; push_cast; omega
      dsimp only
      rw [e, List.filter_append, List.flatMap_append]
      simp only [List.filter_cons, hd, List.filter_nil, List.flatMap_nil, List.append_nil, Bool.false_eq_true, if_false]
      exact q2
end
section
local macro_rules | `(tactic| walk_at "subscriptTail Subscript Name Name Constant ref int") => `(tactic| (k_here; (with_reducible show wpAny _ _ (subscriptTail _ _ (Value.ref _) (Value.int _ _)) _ _ _); k_dflt (refine' item_tupleT ?t ?a ?b ?c ?d ?_; (case t => exact News.isTup (by k_asm) (by k_mem)); (case a => decide); (case b => decide); (case c => rfl); (case d => rfl); k_whole)))
set_option maxRecDepth 100000 in
set_option maxHeartbeats 8000000 in
set_option pp.maxSteps 4000 in
theorem blk11 {prog : Program} {w : World} {p : Program} {loose : List Str} {mean : ExcName → Option Value} {mg mb : Str → Option Value}
    {dp un : Nat} {gd : Option (List Code)} {cn : Str} {cs : Scope} {st : Stmt} {a : Addr} {ccd : Value} {outer : List Env} {A₀ : Around} {base h₀ : Heap} {L : Addr} {m : Str → Option Value} {rest : List (Addr × Obj)} {s : Shared} {Q : Flow → Shared → Prop} {E : Value → Shared → Prop}
    {o9 o8 o7 o6 o5 o4 o3 o2 o1 : Obj} {ad pa jl : Addr} {js : Nat → Addr} {nj : Nat} {J : Jobs} {D : Addr}
    (hcs : lawS = cs) (B : Below A₀ base outer h₀) (F : Fr h₀ L s.heap m) (X : (hd.heap_39 w.params).In h₀) (T : Top p loose mean mg mb h₀) (hst : lawB 11 = some st) (N : News h₀ L s.heap ((L + 1 + 1 + 1 + 1 + 1 + 1 + 1 + 1 + 1, o9) :: (L + 1 + 1 + 1 + 1 + 1 + 1 + 1 + 1, o8) :: (L + 1 + 1 + 1 + 1 + 1 + 1 + 1, o7) :: (L + 1 + 1 + 1 + 1 + 1 + 1, o6) :: (L + 1 + 1 + 1 + 1 + 1, o5) :: (L + 1 + 1 + 1 + 1, o4) :: (L + 1 + 1 + 1, o3) :: (L + 1 + 1, o2) :: (L + 1, o1) :: (258, tabObj #[]) :: rest)) (hT : CodeHd h₀ 260 258) (hr : Off L rest) (h258 : ∀ p ∈ rest, p.1 ≠ 258) (h258L : @LT.lt Nat _ 258 L)
    (d9 : o9.data = .cell (some (.ref jl)))
    (hjl : (jl, listOf #[.ref (js 0), .ref (js 1), .ref (js 2), .ref (js 3), .ref (js 4), .ref (js 5)] nj) ∈ rest) (hjs : ∀ i, i < 6 → JobAt rest J (js i) i)
    (hm : ∀ p ∈ [(("asked" : Str), Value.ref ad), (("plain" : Str), Value.ref pa)], m p.1 = some p.2) (hroom : dp + 30 < recursionLimit) (hccd : ccd = .ref 260)
    (ret : ∀ h' tk' m' ra rv rl n pT rest', Fr h₀ L h' m' → News h₀ L h' ((L + 1 + 1 + 1 + 1 + 1 + 1 + 1 + 1 + 1, o9) :: (L + 1 + 1 + 1 + 1 + 1 + 1 + 1 + 1, o8) :: (L + 1 + 1 + 1 + 1 + 1 + 1 + 1, o7) :: (L + 1 + 1 + 1 + 1 + 1 + 1, o6) :: (L + 1 + 1 + 1 + 1 + 1, o5) :: (L + 1 + 1 + 1 + 1, o4) :: (L + 1 + 1 + 1, o3) :: (L + 1 + 1, o2) :: (L + 1, o1) :: (258, tabObj pT) :: (ra, listOf (List.toArray rv) n) :: rest') → @LT.lt Nat _ (L + 9) ra → rest' = rest → Ranked J rl → IntsAre rv (rl.map fun (k : Nat) => (k : Int)) → (∀ p ∈ [(("asked" : Str), Value.ref ad), (("plain" : Str), Value.ref pa), (("ranked" : Str), Value.ref ra)], m' p.1 = some p.2) → Q .next { s with heap := h', toks := tk' }) :
    wpAny (model prog w) (ktrTop dp un gd cn cs L a ccd (cellsFrom (L + 1) cs.names []) outer) (exec st (envX cn cs L a ccd (cellsFrom (L + 1) cs.names []))) Q E s := by
  obtain ⟨u0, F1⟩ := fr_know [(("asked" : Str), Value.ref ad), (("plain" : Str), Value.ref pa)] F hm
  clear F
  conv at hcs => lhs; whnf
  conv at hst => lhs; whnf
  cases hst
  subst hcs
  subst hccd
  w_strict k_steps
  unfold Halt
  refine range1_N F1 N ?_
  clear F1 N
  intro h2 tk2 r2 t2 u2 v2 F2 N2 hr2
  have hr29 : @LT.lt Nat _ (L + 9) r2 := ltN (hr2 _ (.head _))
  k_steps
  unfold Halt
  rename_i fa ca oca vsa ta cta _ _ F3 N3 dd1 dd2 _ _ _ _ _ _ _ _ _ _ _ hAll hcf
  refine sorted_rangeK (f := .ref fa) (kw := [(Str.ofString "key", .ref fa)]) (n := 6) (by rfl) F3 N3 (N3 _ (.tail _ (.tail _ (.head _)))).1 (by decide) (by decide) (by decide) (by decide) (by ksk_a1) (by intro x; ksk_a2) (by intro x; ksk_a3) ?_
  clear F3 N3
  intro vs Ds kS e1 h4 tk4 hvl hvs F4 N4 hDk hnD
  refine keys_all (K1 := fun i => (J i).2) (K2 := fun i => -(J i).1) (K3 := fun i => -(i : Int)) (n := 6) ?hcall _ ?fin vs [] 0 h4 tk4 _ (by simp [hvl]) (fun i hi => by rw [hvl] at hi; simpa using hvs i hi) F4 N4 (fun _ h => h) (Ne.symm (Nat.ne_of_lt hDk)) (fun p hp => Nat.ne_of_lt (Nat.lt_trans (hnD p hp) hDk)) (fun p hp => Nat.ne_of_lt (hnD p hp)) (fun j hj => absurd hj (Nat.not_lt_zero _))
  case hcall =>
    clear F4 N4
    intro i t rest2 s2 Q2 hi F5 N5 hb5 ret5
    have m1 := hb5 _ (.head _)
    have m2 := hb5 _ (.tail _ (.head _))
    have m3 := hb5 _ (.tail _ (.tail _ (.tail _ (.head _))))
    have m4 := hb5 _ (.tail _ (.tail _ (.tail _ (.tail _ (.tail _ (.tail _ (.tail _ (.tail _ (.tail _ (.tail _ (.tail _ (.tail _ (.tail _ hjl)))))))))))))
    obtain ⟨u1, u2, u3, hj⟩ := hjs i hi
    have m5 := hb5 _ (.tail _ (.tail _ (.tail _ (.tail _ (.tail _ (.tail _ (.tail _ (.tail _ (.tail _ (.tail _ (.tail _ (.tail _ (.tail _ hj)))))))))))))
    clear hb5 hnD hAll
    k_steps
    unfold Halt
    rename News _ _ _ rest2 => N6
    refine item_listR (News.isList N6 m4) (by omega) (by omega) (js_at js i hi) ?_
    k_steps
    unfold Halt
    refine item_listR (News.isList N6 m4) (by omega) (by omega) (js_at js i hi) ?_
    k_steps
    exact ret5 _ _ _ _ _ _ (by assumption) (by assumption) (by assumption)
  case fin =>
    clear F4 N4
    intro ks e h5 tk5 rest2 F5 N5 hb5 hk5 hD5 hkl hks
    have hget : ∀ j, j < 6 → ∃ t1 t2 t3, h5.get? (ks.getD j 0) = some (tup3 (J j).2 (-(J j).1) (-(j : Int)) t1 t2 t3) := fun j hj => by
      obtain ⟨t1, t2, t3, hm9⟩ := hks j hj
      exact ⟨t1, t2, t3, (N5 _ (.tail _ (.tail _ hm9))).1⟩
    obtain ⟨fs, hf1, hf2, hf3⟩ := tups_of (h := h5) ks fun k hk => by
      obtain ⟨j, hj, rfl⟩ := List.getElem_of_mem hk
      obtain ⟨t1, t2, t3, h9⟩ := hget j (by omega)
      rw [List.getD_eq_getElem?_getD, List.getElem?_eq_getElem hj] at h9
      exact ⟨_, _, _, _, _, _, h9⟩
    refine kat_kind (T := .type "int") hf1 (by omega) (fun v hv => by obtain ⟨x, t, rfl⟩ := hf3 v hv; exact .now) rfl ?_
    rw [show (Value.type "int" != Value.type "tuple") = true from rfl, hvl]
    obtain ⟨pp, hp1, hp2⟩ := sort_ranked J
    refine kas_run (n := 6) (Inv := fun s' => s' = _) ?ask (kas_sort 6) _ hp1 rfl ?q
    case ask =>
      rintro i j C s' hi hj rfl hC
      obtain ⟨t1, t2, t3, g1⟩ := hget i hi
      obtain ⟨w1, w2, w3, g2⟩ := hget j hj
      have e1 : ∀ k, k < 6 → (katRev false (ks.map Value.ref)).getD k Value.none = .ref (ks.getD k 0) := fun k hk => by
        show (ks.map Value.ref).getD k Value.none = _
        rw [List.getD_eq_getElem?_getD, List.getD_eq_getElem?_getD, List.getElem?_map, List.getElem?_eq_getElem (by omega)]; rfl
      unfold kas_ask
      rw [e1 i hi, e1 j hj]
      refine ask_tup g1 g2 ?_
      have e2 : decide ((J i).2 < (J j).2 ∨ ((J i).2 = (J j).2 ∧ (-(J i).1 < -(J j).1 ∨ (-(J i).1 = -(J j).1 ∧ -(i : Int) < -(j : Int))))) = decide (rankOf J i < rankOf J j) := by
        rw [rank_iff hi hj, before]
        congr 1; apply propext; omega
      rw [e2]
      exact hC _ rfl
    case q =>
      rintro s' rfl
      refine KatFin.intro F5 N5 (.head (List.forall_mem_cons.mpr ⟨Nat.ne_of_lt hDk, hk5⟩)) ?_
      intro h6 c6 F6 N6
      refine KasFin.intro F6 N6 (.tail (Ne.symm (Nat.ne_of_lt hDk)) (.head hD5)) ?_
      intro h7 c7 F7 N7
      have hDs9 : @LT.lt Nat _ (L + 9) Ds := ltN (hnD _ (.tail _ (.tail _ (.tail _ (.head _)))))
      obtain ⟨pT, m258⟩ : ∃ pT, (258, tabObj pT) ∈ rest2 := ⟨_, hb5 _ (.tail _ (.tail _ (.tail _ (.tail _ (.tail _ (.tail _ (.tail _ (.tail _ (.tail _ (.tail _ (.tail _ (.tail _ (.head _)))))))))))))⟩
      dsimp only
      k_steps
      refine ret _ _ _ Ds _ pp.toList c7 pT rest (by assumption) (cb_drop (by assumption) ?sub) hDs9 rfl hp2 (ranked_ints hvs hp2.2) (by kst_all)
      case sub =>
        intro p hp
        simp only [List.mem_cons] at hp
        rcases hp with h | h | h | h | h | h | h | h | h | h | h | h
        · subst h; exact .tail _ (.tail _ (hb5 _ (.tail _ (.tail _ (.tail _ (.head _))))))
        · subst h; exact .tail _ (.tail _ (hb5 _ (.tail _ (.tail _ (.tail _ (.tail _ (.head _)))))))
        · subst h; exact .tail _ (.tail _ (hb5 _ (.tail _ (.tail _ (.tail _ (.tail _ (.tail _ (.head _))))))))
        · subst h; exact .tail _ (.tail _ (hb5 _ (.tail _ (.tail _ (.tail _ (.tail _ (.tail _ (.tail _ (.head _)))))))))
        · subst h; exact .tail _ (.tail _ (hb5 _ (.tail _ (.tail _ (.tail _ (.tail _ (.tail _ (.tail _ (.tail _ (.head _))))))))))
        · subst h; exact .tail _ (.tail _ (hb5 _ (.tail _ (.tail _ (.tail _ (.tail _ (.tail _ (.tail _ (.tail _ (.tail _ (.head _)))))))))))
        · subst h; exact .tail _ (.tail _ (hb5 _ (.tail _ (.tail _ (.tail _ (.tail _ (.tail _ (.tail _ (.tail _ (.tail _ (.tail _ (.head _))))))))))))
        · subst h; exact .tail _ (.tail _ (hb5 _ (.tail _ (.tail _ (.tail _ (.tail _ (.tail _ (.tail _ (.tail _ (.tail _ (.tail _ (.tail _ (.head _)))))))))))))
        · subst h; exact .tail _ (.tail _ (hb5 _ (.tail _ (.tail _ (.tail _ (.tail _ (.tail _ (.tail _ (.tail _ (.tail _ (.tail _ (.tail _ (.tail _ (.head _))))))))))))))
        · subst h; exact .tail _ (.tail _ m258)
        · subst h; exact .tail _ (.head _)
        · exact .tail _ (.tail _ (hb5 _ (.tail _ (.tail _ (.tail _ (.tail _ (.tail _ (.tail _ (.tail _ (.tail _ (.tail _ (.tail _ (.tail _ (.tail _ (.tail _ (h))))))))))))))))
end
section
local macro_rules | `(tactic| walk_at "eval DictComp") => `(tactic| refine Halt.out ?_)
local macro_rules | `(tactic| walk_at "call ref") => `(tactic| ((show wpAny _ _ (call (Value.ref 107) _ _) _ _ _); refine Halt.out ?_))
set_option maxRecDepth 100000 in
set_option maxHeartbeats 8000000 in
set_option pp.maxSteps 4000 in
theorem blk15 {prog : Program} {w : World} {p : Program} {loose : List Str} {mean : ExcName → Option Value} {mg mb : Str → Option Value}
    {dp un : Nat} {gd : Option (List Code)} {cn : Str} {cs : Scope} {st : Stmt} {a : Addr} {ccd : Value} {outer : List Env} {A₀ : Around} {base h₀ : Heap} {L : Addr} {m : Str → Option Value} {rest : List (Addr × Obj)} {s : Shared} {Q : Flow → Shared → Prop} {E : Value → Shared → Prop}
    {o9 o8 o7 o6 o5 o4 o3 o2 o1 : Obj} {ad pa na : Addr} {nn : Nat} {nv : List Value} {ns : List Str} {od : Obj} {kvs : List (Str × Value)} {C : List (Str × Int)}
    (hcs : lawS = cs) (B : Below A₀ base outer h₀) (F : Fr h₀ L s.heap m) (X : (hd.heap_39 w.params).In h₀) (T : Top p loose mean mg mb h₀) (hst : lawB 15 = some st) (N : News h₀ L s.heap ((L + 1 + 1 + 1 + 1 + 1 + 1 + 1 + 1 + 1, o9) :: (L + 1 + 1 + 1 + 1 + 1 + 1 + 1 + 1, o8) :: (L + 1 + 1 + 1 + 1 + 1 + 1 + 1, o7) :: (L + 1 + 1 + 1 + 1 + 1 + 1, o6) :: (L + 1 + 1 + 1 + 1 + 1, o5) :: (L + 1 + 1 + 1 + 1, o4) :: (L + 1 + 1 + 1, o3) :: (L + 1 + 1, o2) :: (L + 1, o1) :: rest)) (hr : Off L rest)
    (d8 : o8.data = .cell (some (.ref na))) (hna : (na, listOf nv.toArray nn) ∈ rest) (hns : StrsAre nv ns) (hnl : nv.length ≤ 1000)
    (had : (ad, od) ∈ rest) (hod : od.IsDictOf (strKind prog w) kvs) (hlo : (ad == sysModules) = false) (hC : CountsAre kvs C) (hT : Tally C ns)
    (hm : ∀ p ∈ [(("asked" : Str), Value.ref ad)], m p.1 = some p.2) (hroom : dp + 30 < recursionLimit) (hun : un < cLine)
    (ret : ∀ h' tk' m', Fr h₀ L h' m' → News h₀ L h' ((L + 1 + 1 + 1 + 1 + 1 + 1 + 1 + 1 + 1, o9) :: (L + 1 + 1 + 1 + 1 + 1 + 1 + 1 + 1, o8) :: (L + 1 + 1 + 1 + 1 + 1 + 1 + 1, o7) :: (L + 1 + 1 + 1 + 1 + 1 + 1, o6) :: (L + 1 + 1 + 1 + 1 + 1, o5) :: (L + 1 + 1 + 1 + 1, o4) :: (L + 1 + 1 + 1, o3) :: (L + 1 + 1, o2) :: (L + 1, o1) :: rest) → Q (.ret (.bool true)) { s with heap := h', toks := tk' }) :
    wpAny (model prog w) (ktrTop dp un gd cn cs L a ccd (cellsFrom (L + 1) cs.names []) outer) (exec st (envX cn cs L a ccd (cellsFrom (L + 1) cs.names []))) Q E s := by
  obtain ⟨u0, F1⟩ := fr_know [(("asked" : Str), Value.ref ad)] F hm
  clear F
  conv at hcs => lhs; whnf
  conv at hst => lhs; whnf
  cases hst
  subst hcs
  w_strict k_steps
  unfold Halt
  have hl0 : s.heap.get? na = some (listOf nv.toArray nn) := (N _ (.tail _ (.tail _ (.tail _ (.tail _ (.tail _ (.tail _ (.tail _ (.tail _ (.tail _ (hna))))))))))).1
  have h8 : s.heap.get? (L + 1 + 1 + 1 + 1 + 1 + 1 + 1 + 1) = some o8 := (N _ (.tail _ (.head _))).1
  have hz : nv.toArray.size ≤ sizeLine := by rw [sizeLine_eq, List.size_toArray]; omega
  refine dict_comp (cl := ?cl) (x := "name") (l := na) (items := nv.toArray) (nl := nn) (FVs fun k => Spec.countIn (.str k) (ns.map PyData.str)) (by rfl) hz ?hclos (by decide) rfl (by decide) rfl ?_
  case hclos => with_unfolding_all rfl
  refine wpAny_Name (wpAny_loadName_cell (c := L + 1 + 1 + 1 + 1 + 1 + 1 + 1 + 1) rfl rfl rfl ⟨o8, N.get (.tail _ (.head _)), d8⟩ ?_) (by decide)
  have body : ∀ (C : Addr) (s₃ : Shared) (m₃ : Str → Option Value) (v : Value), s₃.heap.Ns C m₃ → m₃ "name" = some v → (∀ b o, s.heap.get? b = some o → s₃.heap.get? b = some o) →
      ∃ u3, Fr {} C s₃.heap (kstB u3 [(("name" : Str), v)]) ∧ News {} C s₃.heap [(L + 1 + 1 + 1 + 1 + 1 + 1 + 1 + 1, o8), (na, listOf nv.toArray nn)] := by
    intro C s₃ m₃ v hn hv hk
    obtain ⟨u3, F3⟩ := fr_know (h₀ := {}) [(("name" : Str), v)] ⟨hn, by intro b o e; simp [Heap.get?] at e, Nat.zero_le _⟩ (by intro p hp; simp at hp; subst hp; exact hv)
    refine ⟨u3, F3, ?_⟩
    have g8 := hk _ _ h8
    have gn := hk _ _ hl0
    obtain ⟨oC, es, ep, hoC, hdC, _⟩ := hn
    intro p hp
    simp only [List.mem_cons, List.not_mem_nil, or_false] at hp
    rcases hp with rfl | rfl
    · refine ⟨g8, ?_, rfl⟩
      rintro rfl
      rw [g8] at hoC; cases hoC; rw [d8] at hdC; cases hdC
    · refine ⟨gn, ?_, rfl⟩
      rintro rfl
      rw [gn] at hoC; cases hoC; cases hdC
  have hstr : ∀ (i : Nat) v, nv.toArray[i]? = some v → ∃ k t, v = .str k t := fun i v hv => strs_shape hns v (by rw [List.getElem?_toArray] at hv; exact List.mem_of_getElem? hv)
  refine ⟨rfl, hl0, fun s₂ wr hup => ⟨?tests, ?key, ?val⟩, ?done⟩
  case tests =>
    intros
    exact wpAny_pure ⟨rfl, _, _, rfl, fun _ _ e => e⟩
  case key =>
    intro C i v s₃ m₃ E' hP _ hn hv hk
    obtain ⟨k, t, rfl⟩ := hstr i v hP
    obtain ⟨u3, F3, N3⟩ := body C s₃ m₃ _ hn hv fun b o e => hk b o (hup b o e).1 (hup b o e).2
    refine nmL F3 (v := .str k t) ?h1 ?h2 ?h3 ?h4 ?h5
    case h1 => rfl
    case h2 => rfl
    case h3 => rfl
    case h4 => decide
    exact ⟨⟨k, by simp [PySem.strKind, Value.isStrOf], ⟨t, rfl⟩⟩, _, _, rfl, fun _ _ e => e⟩
  case val =>
    intro C i v s₃ m₃ E' hP _ hn hv hk
    obtain ⟨k, t, rfl⟩ := hstr i v hP
    obtain ⟨u3, F3, N3⟩ := body C s₃ m₃ _ hn hv fun b o e => hk b o (hup b o e).1 (hup b o e).2
    clear F1 N
    k_steps
    · exact ⟨_, _, _, rfl, rfl⟩
    · exact ⟨_, _, rfl, fun _ _ e => e⟩
  case done =>
    intro D h2 tk2 kb hDs hDb hS hk2
    have hL1 : L < s.heap.objs.size := F1.ns.lt
    have F2 : Fr h₀ L h2 (kstB u0 [(("asked" : Str), Value.ref ad)]) := ⟨F1.ns.at' fun o e => hk2 _ o e, fun b o e => hk2 b o (F1.keep b o e), F1.above⟩
    have N2 : News h₀ L h2 ((L + 1 + 1 + 1 + 1 + 1 + 1 + 1 + 1 + 1, o9) :: (L + 1 + 1 + 1 + 1 + 1 + 1 + 1 + 1, o8) :: (L + 1 + 1 + 1 + 1 + 1 + 1 + 1, o7) :: (L + 1 + 1 + 1 + 1 + 1 + 1, o6) :: (L + 1 + 1 + 1 + 1 + 1, o5) :: (L + 1 + 1 + 1 + 1, o4) :: (L + 1 + 1 + 1, o3) :: (L + 1 + 1, o2) :: (L + 1, o1) :: rest) := fun p hp => ⟨hk2 _ _ (N p hp).1, (N p hp).2⟩
    have hd1 : (D == sysModules) = false := by
      have : 1 < s.heap.objs.size := Nat.lt_of_le_of_lt (show 1 ≤ L + 1 from Nat.le_add_left 1 L) (Heap.lt_size (N _ (.tail _ (.tail _ (.tail _ (.tail _ (.tail _ (.tail _ (.tail _ (.tail _ (.head _)))))))))).1)
      have h1 : D ≠ 1 := Nat.ne_of_gt (Nat.lt_of_lt_of_le this hDs)
      simpa [sysModules] using h1
    have hda : h2.DictOf (PySem.strKind prog w) ad kvs := Heap.dictOf_iff.mpr ⟨od, (N2 _ (.tail _ (.tail _ (.tail _ (.tail _ (.tail _ (.tail _ (.tail _ (.tail _ (.tail _ (had))))))))))).1, hod⟩
    clear F1 N
    obtain ⟨hlen, _⟩ := tally_hits (A := callerA) (s := s) hT hC hns (by simpa using hS)
    refine keq_eq (knd := PySem.strKind prog w) (r := true) hlo hd1 hda hDb hun (fun _ => (tally_hits hT hC hns (by simpa using hS)).2) ?_
    rw [hlen, beq_self_eq_true, Bool.true_and]
    try dsimp only
    k_steps
    unfold Halt
    refine count_spec B F2 X N2 T rfl (.tail _ (.tail _ (.tail _ (.tail _ (.tail _ (.tail _ (.tail _ (.tail _ (.tail _ (had)))))))))) hod hlo hC (by omega) ?_
    clear F2 N2
    intro t3 h3 tk3 F3 N3
    k_steps
    unfold Halt
    refine len_list (News.isList N3 (.tail _ (.tail _ (.tail _ (.tail _ (.tail _ (.tail _ (.tail _ (.tail _ (.tail _ (hna))))))))))) (by rw [List.size_toArray]; omega) ?_
    have e5 : ((nv.toArray.size : Nat) : Int) = total C := by rw [List.size_toArray, hns.length, hT.tot]
    rw [e5]
    k_steps
    rw [beq_self_eq_true]
    exact ret _ _ _ (by assumption) (by assumption)
end
section
local macro_rules | `(tactic| walk_at "subscriptTail Name Slice ref ref") => `(tactic| refine Halt.out ?_)
/-- how many hours below a size the first ranked jobs have -/
def haveN (rl : List Nat) (D : List (Nat × Nat)) (z c : Nat) : Nat := ((rl.take c).flatMap fun k => (ownOf D k).filter fun x => decide (x < (z : Int))).length
theorem haveN_succ {l : List Nat} {D : List (Nat × Nat)} {z q k : Nat} (h : l[q]? = some k) : haveN l D z (q + 1) = haveN l D z q + ((ownOf D k).filter fun x => decide (x < (z : Int))).length := by
  unfold haveN
  rw [List.take_add_one, h]
  simp [List.flatMap_append]
theorem haveN_le {D : List (Nat × Nat)} (h : ∀ k, (ownOf D k).length ≤ 100) (l : List Nat) (z : Nat) : ∀ q, haveN l D z q ≤ 100 * q
  | 0 => Nat.le_refl _
  | q + 1 => by
    have ih := haveN_le h l z q
    cases hq : l[q]? with
    | none =>
      have e : haveN l D z (q + 1) = haveN l D z q := by unfold haveN; rw [List.take_add_one, hq]; simp
      omega
    | some k =>
      rw [haveN_succ hq]
      have h1 := h k
      have h2 := List.length_filter_le (fun x => decide (x < (z : Int))) (ownOf D k)
      omega
theorem pairs_pick {news : List (Addr × Obj)} {rs : List Addr} {S : Nat → Nat × Nat} (h : PairsAre news rs ((List.range 6).map S)) (hl : rs.length = 6) : ∀ l : List Nat, (∀ k ∈ l, k < 6) → PairsAre news (l.map fun k => rs.getD k 0) (l.map S)
  | [], _ => .nil
  | k :: l, hk => by
    have hk6 := hk k (.head _)
    obtain ⟨a, b, t1, t2, h1, h2⟩ := h.get (i := k) (r := rs.getD k 0) (by rw [List.getD_eq_getElem?_getD, List.getElem?_eq_getElem (by omega)]; rfl)
    have h3 : S k = (a, b) := by
      rw [List.getElem?_map, List.getElem?_range hk6] at h1
      exact Option.some.inj h1
    show PairsAre news (rs.getD k 0 :: _) (S k :: _)
    rw [h3]
    exact .cons h2 (pairs_pick h hl l fun k' hk' => hk k' (.tail _ hk'))
set_option maxRecDepth 100000 in
set_option maxHeartbeats 8000000 in
set_option pp.maxSteps 4000 in
theorem blk12 {prog : Program} {w : World} {p : Program} {loose : List Str} {mean : ExcName → Option Value} {mg mb : Str → Option Value}
    {dp un : Nat} {gd : Option (List Code)} {cn : Str} {cs : Scope} {st : Stmt} {a : Addr} {ccd : Value} {outer : List Env} {A₀ : Around} {base h₀ : Heap} {L : Addr} {m : Str → Option Value} {rest : List (Addr × Obj)} {s : Shared} {Q : Flow → Shared → Prop} {E : Value → Shared → Prop}
    {o9 o8 o7 o6 o5 o4 o3 o2 o1 : Obj} {ad pa sa oa ra : Addr} {os : Nat → Addr} {np no nsa nr : Nat} {pv rv : List Value} {ps : List Int} {rs : List Addr} {S : Nat → Nat × Nat} {D : List (Nat × Nat)} {rl : List Nat} {v7 : Option Value}
    (hcs : lawS = cs) (B : Below A₀ base outer h₀) (F : Fr h₀ L s.heap m) (X : (hd.heap_39 w.params).In h₀) (T : Top p loose mean mg mb h₀) (hst : lawB 12 = some st) (N : News h₀ L s.heap ((L + 1 + 1 + 1 + 1 + 1 + 1 + 1 + 1 + 1, o9) :: (L + 1 + 1 + 1 + 1 + 1 + 1 + 1 + 1, o8) :: (L + 1 + 1 + 1 + 1 + 1 + 1 + 1, o7) :: (L + 1 + 1 + 1 + 1 + 1 + 1, o6) :: (L + 1 + 1 + 1 + 1 + 1, o5) :: (L + 1 + 1 + 1 + 1, o4) :: (L + 1 + 1 + 1, o3) :: (L + 1 + 1, o2) :: (L + 1, o1) :: rest)) (hr : Off L rest)
    (d3 : o3.data = .cell (some (.ref sa))) (d6 : o6.data = .cell (some (.ref oa))) (d7 : o7.data = .cell v7)
    (hsa : (sa, listOf (rs.map Value.ref).toArray nsa) ∈ rest) (hS : PairsAre rest rs ((List.range 6).map S))
    (hoa : (oa, listOf #[.ref (os 0), .ref (os 1), .ref (os 2), .ref (os 3), .ref (os 4), .ref (os 5)] no) ∈ rest) (hos : ∀ k, k < 6 → OwnAt rest D (os k) k) (hDl : D.length ≤ 100)
    (hpa : (pa, listOf pv.toArray np) ∈ rest) (hip : IntsAre pv ps) (hps : ps.length = 5)
    (hra : (ra, listOf rv.toArray nr) ∈ rest) (hir : IntsAre rv (rl.map fun (k : Nat) => (k : Int))) (hrl : rl.length = 6) (hrl6 : ∀ k ∈ rl, k < 6)
    (hlaw : ∀ z c, 1 ≤ z → z ≤ 5 → 1 ≤ c → c ≤ 6 → ((haveN rl D z c : Nat) : Int) = mostOf ((rl.take c).map S) z)
    (hm : ∀ p ∈ [(("asked" : Str), Value.ref ad), (("plain" : Str), Value.ref pa), (("ranked" : Str), Value.ref ra)], m p.1 = some p.2) (hroom : dp + 20 < recursionLimit)
    (ret : ∀ h' tk' m' o7', Fr h₀ L h' m' → News h₀ L h' ((L + 1 + 1 + 1 + 1 + 1 + 1 + 1 + 1 + 1, o9) :: (L + 1 + 1 + 1 + 1 + 1 + 1 + 1 + 1, o8) :: (L + 1 + 1 + 1 + 1 + 1 + 1 + 1, o7') :: (L + 1 + 1 + 1 + 1 + 1 + 1, o6) :: (L + 1 + 1 + 1 + 1 + 1, o5) :: (L + 1 + 1 + 1 + 1, o4) :: (L + 1 + 1 + 1, o3) :: (L + 1 + 1, o2) :: (L + 1, o1) :: rest) → (∀ p ∈ [(("asked" : Str), Value.ref ad), (("plain" : Str), Value.ref pa)], m' p.1 = some p.2) → Q .next { s with heap := h', toks := tk' })
    (hE : PassesOwn (model prog w) (ktrTop dp un gd cn cs L a ccd (cellsFrom (L + 1) cs.names []) outer) (envX cn cs L a ccd (cellsFrom (L + 1) cs.names [])) E) :
    wpAny (model prog w) (ktrTop dp un gd cn cs L a ccd (cellsFrom (L + 1) cs.names []) outer) (exec st (envX cn cs L a ccd (cellsFrom (L + 1) cs.names []))) Q E s := by
  obtain ⟨u0, F1⟩ := fr_know [(("asked" : Str), Value.ref ad), (("plain" : Str), Value.ref pa), (("ranked" : Str), Value.ref ra)] F hm
  clear F
  conv at hcs => lhs; whnf
  conv at hst => lhs; whnf
  cases hst
  subst hcs
  have hrsl : rs.length = 6 := by rw [hS.length]; rfl
  refine wpAny_For ?_
  w_strict k_steps
  unfold Halt
  refine len_list (News.isList N (.tail _ (.tail _ (.tail _ (.tail _ (.tail _ (.tail _ (.tail _ (.tail _ (.tail _ (hpa))))))))))) (by rw [List.size_toArray, hip.length]; omega) ?_
  have e5 : ((pv.toArray.size : Nat) : Int) = 5 := by rw [List.size_toArray, hip.length, hps]; rfl
  rw [e5]
  k_steps
  unfold Halt
  rename Fr _ _ _ _ => F2
  rename News _ _ _ _ => N2
  refine range2_rows F2 N2 ?_
  clear F2 N2
  intro h2 tk2 r2 t2 u2 v2 hr2 F2 N2
  refine kw_range (σ := Obj) (n := 5) (by rfl) hr2 (by decide) (by decide)
    (fun c => (L + 1 + 1 + 1 + 1 + 1 + 1 + 1 + 1 + 1, o9) :: (L + 1 + 1 + 1 + 1 + 1 + 1 + 1 + 1, o8) :: (L + 1 + 1 + 1 + 1 + 1 + 1 + 1, c) :: (L + 1 + 1 + 1 + 1 + 1 + 1, o6) :: (L + 1 + 1 + 1 + 1 + 1, o5) :: (L + 1 + 1 + 1 + 1, o4) :: (L + 1 + 1 + 1, o3) :: (L + 1 + 1, o2) :: (L + 1, o1) :: rest) (fun c => [(("asked" : Str), Value.ref ad), (("plain" : Str), Value.ref pa), (("ranked" : Str), Value.ref ra)])
    (fun i c => ∃ v, c.data = .cell v) o7 F2 N2 (fun _ h => h) ?ka ⟨_, d7⟩ ?kt ?kd hE
  case ka => kst_all
  case kd =>
    clear F2 N2
    rintro c u h tk _ F3 N3
    exact ret _ _ _ c F3 N3 (by kst_all)
  clear F2 N2
  rintro i oS tv u I oI h tk3 hi5 ⟨vS, hS7⟩ hoff F3 N3
  (generalize hLP1 : LPost _ _ _ _ _ _ _ = LQ1); revert LQ1; refine Halt.out ?_; intro LQ1 hLP1
  try dsimp only at hoff F3 N3
  have iI : @Ne Nat (L + 1 + 1 + 1 + 1 + 1 + 1 + 1) I := hoff (L + 1 + 1 + 1 + 1 + 1 + 1 + 1, oS) (.tail _ (.tail _ (.head _)))
  try dsimp only
  k_steps
  rename_i oS2 F4 N4 dS2
  unfold Halt
  refine wpAny_For ?_
  k_steps
  unfold Halt
  refine range2_rows F4 N4 ?_
  clear F4 N4
  intro h4 tk4 r4 t4 u4 v4 hr4 F4 N4
  have e1i : (1 : Int) + (i : Int) * 1 = ((i + 1 : Nat) : Int) := by omega
  rw [e1i] at dS2
  refine kw_range (σ := Unit) (n := 6) (by rfl) hr4 (by decide) (by decide)
    (fun _ => (I, oI) :: (L + 1 + 1 + 1 + 1 + 1 + 1 + 1 + 1 + 1, o9) :: (L + 1 + 1 + 1 + 1 + 1 + 1 + 1 + 1, o8) :: (L + 1 + 1 + 1 + 1 + 1 + 1 + 1, oS2) :: (L + 1 + 1 + 1 + 1 + 1 + 1, o6) :: (L + 1 + 1 + 1 + 1 + 1, o5) :: (L + 1 + 1 + 1 + 1, o4) :: (L + 1 + 1 + 1, o3) :: (L + 1 + 1, o2) :: (L + 1, o1) :: rest) (fun c => [(("asked" : Str), Value.ref ad), (("plain" : Str), Value.ref pa), (("ranked" : Str), Value.ref ra)])
    (fun _ _ => True) () F4 N4 (fun _ h => h) ?ja trivial ?jt ?jd ?je
  case ja => kst_all
  case je => passes_own
  case jd =>
    clear F4 N4
    intro _ u5 h5 tk5 _ F5 N5
    try dsimp only
    k_steps
    rw [← hLP1]
    refine lend oS2 (by assumption) (by assumption) (fun _ h => h) (by kst_all) ⟨⟨_, dS2⟩, ?jd2⟩
    case jd2 =>
      iterate 2 (refine List.forall_mem_cons.mpr ⟨hoff (_, _) (by (first | ((repeat (first | (with_reducible exact List.Mem.head _) | refine List.Mem.tail _ ?_)); done) | ((repeat (first | (exact List.Mem.head _) | refine List.Mem.tail _ ?_)); done))), ?_⟩)
      refine List.forall_mem_cons.mpr ⟨iI, ?_⟩
      iterate 6 (refine List.forall_mem_cons.mpr ⟨hoff (_, _) (by (first | ((repeat (first | (with_reducible exact List.Mem.head _) | refine List.Mem.tail _ ?_)); done) | ((repeat (first | (exact List.Mem.head _) | refine List.Mem.tail _ ?_)); done))), ?_⟩)
      intro p hp
      exact hoff p (by repeat (first | exact hp | refine List.Mem.tail _ ?_))
  clear F4 N4
  rintro j _ tv2 u5 I2 oI2 h5 tk5 hj6 _ hoff2 F5 N5
  (generalize hLP2 : LPost _ _ _ _ _ _ _ = LQ2); revert LQ2; refine Halt.out ?_; intro LQ2 hLP2
  try dsimp only
  k_steps
  unfold Halt
  rename Fr _ _ _ _ => F6
  rename News _ _ _ _ => N6
  have e1j : (1 : Int) + (j : Int) * 1 = ((j + 1 : Nat) : Int) := by omega
  refine comp_start2_used (cl := ?cl) ?hsw ?hclos rfl (by decide) (fun _ => rfl) ?_
  case hsw => with_unfolding_all rfl
  case hclos => with_unfolding_all rfl
  have hrvl : rv.length = 6 := by rw [hir.length, List.length_map, hrl]
  have hsl : IntsAre (slicePick rv.toArray none (some ((1 : Int) + (j : Int) * 1)) none).toList ((rl.take (j + 1)).map fun (k : Nat) => (k : Int)) := by
    have q := kmk_upto hir (y := (1 : Int) + (j : Int) * 1) (by omega)
    have e : ((1 : Int) + (j : Int) * 1).toNat = j + 1 := by omega
    rw [e, ← List.map_take] at q
    exact q
  k_steps
  unfold Halt
  refine slice_ints_tmp F6 N6 (News.isList N6 (.tail _ (.tail _ (.tail _ (.tail _ (.tail _ (.tail _ (.tail _ (.tail _ (.tail _ (.tail _ (.tail _ (hra))))))))))))) .none (.int _ _) hsl ?_ (by with_unfolding_all rfl) (by rw [List.size_toArray, sizeLine_eq]; omega)
  clear F6
  intro Dk ws h7 F7 N7 hDk hiw
  clear N6
  have hwl : ws.length = j + 1 := by rw [hiw.length, List.length_map, List.length_take]; omega
  have hws : ∀ q, q < ws.length → ∃ k t, rl[q]? = some k ∧ k < 6 ∧ (rl.take (j + 1))[q]? = some k ∧ ws[q]? = some (.int (k : Nat) t) := fun q hq => by
    have hq2 : q < rl.length := by omega
    have hk : (rl.take (j + 1))[q]? = some rl[q] := by rw [List.getElem?_take_of_lt (by omega), List.getElem?_eq_getElem hq2]
    obtain ⟨t, ht⟩ := hiw.get q (rl[q] : Nat) (by rw [List.getElem?_map, hk]; rfl)
    exact ⟨rl[q], t, List.getElem?_eq_getElem hq2, hrl6 _ (List.getElem_mem hq2), hk, ht⟩
  have howl : ∀ k, (ownOf D k).length ≤ 100 := fun k => by
    unfold ownOf
    rw [List.length_map]
    exact Nat.le_trans (List.length_filter_le _ _) hDl
  k_steps
  refine comp_list2_used (σ := Unit) (items := ws) (nl := 0) (by rfl) (by rw [sizeLine_eq]; omega) (by decide) rfl (fun _ _ => rfl) (fun _ => (Dk, listOf ws.toArray 0) :: (I2, oI2) :: (I, oI) :: (L + 1 + 1 + 1 + 1 + 1 + 1 + 1 + 1 + 1, o9) :: (L + 1 + 1 + 1 + 1 + 1 + 1 + 1 + 1, o8) :: (L + 1 + 1 + 1 + 1 + 1 + 1 + 1, oS2) :: (L + 1 + 1 + 1 + 1 + 1 + 1, o6) :: (L + 1 + 1 + 1 + 1 + 1, o5) :: (L + 1 + 1 + 1 + 1, o4) :: (L + 1 + 1 + 1, o3) :: (L + 1 + 1, o2) :: (L + 1, o1) :: rest)
    (fun q _ ys => ys.length = haveN (rl.take (j + 1)) D (i + 1) q) () F7 N7 (fun _ h => h) rfl (fun _ => .head _) ?turn ?done
  case done =>
    clear F7 N7
    intro _ ys D1 C1 oC1 h8 tk8 nD1 hys F7 N7 hDC1 hnD1 ho1
    rw [hwl] at hys
    try dsimp only
    k_steps
    refine uend ((D1, listOf ys.toArray nD1) :: (Dk, listOf ws.toArray 0) :: (I2, oI2) :: (I, oI) :: (L + 1 + 1 + 1 + 1 + 1 + 1 + 1 + 1 + 1, o9) :: (L + 1 + 1 + 1 + 1 + 1 + 1 + 1 + 1, o8) :: (L + 1 + 1 + 1 + 1 + 1 + 1 + 1, oS2) :: (L + 1 + 1 + 1 + 1 + 1 + 1, o6) :: (L + 1 + 1 + 1 + 1 + 1, o5) :: (L + 1 + 1 + 1 + 1, o4) :: (L + 1 + 1 + 1, o3) :: (L + 1 + 1, o2) :: (L + 1, o1) :: rest) (by assumption) (by assumption) (fun _ h => h) ?qb1 ?qb2
    case qb1 =>
      intro p hp
      rcases List.mem_cons.mp hp with rfl | hp
      · exact Nat.ne_of_lt hDC1
      · exact (ho1 p hp).2
    intro h9 F8 N8
    try dsimp only
    k_steps
    unfold Halt
    have hys5 : ys.length ≤ 1000 := by
      rw [hys]
      exact Nat.le_trans (haveN_le howl (rl.take (j + 1)) (i + 1) (j + 1)) (by omega)
    refine len_list (News.isList N8 (.head _)) (by rw [List.size_toArray]; omega) ?_
    have hys6 : ((ys.toArray.size : Nat) : Int) = mostOf ((rl.take (j + 1)).map S) (i + 1) := by
      rw [← hlaw (i + 1) (j + 1) (by omega) (by omega) (by omega) (by omega), List.size_toArray, hys]
      unfold haveN
      rw [List.take_take, Nat.min_self]
    rw [hys6]
    k_steps
    unfold Halt
    refine comp_start (cl := ?cl2) ?hclos2 rfl (by decide) (fun _ => rfl) ?_
    case hclos2 => with_unfolding_all rfl
    k_steps
    unfold Halt
    refine slice_ints_tmp F8 N8 (News.isList N8 (.tail _ (.tail _ (.tail _ (.tail _ (.tail _ (.tail _ (.tail _ (.tail _ (.tail _ (.tail _ (.tail _ (.tail _ (.tail _ (hra))))))))))))))) .none (.int _ _) hsl ?_ (by with_unfolding_all rfl) (by rw [List.size_toArray, sizeLine_eq]; omega)
    clear F8
    intro Dm ws2 h10 F9 N9 hDm hiw2
    clear N8
    have hwl2 : ws2.length = j + 1 := by rw [hiw2.length, List.length_map, List.length_take]; omega
    have hws2 : ∀ q, q < ws2.length → ∃ k t, k < 6 ∧ (rl.take (j + 1))[q]? = some k ∧ ws2[q]? = some (.int (k : Nat) t) := fun q hq => by
      have hq2 : q < rl.length := by omega
      have hk : (rl.take (j + 1))[q]? = some rl[q] := by rw [List.getElem?_take_of_lt (by omega), List.getElem?_eq_getElem hq2]
      obtain ⟨t, ht⟩ := hiw2.get q (rl[q] : Nat) (by rw [List.getElem?_map, hk]; rfl)
      exact ⟨rl[q], t, hrl6 _ (List.getElem_mem hq2), hk, ht⟩
    refine comp_list (σ := Unit) (items := ws2) (nl := 0) (by rfl) (by rw [sizeLine_eq]; omega) (by decide) rfl (fun _ => (Dm, listOf ws2.toArray 0) :: (D1, listOf ys.toArray nD1) :: (Dk, listOf ws.toArray 0) :: (I2, oI2) :: (I, oI) :: (L + 1 + 1 + 1 + 1 + 1 + 1 + 1 + 1 + 1, o9) :: (L + 1 + 1 + 1 + 1 + 1 + 1 + 1 + 1, o8) :: (L + 1 + 1 + 1 + 1 + 1 + 1 + 1, oS2) :: (L + 1 + 1 + 1 + 1 + 1 + 1, o6) :: (L + 1 + 1 + 1 + 1 + 1, o5) :: (L + 1 + 1 + 1 + 1, o4) :: (L + 1 + 1 + 1, o3) :: (L + 1 + 1, o2) :: (L + 1, o1) :: rest)
      (fun q _ zs => zs = (((rl.take (j + 1)).take q).map fun k => rs.getD k 0).map Value.ref) () F9 N9 (fun _ h => h) rfl (fun _ => .head _) ?turn2 ?done2
    case turn2 =>
      clear F9 N9
      rintro g C Dz I3 oI3 hg hID hDC hnI q v _ zs u7 h8 tk8 nk hq hzs ho F7 N7
      have Xg := X.keeps hg
      have Tg := T.keeps hg
      have hqlt : q < ws2.length := by
        rcases Nat.lt_or_ge q ws2.length with h' | h'
        · exact h'
        · rw [List.getElem?_eq_none h'] at hq; cases hq
      obtain ⟨k, tkk, hk6, hk2, hk3⟩ := hws2 q hqlt
      rw [hk3] at hq
      cases hq
      try dsimp only
      k_steps
      unfold Halt
      rename Fr _ _ _ _ => F8
      rename News _ _ _ _ => N8
      have hx : (rs.map Value.ref).toArray[(k : Int).toNat]? = some (.ref (rs.getD k 0)) := by
        rw [Int.toNat_natCast, List.getElem?_toArray, List.getElem?_map, List.getD_eq_getElem?_getD, List.getElem?_eq_getElem (by omega)]; rfl
      refine item_listR (News.isList N8 (.tail _ (.tail _ (.tail _ (.tail _ (.tail _ (.tail _ (.tail _ (.tail _ (.tail _ (.tail _ (.tail _ (.tail _ (.tail _ (.tail _ (.tail _ (.tail _ (hsa)))))))))))))))))) (by omega) (by omega) hx ?_
      refine ce () F8 N8 (fun _ h => h) ?_ ho
      have e := List.take_add_one (l := rl.take (j + 1)) (i := q)
      rw [hk2] at e
      rw [hzs, e]
      simp
    clear F9 N9
    intro _ zs Dz h11 tk11 nz hzs F9 N9 hDz ho2
    rw [hwl2, List.take_take, Nat.min_self] at hzs
    subst hzs
    try dsimp only
    k_steps
    unfold Halt
    rename Fr _ _ _ _ => F10
    rename News _ _ _ _ => N10
    have hpp : PairsAre rest ((rl.take (j + 1)).map fun k => rs.getD k 0) ((rl.take (j + 1)).map S) := pairs_pick hS hrsl _ fun k hk => hrl6 k (List.mem_of_mem_take hk)
    refine most_spec B F10 X N10 T rfl (.head _) (hpp.mono fun p hp => .tail _ (.tail _ (.tail _ (.tail _ (.tail _ (.tail _ (.tail _ (.tail _ (.tail _ (.tail _ (.tail _ (.tail _ (.tail _ (.tail _ (.tail _ (hp)))))))))))))))) (by rw [List.length_map, List.length_take]; omega) (by omega) (by omega) ?_
    clear F10 N10
    intro t12 h12 tk12 F10 N10
    k_steps
    · exact absurd rfl (by assumption)
    · rw [← hLP2]; refine lend () F10 N10 (fun p hp => .tail _ (.tail _ (.tail _ (.tail _ hp)))) (by kst_all) ⟨trivial, hoff2⟩
  clear F7 N7
  rintro g C D1 I3 oI3 hg hID hDC hnI q v _ ys u7 h8 tk8 nk hq hys ho F7 N7
  have Xg := X.keeps hg
  have Tg := T.keeps hg
  have hqlt : q < ws.length := by
    rcases Nat.lt_or_ge q ws.length with h' | h'
    · exact h'
    · rw [List.getElem?_eq_none h'] at hq; cases hq
  obtain ⟨k, tkk, hk1, hk6, hk2, hk3⟩ := hws q hqlt
  rw [hk3] at hq
  cases hq
  obtain ⟨ov, on, how, hio⟩ := hos k hk6
  try dsimp only
  k_steps
  unfold Halt
  rename Fr _ _ _ _ => F8
  rename News _ _ _ _ => N8
  have hI39 : @LT.lt Nat _ (L + 9) I3 := ltN (hnI _ (.tail _ (.tail _ (.tail _ (.head _)))))
  have hID9 := ltN hID
  refine item_listR (News.isList N8 (.tail _ (.tail _ (.tail _ (.tail _ (.tail _ (.tail _ (.tail _ (.tail _ (.tail _ (.tail _ (.tail _ (.tail _ (.tail _ (.tail _ (hoa)))))))))))))))) (by omega) (by omega) (js_at os k hk6) ?_
  have hsucc := haveN_succ (D := D) (z := i + 1) hk2
  have hys9 : ys.length ≤ 1000 := by
    rw [hys]
    exact Nat.le_trans (haveN_le howl (rl.take (j + 1)) (i + 1) q) (by omega)
  refine comp_inner (items := ov) (nl := on) (by rfl) F8 N8 (.tail _ (.tail _ (.tail _ (.tail _ (.tail _ (.tail _ (.tail _ (.tail _ (.tail _ (.tail _ (.tail _ (.tail _ (.tail _ (how)))))))))))))) (List.forall_mem_cons.mpr ⟨Nat.ne_of_lt hID, fun p hp => (ho p hp).1⟩) (by rw [hio.length]; have := howl k; omega)
    (fun q2 ys2 => ys2.length = haveN (rl.take (j + 1)) D (i + 1) q + (((ownOf D k).take q2).filter fun x => decide (x < ((i + 1 : Nat) : Int))).length) (by simpa using hys) ?turn3 ?done3
  case done3 =>
    clear F8 N8
    intro ys2 u9 h9 tk9 nk2 hys2 F9 N9
    rw [hio.length, List.take_length, ← hsucc] at hys2
    exact ⟨rfl, (), ys2, nk2, h9, tk9, _, rfl, F9, N9, hys2, ho⟩
  clear F8 N8
  intro q2 v2' ys2 u9 I4 oI4 h9 tk9 nk2 hq2 hys2 F9 N9 hI4
  have hq2lt : q2 < ov.length := by
    rcases Nat.lt_or_ge q2 ov.length with h' | h'
    · exact h'
    · rw [List.getElem?_eq_none h'] at hq2; cases hq2
  obtain ⟨x, hx⟩ : ∃ x, (ownOf D k)[q2]? = some x := ⟨_, List.getElem?_eq_getElem (by rw [← hio.length]; exact hq2lt)⟩
  obtain ⟨tx, hvx⟩ := hio.get q2 x hx
  rw [hvx] at hq2
  cases hq2
  have htk2 : (ownOf D k).take (q2 + 1) = (ownOf D k).take q2 ++ [x] := by rw [List.take_add_one, hx]; rfl
  try dsimp only
  k_steps
  · rename x < _ => hlt2
    refine iend (by assumption) (by assumption) ?_
    have hd : decide (x < ((i + 1 : Nat) : Int)) = true := by rw [decide_eq_true_eq]; exact hlt2
    rw [htk2, List.filter_append, List.length_append, List.length_append, hys2]
    simp only [List.filter_cons, hd, if_true, List.filter_nil, List.length_cons, List.length_nil]
    omega
  · rename ¬ x < _ => hlt2
    refine iend (by assumption) (by assumption) ?_
    have hd : decide (x < ((i + 1 : Nat) : Int)) = false := by rw [decide_eq_false_iff_not]; exact hlt2
    rw [htk2, List.filter_append, List.length_append, hys2]
    simp only [List.filter_cons, hd, List.filter_nil, List.length_nil, Bool.false_eq_true, if_false]
    omega
end
section
theorem own_eq {H : List Int} {J : Jobs} {D : List (Nat × Nat)} {A : List (Str × Int)} {e : Nat → Nat} (R : Run H J 6 6 D A e) (k : Nat) :
    ownOf D k = if hget D (e k - 1) = some k then [((e k - 1 : Nat) : Int)] else [] := by
  have all : ∀ x ∈ D.filter (fun x => decide (x.2 = k)), x = (e k - 1, k) := fun x hx => by
    obtain ⟨h1, h2⟩ := List.mem_filter.mp hx
    rw [decide_eq_true_eq] at h2
    obtain ⟨p, j⟩ := x
    dsimp only at h2
    subst h2
    have := (R.i1 p j ((hget_iff R.nd).mpr h1)).2.2.2.1
    rw [this, Nat.add_sub_cancel]
  have nd : (D.filter (fun x => decide (x.2 = k))).Nodup := List.Pairwise.filter _ (List.Pairwise.of_map (·.1) (fun a b h => fun q => h (q ▸ rfl)) R.nd)
  have hm : hget D (e k - 1) = some k ↔ (e k - 1, k) ∈ D.filter (fun x => decide (x.2 = k)) := by
    rw [hget_iff R.nd, List.mem_filter]; simp
  unfold ownOf
  generalize D.filter (fun x => decide (x.2 = k)) = F at all nd hm
  match F, all, nd, hm with
  | [], _, _, hm => rw [if_neg (fun h => by have := hm.mp h; cases this)]; rfl
  | [x], all, _, hm =>
    have hx := all x (.head _)
    rw [if_pos (hm.mpr (by rw [hx]; exact .head _)), hx]; rfl
  | x :: y :: r, all, nd, _ =>
    have hx := all x (.head _)
    have hy := all y (.tail _ (.head _))
    have := (List.nodup_cons.mp nd).1
    rw [hx, ← hy] at this
    exact absurd (.head _) this
theorem have_count {H : List Int} {J : Jobs} {D : List (Nat × Nat)} {A : List (Str × Int)} {e : Nat → Nat} (R : Run H J 6 6 D A e) (Y : Left (fun k => nlt H (J k).1) (fun k => nle H (J k).2) e (hget D) (fun j k => before J j k = true)) (z : Nat) : ∀ P : List Nat,
    (P.flatMap fun k => (ownOf D k).filter fun x => decide (x < (z : Int))).length = P.countP (mt e (hget D) z)
  | [] => rfl
  | k :: P => by
    rw [List.flatMap_cons, List.length_append, List.countP_cons, have_count R Y z P, own_eq R k]
    by_cases h : hget D (e k - 1) = some k
    · rw [if_pos h]
      have h1 := (R.i1 _ _ h).2.2.2.1
      unfold mt
      by_cases hz : e k ≤ z
      · have hd : decide (((e k - 1 : Nat) : Int) < (z : Int)) = true := by rw [decide_eq_true_eq]; omega
        simp only [List.filter_cons, hd, if_true, List.filter_nil, List.length_cons, List.length_nil, h, hz, and_self, decide_true]
        omega
      · have hd : decide (((e k - 1 : Nat) : Int) < (z : Int)) = false := by rw [decide_eq_false_iff_not]; omega
        simp only [List.filter_cons, hd, List.filter_nil, List.length_nil, h, hz, and_false, decide_false, Bool.false_eq_true, if_false]
        omega
    · rw [if_neg h]
      unfold mt
      simp [h]
theorem law_have {H : List Int} {J : Jobs} {rl : List Nat} (hlen : H.length = 5) (hJ : ∀ k, (J k).1 ≤ (J k).2) (hR : Ranked J rl) :
    ∀ z c, 1 ≤ z → z ≤ 5 → 1 ≤ c → c ≤ 6 → ((haveN rl (comes H J 6).1 z c : Nat) : Int) = mostOf ((rl.take c).map (spanOf H J)) z := by
  intro z c _ _ _ _
  obtain ⟨e, R⟩ := run_comes hlen hJ 6 (Nat.le_refl _)
  have Y := run_left R
  have hnd : rl.Nodup := List.Pairwise.of_map (rankOf J) (fun a b h => fun q => h (q ▸ rfl)) (show (rl.map (rankOf J)).Nodup by rw [hR.1]; decide)
  have hl6 : rl.length = 6 := by have := congrArg List.length hR.1; simpa using this
  have hrk : ∀ i (h : i < rl.length), rankOf J rl[i] = i := fun i h => by
    have h1 : (rl.map (rankOf J))[i]? = some (rankOf J rl[i]) := by rw [List.getElem?_map, List.getElem?_eq_getElem h]; rfl
    rw [hR.1, show ([0, 1, 2, 3, 4, 5] : List Nat) = List.range 6 from rfl, List.getElem?_range (by omega)] at h1
    exact (Option.some.inj h1).symm
  have := most_mt (P := rl.take c) (z := z) Y (hnd.sublist (List.take_sublist _ _)) (fun k hk => hR.2 k (List.mem_of_mem_take hk)) ?_
  · unfold haveN
    rw [have_count R Y z]
    exact this.symm
  · intro k hk j hj hb
    obtain ⟨i, hi, rfl⟩ := List.getElem_of_mem hk
    rw [List.length_take] at hi
    rw [List.getElem_take] at hb
    have h1 : rankOf J j < rankOf J rl[i] := rank_lt hj hb
    rw [hrk i (by omega)] at h1
    have h2 : rl[rankOf J j] = j := rank_inj (hR.2 _ (List.getElem_mem _)) hj (hrk _ (by omega))
    rw [← h2]
    have h3 : rankOf J j < (rl.take c).length := by rw [List.length_take]; omega
    have h4 : (rl.take c)[rankOf J j] ∈ rl.take c := List.getElem_mem h3
    rw [List.getElem_take] at h4
    exact h4
theorem range_upto {a n p : Nat} (h : p + 1 ≤ a + n) : (List.range' a n).filter (fun (x : Nat) => decide ((x : Int) ≤ (p : Int))) = List.range' a (p + 1 - a) := by
  have e1 : List.range' a n = List.range' a (p + 1 - a) ++ List.range' (a + (p + 1 - a)) (n - (p + 1 - a)) := by
    have := List.range'_append_1 (s := a) (m := p + 1 - a) (n := n - (p + 1 - a))
    rw [this]; congr 1; omega
  rw [e1, List.filter_append]
  have e2 : (List.range' a (p + 1 - a)).filter (fun (x : Nat) => decide ((x : Int) ≤ (p : Int))) = List.range' a (p + 1 - a) := by
    rw [List.filter_eq_self]
    intro x hx
    rw [List.mem_range'_1] at hx
    rw [decide_eq_true_eq]; omega
  have e3 : (List.range' (a + (p + 1 - a)) (n - (p + 1 - a))).filter (fun (x : Nat) => decide ((x : Int) ≤ (p : Int))) = [] := by
    rw [List.filter_eq_nil_iff]
    intro x hx
    rw [List.mem_range'_1] at hx
    rw [decide_eq_true_eq]; omega
  rw [e2, e3, List.append_nil]
theorem law_tally {H : List Int} {J : Jobs} (hlen : H.length = 5) (hJ : ∀ k, (J k).1 ≤ (J k).2) :
    Tally (comes H J 6).2 (namesUp (spanOf H J) (ownOf (comes H J 6).1) 6) := by
  obtain ⟨e, R⟩ := run_comes hlen hJ 6 (Nat.le_refl _)
  have T := R.i6
  have e0 : namesUp (spanOf H J) (ownOf (comes H J 6).1) 6 = askedAll (fun k => nlt H (J k).1) e := by
    unfold namesUp askedAll
    rw [List.flatMap_def, List.flatMap_def]
    congr 1
    refine List.map_congr_left fun k hk => ?_
    have hk6 := List.mem_range.mp hk
    have h4 := R.i4 k hk6
    have h5 := nle_le H (J k).2
    unfold namesK askedK spanOf
    dsimp only
    congr 1
    rw [own_eq R k]
    by_cases h : hget (comes H J 6).1 (e k - 1) = some k
    · rw [if_pos h]
      obtain ⟨_, _, _, h1, h2, h3⟩ := R.i1 _ _ h
      have em : minOf [((e k - 1 : Nat) : Int)] = ((e k - 1 : Nat) : Int) := by unfold minOf; simp only [List.foldl_cons, List.foldl_nil]; omega
      rw [em, range_upto (by omega)]
      congr 1; omega
    · rw [if_neg h]
      have hb : e k = nle H (J k).2 := (R.i3 k hk6 (by omega)).resolve_left h
      rw [hb, List.filter_eq_self]
      intro x hx
      rw [List.mem_range'_1] at hx
      rw [decide_eq_true_eq]
      unfold minOf
      simp only [List.foldl_nil]
      omega
  rw [e0]; exact T
end
section
/-- no cell -/
def ncell (p : Addr × Obj) : Bool := match p.2.data with | .cell _ => false | _ => true
theorem off_ncell {h₀ h : Heap} {L : Addr} {led : List (Addr × Obj)} (N : News h₀ L h led) (hc : ∀ i : Nat, 1 ≤ i → i ≤ 9 → ∃ o v, (L + i, o) ∈ led ∧ o.data = .cell v) : Off L (led.filter ncell) := by
  intro p hp
  obtain ⟨hp1, hp2⟩ := List.mem_filter.mp hp
  rcases Nat.lt_or_ge p.1 L with h | h
  · exact .inl h
  rcases Nat.lt_or_ge (L + 9) p.1 with h' | h'
  · exact .inr h'
  exfalso
  have hne : @Ne Nat p.1 L := (N p hp1).2.1
  obtain ⟨i, hi⟩ : ∃ i : Nat, p.1 = L + i := ⟨p.1 - L, (Nat.add_sub_cancel' h).symm⟩
  have hi1 : i ≠ 0 := fun e => hne (by rw [hi, e]; rfl)
  have hi9 : i ≤ 9 := by rw [hi] at h'; exact Nat.le_of_add_le_add_left h'
  obtain ⟨o, v, hm, hd⟩ := hc i (by omega) hi9
  have h1 := (N p hp1).1
  have h2 := (N _ hm).1
  dsimp only at h2
  rw [← hi, h1] at h2
  injection h2 with h2
  unfold ncell at hp2
  rw [h2, hd] at hp2
  cases hp2
theorem HdrAre.sub {news news' rs D} (h : HdrAre news rs D) (hs : ∀ r vs, (r, ({ cls := .type "tuple", data := .seq vs } : Obj)) ∈ news → vs.size = 2 → (r, ({ cls := .type "tuple", data := .seq vs } : Obj)) ∈ news') : HdrAre news' rs D := by
  induction h with
  | nil => exact .nil
  | cons h1 _ ih => exact .cons (hs _ _ h1 rfl) ih
theorem PairsAre.sub {news news' rs S} (h : PairsAre news rs S) (hs : ∀ r u1 u2 u3 u4, (r, tupOf #[.int u1 u2, .int u3 u4]) ∈ news → (r, tupOf #[.int u1 u2, .int u3 u4]) ∈ news') : PairsAre news' rs S := by
  induction h with
  | nil => exact .nil
  | cons h1 _ ih => exact .cons (hs _ _ _ _ _ h1) ih
theorem ncell_dict {prog : Program} {w : World} {kvs : List (Str × Value)} {a : Addr} {o : Obj} (h : o.IsDictOf (PySem.strKind prog w) kvs) : ncell (a, o) = true := by
  obtain ⟨es, ep, h1, h2, _⟩ := h
  unfold ncell
  rw [h2]
theorem ntab_dict {prog : Program} {w : World} {kvs : List (Str × Value)} {o : Obj} (h : o.IsDictOf (PySem.strKind prog w) kvs) : o ≠ tabObj #[] := by
  obtain ⟨es, ep, h1, h2, _⟩ := h
  intro e
  rw [e] at h2
  cases h2
theorem sorted_eq {l m : List Int} (hl : l.Pairwise (· ≤ ·)) (hm : m.Pairwise (· ≤ ·)) (h : l.Perm m) : l = m :=
  List.Perm.eq_of_pairwise (le := (· ≤ ·)) (fun a b _ _ h1 h2 => Int.le_antisymm h1 h2) hl hm h
theorem jobs_le (ds : List Int) (k : Nat) : (jobsOf ds k).1 ≤ (jobsOf ds k).2 := by unfold jobsOf; dsimp only; omega
theorem law_parts : ∃ b0 b1 b2 b3 b4 b5 b6 b7 b8 b9 b10 b11 b12 b13 b14 b15, lawParts.1 = [b0, b1, b2, b3, b4, b5, b6, b7, b8, b9, b10, b11, b12, b13, b14, b15] := by
  have h := lawB_length
  generalize lawParts.1 = l at h ⊢
  obtain ⟨b0, l0, e0, h0⟩ := len_succ h
  obtain ⟨b1, l1, e1, h1⟩ := len_succ h0
  obtain ⟨b2, l2, e2, h2⟩ := len_succ h1
  obtain ⟨b3, l3, e3, h3⟩ := len_succ h2
  obtain ⟨b4, l4, e4, h4⟩ := len_succ h3
  obtain ⟨b5, l5, e5, h5⟩ := len_succ h4
  obtain ⟨b6, l6, e6, h6⟩ := len_succ h5
  obtain ⟨b7, l7, e7, h7⟩ := len_succ h6
  obtain ⟨b8, l8, e8, h8⟩ := len_succ h7
  obtain ⟨b9, l9, e9, h9⟩ := len_succ h8
  obtain ⟨b10, l10, e10, h10⟩ := len_succ h9
  obtain ⟨b11, l11, e11, h11⟩ := len_succ h10
  obtain ⟨b12, l12, e12, h12⟩ := len_succ h11
  obtain ⟨b13, l13, e13, h13⟩ := len_succ h12
  obtain ⟨b14, l14, e14, h14⟩ := len_succ h13
  obtain ⟨b15, l15, e15, h15⟩ := len_succ h14
  have e16 := List.eq_nil_of_length_eq_zero h15
  rw [e0, e1, e2, e3, e4, e5, e6, e7, e8, e9, e10, e11, e12, e13, e14, e15, e16]
  exact ⟨_, _, _, _, _, _, _, _, _, _, _, _, _, _, _, _, rfl⟩
set_option maxRecDepth 100000 in
set_option maxHeartbeats 8000000 in
set_option pp.maxSteps 4000 in
theorem law_spec {prog : Program} {w : World} {p : Program} {loose : List Str} {mean : ExcName → Option Value} {mg mb : Str → Option Value}
    {dp un : Nat} {gd : Option (List Code)} {cn : Str} {cs : Scope} {bs : List Stmt} {a : Addr} {ccd : Value} {outer : List Env} {A₀ : Around} {base h₀ : Heap} {L : Addr} {m : Str → Option Value} {s : Shared} {Q : Flow → Shared → Prop} {E : Value → Shared → Prop}
    {o9 o8 o7 o6 o5 o4 o3 o2 o1 : Obj} {c9 c8 c7 c6 c5 c4 c3 c2 c1 : Option Value} {sl : Addr} {vs : List Value} {ns : List Int}
    (hcs : lawS = cs) (B : Below A₀ base outer h₀) (F : Fr h₀ L s.heap m) (X : (hd.heap_39 w.params).In h₀) (T : Top p loose mean mg mb h₀) (hbs : lawParts.1 = bs) (N : News h₀ L s.heap ((L + 1 + 1 + 1 + 1 + 1 + 1 + 1 + 1 + 1, o9) :: (L + 1 + 1 + 1 + 1 + 1 + 1 + 1 + 1, o8) :: (L + 1 + 1 + 1 + 1 + 1 + 1 + 1, o7) :: (L + 1 + 1 + 1 + 1 + 1 + 1, o6) :: (L + 1 + 1 + 1 + 1 + 1, o5) :: (L + 1 + 1 + 1 + 1, o4) :: (L + 1 + 1 + 1, o3) :: (L + 1 + 1, o2) :: (L + 1, o1) :: (258, tabObj #[]) :: [])) (hT : CodeHd h₀ 260 258) (h258L : @LT.lt Nat _ 258 L) (hccd : ccd = .ref 260)
    (d9 : o9.data = .cell c9) (d8 : o8.data = .cell c8) (d7 : o7.data = .cell c7) (d6 : o6.data = .cell c6) (d5 : o5.data = .cell c5) (d4 : o4.data = .cell c4) (d3 : o3.data = .cell c3) (d2 : o2.data = .cell c2) (d1 : o1.data = .cell c1)
    (hm : ∀ p ∈ [(("script" : Str), Value.ref sl)], m p.1 = some p.2) (hl : h₀.IsList sl vs.toArray) (hi : IntsAre vs ns) (hlen : ns.length ≤ 63) (hroom : dp + 60 < recursionLimit) (hun : un < cLine)
    (ret : ∀ h' tk' m' pT, Fr h₀ L h' m' → h'.get? 258 = some (tabObj pT) → Q (.ret (.bool true)) { s with heap := h', toks := tk' })
    (hE : PassesOwn (model prog w) (ktrTop dp un gd cn cs L a ccd (cellsFrom (L + 1) cs.names []) outer) (envX cn cs L a ccd (cellsFrom (L + 1) cs.names [])) E) :
    wpAny (model prog w) (ktrTop dp un gd cn cs L a ccd (cellsFrom (L + 1) cs.names []) outer) (execs bs (envX cn cs L a ccd (cellsFrom (L + 1) cs.names []))) Q E s := by
  obtain ⟨b0, b1, b2, b3, b4, b5, b6, b7, b8, b9, b10, b11, b12, b13, b14, b15, hb⟩ := law_parts
  have hB : ∀ k, lawB k = [b0, b1, b2, b3, b4, b5, b6, b7, b8, b9, b10, b11, b12, b13, b14, b15][k]? := fun k => by unfold lawB; rw [hb]
  rw [hb] at hbs
  subst hbs
  clear hb
  have hr0 : Off L [((258 : Addr), tabObj #[])] := fun p hp => by
    rw [List.mem_singleton.mp hp]; exact .inl h258L
  refine wpAny_execs_cons (blk0 (o1 := o1) (o2 := o2) (o3 := o3) (o4 := o4) (o5 := o5) (o6 := o6) (o7 := o7) (o8 := o8) (o9 := o9) hcs (hB 0) B F X T N hr0 d1 hm hl hi hlen ?_)
  clear F N
  intro h tk m o1 D us F N d1 hD9 hus
  have hr1 := hr0.cons (o := listOf us.toArray 0) hD9
  dsimp only
  refine wpAny_execs_cons (blk1 (o1 := o1) (o2 := o2) (o3 := o3) (o4 := o4) (o5 := o5) (o6 := o6) (o7 := o7) (o8 := o8) (o9 := o9) (hc := []) hcs B F X T (hB 1) N ?_)
  clear F
  clear N
  intro h tk m ha F N hha hm
  have hha9 : @LT.lt Nat _ (L + 9) ha := hha (L + 1 + 1 + 1 + 1 + 1 + 1 + 1 + 1 + 1, o9) (.head _)
  dsimp only
  refine wpAny_execs_cons (blk2 (o1 := o1) (o2 := o2) (o3 := o3) (o4 := o4) (o5 := o5) (o6 := o6) (o7 := o7) (o8 := o8) (o9 := o9) hcs B F X T (hB 2) N hr1 hha d1 (.head _) hus (drawnOf_length ns) hm (by omega) ?_ hE)
  clear F N
  intro h tk m hv H n F N hH hsort hperm hm
  have hr2 := hr1.cons (o := listOf hv.toArray n) hha9
  dsimp only
  refine wpAny_execs_cons (blk3 (o1 := o1) (o2 := o2) (o3 := o3) (o4 := o4) (o5 := o5) (o6 := o6) (o7 := o7) (o8 := o8) (o9 := o9) hcs B F X T (hB 3) (cb_drop N ?s3) hr2 d1 d9 (.tail _ (.head _)) hus (drawnOf_length ns) hm (by omega) ?_)
  case s3 => ((try dsimp only); (repeat (refine List.forall_mem_cons.mpr ⟨(by first | ((repeat (first | (with_reducible exact List.Mem.head _) | refine List.Mem.tail _ ?_)); done) | ((repeat (first | (exact List.Mem.head _) | refine List.Mem.tail _ ?_)); done)), ?_⟩)); (intro p hp; first | (cases hp; done) | (repeat (first | exact hp | refine List.Mem.tail _ ?_))))
  clear F N
  intro h tk m o9 jl js nj rest3 F N d9 hsub3 hr3 hjl9 hjs hm
  have hr4 := hr3.cons (o := listOf #[.ref (js 0), .ref (js 1), .ref (js 2), .ref (js 3), .ref (js 4), .ref (js 5)] nj) hjl9
  dsimp only
  refine wpAny_execs_cons (blk4 (o1 := o1) (o2 := o2) (o3 := o3) (o4 := o4) (o5 := o5) (o6 := o6) (o7 := o7) (o8 := o8) (o9 := o9) hcs B F X T (hB 4) N hr4 d2 hm (by omega) ?_)
  clear F N
  intro h tk m o2 di dx hl' tkk nd F N d2 hlt4 hhl9 hdxhl hdihl hdx9 hdi9 hm
  dsimp only
  refine wpAny_execs_cons (blk5 (o1 := o1) (o2 := o2) (o3 := o3) (o4 := o4) (o5 := o5) (o6 := o6) (o7 := o7) (o8 := o8) (o9 := o9) hcs B F X T (hB 5) N hm ?_)
  clear F N
  intro h tk m ad od F N hlt5 hod hlo hm
  have had5 : hl' < ad := hlt5 _ (.head _)
  dsimp only
  refine wpAny_execs_cons (blk6 (o1 := o1) (o2 := o2) (o3 := o3) (o4 := o4) (o5 := o5) (o6 := o6) (o7 := o7) (o8 := o8) (o9 := o9) (hl := hl') (di := di) (dx := dx) (jl := jl) (ad := ad) (ha := ha) (js := js) (J := jobsOf (drawnOf ns)) (H := H) (rest := (ad, od) :: (di, instObj 240 dx) :: (dx, hdD w tkk hl' nd) :: (L + 1 + 1 + 1 + 1 + 1 + 1 + 1 + 1 + 1, o9) :: (L + 1 + 1 + 1 + 1 + 1 + 1 + 1 + 1, o8) :: (L + 1 + 1 + 1 + 1 + 1 + 1 + 1, o7) :: (L + 1 + 1 + 1 + 1 + 1 + 1, o6) :: (L + 1 + 1 + 1 + 1 + 1, o5) :: (L + 1 + 1 + 1 + 1, o4) :: (L + 1 + 1 + 1, o3) :: (L + 1 + 1, o2) :: (L + 1, o1) :: (jl, listOf #[.ref (js 0), .ref (js 1), .ref (js 2), .ref (js 3), .ref (js 4), .ref (js 5)] nj) :: rest3)
    hcs B F X T (hB 6) (cb_drop N ?s6) ?r6 d2 d9 (.tail _ (.tail _ (.tail _ (by k_mem)))) (.tail _ (.tail _ (.tail _ (by k_mem)))) (.tail _ (.head _)) (.tail _ (.tail _ (.head _))) (.tail _ (.tail _ (.tail _ (.tail _ (.tail _ (.tail _ (.tail _ (.tail _ (.tail _ (.tail _ (.tail _ (.tail _ (.tail _ (hsub3 _ (.head _))))))))))))))) hH hsort ?l6
    (.tail _ (.tail _ (.tail _ (.tail _ (.tail _ (.tail _ (.tail _ (.tail _ (.tail _ (.tail _ (.tail _ (.tail _ (.head _))))))))))))) ?j6 (.head _) hod hlo hm (by omega) ?_ hE)
  case s6 => ((try dsimp only); (repeat (refine List.forall_mem_cons.mpr ⟨(by first | ((repeat (first | (with_reducible exact List.Mem.head _) | refine List.Mem.tail _ ?_)); done) | ((repeat (first | (exact List.Mem.head _) | refine List.Mem.tail _ ?_)); done)), ?_⟩)); (intro p hp; first | (cases hp; done) | (repeat (first | exact hp | refine List.Mem.tail _ ?_))))
  case r6 =>
    refine List.forall_mem_cons.mpr ⟨Nat.ne_of_gt had5, List.forall_mem_cons.mpr ⟨Nat.ne_of_lt hdihl, List.forall_mem_cons.mpr ⟨Nat.ne_of_lt hdxhl, ?_⟩⟩⟩
    iterate 9 (refine List.forall_mem_cons.mpr ⟨Nat.ne_of_lt (Nat.lt_of_le_of_lt (by dsimp only; omega) hhl9), ?_⟩)
    intro p hp
    exact Nat.ne_of_lt (hlt4 p (by simpa using hp))
  case l6 => rw [hperm.length_eq, List.length_take, drawnOf_length]; rfl
  case j6 =>
    intro i hi
    obtain ⟨u1, u2, u3, h⟩ := hjs i hi
    exact ⟨u1, u2, u3, .tail _ (.tail _ (.tail _ (.tail _ (.tail _ (.tail _ (.tail _ (.tail _ (.tail _ (.tail _ (.tail _ (.tail _ (.tail _ h))))))))))))⟩
  clear F N
  intro h tk m c F N hsub6 hne6 hcad hcod hclo hCA hHdr hm
  have lenH : H.length = 5 := by rw [hperm.length_eq, List.length_take, drawnOf_length]; rfl
  obtain ⟨rest7, hrest7⟩ : ∃ r, r = ((hl', listOf (c.rs.map Value.ref).toArray c.n) :: c.rest).filter ncell := ⟨_, rfl⟩
  have mem7 : ∀ p, p ∈ c.rest → ncell p = true → p ∈ rest7 := fun p hp hq => by rw [hrest7]; exact List.mem_filter.mpr ⟨.tail _ hp, hq⟩
  have memJ : ∀ p, p ∈ (jl, listOf #[.ref (js 0), .ref (js 1), .ref (js 2), .ref (js 3), .ref (js 4), .ref (js 5)] nj) :: rest3 → p ∈ c.rest := fun p hp => hsub6 p (.tail _ (.tail _ (.tail _ (.tail _ (.tail _ (.tail _ (.tail _ (.tail _ (.tail _ (.tail _ (.tail _ (.tail _ (hp)))))))))))))
  have hc9 : ∀ i : Nat, 1 ≤ i → i ≤ 9 → ∃ o v, (L + i, o) ∈ (hl', listOf (c.rs.map Value.ref).toArray c.n) :: c.rest ∧ o.data = .cell v := by
    intro i h1 h9
    obtain rfl | rfl | rfl | rfl | rfl | rfl | rfl | rfl | rfl : i = 1 ∨ i = 2 ∨ i = 3 ∨ i = 4 ∨ i = 5 ∨ i = 6 ∨ i = 7 ∨ i = 8 ∨ i = 9 := by omega
    · exact ⟨o1, _, .tail _ (hsub6 (L + 1, o1) (by (first | ((repeat (first | (with_reducible exact List.Mem.head _) | refine List.Mem.tail _ ?_)); done) | ((repeat (first | (exact List.Mem.head _) | refine List.Mem.tail _ ?_)); done)))), d1⟩
    · exact ⟨o2, _, .tail _ (hsub6 (L + 1 + 1, o2) (by (first | ((repeat (first | (with_reducible exact List.Mem.head _) | refine List.Mem.tail _ ?_)); done) | ((repeat (first | (exact List.Mem.head _) | refine List.Mem.tail _ ?_)); done)))), d2⟩
    · exact ⟨o3, _, .tail _ (hsub6 (L + 1 + 1 + 1, o3) (by (first | ((repeat (first | (with_reducible exact List.Mem.head _) | refine List.Mem.tail _ ?_)); done) | ((repeat (first | (exact List.Mem.head _) | refine List.Mem.tail _ ?_)); done)))), d3⟩
    · exact ⟨o4, _, .tail _ (hsub6 (L + 1 + 1 + 1 + 1, o4) (by (first | ((repeat (first | (with_reducible exact List.Mem.head _) | refine List.Mem.tail _ ?_)); done) | ((repeat (first | (exact List.Mem.head _) | refine List.Mem.tail _ ?_)); done)))), d4⟩
    · exact ⟨o5, _, .tail _ (hsub6 (L + 1 + 1 + 1 + 1 + 1, o5) (by (first | ((repeat (first | (with_reducible exact List.Mem.head _) | refine List.Mem.tail _ ?_)); done) | ((repeat (first | (exact List.Mem.head _) | refine List.Mem.tail _ ?_)); done)))), d5⟩
    · exact ⟨o6, _, .tail _ (hsub6 (L + 1 + 1 + 1 + 1 + 1 + 1, o6) (by (first | ((repeat (first | (with_reducible exact List.Mem.head _) | refine List.Mem.tail _ ?_)); done) | ((repeat (first | (exact List.Mem.head _) | refine List.Mem.tail _ ?_)); done)))), d6⟩
    · exact ⟨o7, _, .tail _ (hsub6 (L + 1 + 1 + 1 + 1 + 1 + 1 + 1, o7) (by (first | ((repeat (first | (with_reducible exact List.Mem.head _) | refine List.Mem.tail _ ?_)); done) | ((repeat (first | (exact List.Mem.head _) | refine List.Mem.tail _ ?_)); done)))), d7⟩
    · exact ⟨o8, _, .tail _ (hsub6 (L + 1 + 1 + 1 + 1 + 1 + 1 + 1 + 1, o8) (by (first | ((repeat (first | (with_reducible exact List.Mem.head _) | refine List.Mem.tail _ ?_)); done) | ((repeat (first | (exact List.Mem.head _) | refine List.Mem.tail _ ?_)); done)))), d8⟩
    · exact ⟨o9, _, .tail _ (hsub6 (L + 1 + 1 + 1 + 1 + 1 + 1 + 1 + 1 + 1, o9) (by (first | ((repeat (first | (with_reducible exact List.Mem.head _) | refine List.Mem.tail _ ?_)); done) | ((repeat (first | (exact List.Mem.head _) | refine List.Mem.tail _ ?_)); done)))), d9⟩
  have hr7 : Off L rest7 := hrest7 ▸ off_ncell N hc9
  have N7 : News h₀ L h ((L + 1 + 1 + 1 + 1 + 1 + 1 + 1 + 1 + 1, o9) :: (L + 1 + 1 + 1 + 1 + 1 + 1 + 1 + 1, o8) :: (L + 1 + 1 + 1 + 1 + 1 + 1 + 1, o7) :: (L + 1 + 1 + 1 + 1 + 1 + 1, o6) :: (L + 1 + 1 + 1 + 1 + 1, o5) :: (L + 1 + 1 + 1 + 1, o4) :: (L + 1 + 1 + 1, o3) :: (L + 1 + 1, o2) :: (L + 1, o1) :: rest7) := cb_drop N (by
    iterate 9 (refine List.forall_mem_cons.mpr ⟨List.Mem.tail _ (hsub6 _ (by (first | ((repeat (first | (with_reducible exact List.Mem.head _) | refine List.Mem.tail _ ?_)); done) | ((repeat (first | (exact List.Mem.head _) | refine List.Mem.tail _ ?_)); done)))), ?_⟩)
    intro p hp
    rw [hrest7] at hp
    exact (List.mem_filter.mp hp).1)
  have memHl : (hl', listOf (c.rs.map Value.ref).toArray c.n) ∈ rest7 := by rw [hrest7]; exact List.mem_filter.mpr ⟨.head _, rfl⟩
  have memDi : (di, instObj 240 dx) ∈ rest7 := mem7 _ (hsub6 _ (.tail _ (.head _))) rfl
  have memDx : (dx, hdD w tkk hl' nd) ∈ rest7 := mem7 _ (hsub6 _ (.tail _ (.tail _ (.head _)))) rfl
  have memD : (D, listOf us.toArray 0) ∈ rest7 := mem7 _ (memJ _ (.tail _ (hsub3 _ (.tail _ (.head _))))) rfl
  have m258 : ((258 : Addr), tabObj #[]) ∈ rest7 := mem7 _ (memJ _ (.tail _ (hsub3 _ (.tail _ (.tail _ (.head _)))))) rfl
  have memJl : (jl, listOf #[.ref (js 0), .ref (js 1), .ref (js 2), .ref (js 3), .ref (js 4), .ref (js 5)] nj) ∈ rest7 := mem7 _ (memJ _ (.head _)) rfl
  have memAd : (c.ad, c.od) ∈ rest7 := mem7 _ hcad (ncell_dict hcod)
  have hjs7 : ∀ i, i < 6 → JobAt rest7 (jobsOf (drawnOf ns)) (js i) i := fun i hi => by
    obtain ⟨u1, u2, u3, h⟩ := hjs i hi
    exact ⟨u1, u2, u3, mem7 _ (memJ _ (.tail _ h)) rfl⟩
  have hHdr7 : HdrAre rest7 c.rs (comes H (jobsOf (drawnOf ns)) 6).1 := hHdr.sub fun r vs h _ => mem7 _ h rfl
  clear N hc9 hsub6 hne6 hcad hHdr memJ mem7 hrest7
  dsimp only
  refine wpAny_execs_cons (blk7 (o1 := o1) (o2 := o2) (o3 := o3) (o4 := o4) (o5 := o5) (o6 := o6) (o7 := o7) (o8 := o8) (o9 := o9) hcs B F X T (hB 7) N7 hr7 d1 memD hus (drawnOf_length ns) (fun p hp => hm p (.tail _ hp)) ?_)
  clear F N7
  intro h tk m pa pv ps n7 F N hpa9 hip hsort7 hperm7 hm
  have eps : ps = H := sorted_eq hsort7 hsort (hperm7.trans hperm.symm)
  rw [eps] at hip
  clear eps hsort7 hperm7
  have hr8 := hr7.cons (o := listOf pv.toArray n7) hpa9
  dsimp only
  refine wpAny_execs_cons (blk8 (o1 := o1) (o2 := o2) (o3 := o3) (o4 := o4) (o5 := o5) (o6 := o6) (o7 := o7) (o8 := o8) (o9 := o9) hcs B F X T (hB 8) N hr8 d3 hm ?_)
  clear F N
  intro h tk m o3 sa F N d3 hsa9 hlt8 hm
  dsimp only
  refine wpAny_execs_cons (blk9 (o1 := o1) (o2 := o2) (o3 := o3) (o4 := o4) (o5 := o5) (o6 := o6) (o7 := o7) (o8 := o8) (o9 := o9) hcs B F X T (hB 9) N hr8 (fun p hp => Nat.ne_of_lt (hlt8 p hp)) hsa9 d9 d3 d4 d5 (.tail _ memJl) (fun i hi => (hjs7 i hi).imp fun _ q => q.imp fun _ q => q.imp fun _ q => .tail _ q) (.head _) hip lenH hm (by omega) ?_ hE)
  clear F N
  intro h tk m c9 F N hsub9 hr9 hne9 hP9 hm
  obtain ⟨o4, o5, rs9, n9, rest9⟩ := c9
  dsimp only at N hsub9 hr9 hne9 hP9 ⊢
  have hr10 := hr9.cons (o := listOf (rs9.map Value.ref).toArray n9) hsa9
  obtain ⟨hb1, _, hb3⟩ := comes_bounds (J := jobsOf (drawnOf ns)) lenH 6 (Nat.le_refl _)
  refine wpAny_execs_cons (blk10 (o1 := o1) (o2 := o2) (o3 := o3) (o4 := o4) (o5 := o5) (o6 := o6) (o7 := o7) (o8 := o8) (o9 := o9) hcs B F X T (hB 10) (cb_drop N ?s10) hr10 d2 d6 (.tail _ (hsub9 _ (.tail _ memDi))) (.tail _ (hsub9 _ (.tail _ memDx))) (.tail _ (hsub9 _ (.tail _ memHl))) (hHdr7.mono fun p hp => .tail _ (hsub9 _ (.tail _ hp))) hb3 (by omega) hm (by omega) ?_)
  case s10 => ((try dsimp only); (repeat (refine List.forall_mem_cons.mpr ⟨(by first | ((repeat (first | (with_reducible exact List.Mem.head _) | refine List.Mem.tail _ ?_)); done) | ((repeat (first | (exact List.Mem.head _) | refine List.Mem.tail _ ?_)); done)), ?_⟩)); (intro p hp; first | (cases hp; done) | (repeat (first | exact hp | refine List.Mem.tail _ ?_))))
  clear F N
  intro h tk m o6 oa os no rest10 F N d6 hoa9 hsub10 hr10' hos hm
  have hrO := hr10'.cons (o := listOf #[.ref (os 0), .ref (os 1), .ref (os 2), .ref (os 3), .ref (os 4), .ref (os 5)] no) hoa9
  obtain ⟨restB, hrestB⟩ : ∃ r, r = ((oa, listOf #[.ref (os 0), .ref (os 1), .ref (os 2), .ref (os 3), .ref (os 4), .ref (os 5)] no) :: rest10).filter (fun p => !decide (p.1 = 258)) := ⟨_, rfl⟩
  have memB : ∀ p, p ∈ (oa, listOf #[.ref (os 0), .ref (os 1), .ref (os 2), .ref (os 3), .ref (os 4), .ref (os 5)] no) :: rest10 → p.2 ≠ tabObj #[] → p ∈ restB := fun p hp hq => by
    rw [hrestB]
    refine List.mem_filter.mpr ⟨hp, ?_⟩
    have : p.1 ≠ 258 := fun e => by
      have h1 := (N p (.tail _ (.tail _ (.tail _ (.tail _ (.tail _ (.tail _ (.tail _ (.tail _ (.tail _ (hp))))))))))).1
      have h2 := (N (258, tabObj #[]) (.tail _ (.tail _ (.tail _ (.tail _ (.tail _ (.tail _ (.tail _ (.tail _ (.tail _ (.tail _ (hsub10 _ (.tail _ (hsub9 _ (.tail _ m258))))))))))))))).1
      rw [e, h2] at h1
      exact hq (Option.some.inj h1).symm
    simpa using this
  have hr11 : Off L restB := fun p hp => hrO p (List.mem_filter.mp (hrestB ▸ hp)).1
  have h258B : ∀ p ∈ restB, p.1 ≠ 258 := fun p hp => by
    have := (List.mem_filter.mp (hrestB ▸ hp)).2
    simpa using this
  have N11 : News h₀ L h ((L + 1 + 1 + 1 + 1 + 1 + 1 + 1 + 1 + 1, o9) :: (L + 1 + 1 + 1 + 1 + 1 + 1 + 1 + 1, o8) :: (L + 1 + 1 + 1 + 1 + 1 + 1 + 1, o7) :: (L + 1 + 1 + 1 + 1 + 1 + 1, o6) :: (L + 1 + 1 + 1 + 1 + 1, o5) :: (L + 1 + 1 + 1 + 1, o4) :: (L + 1 + 1 + 1, o3) :: (L + 1 + 1, o2) :: (L + 1, o1) :: (258, tabObj #[]) :: restB) := cb_drop N (by
    iterate 9 (refine List.forall_mem_cons.mpr ⟨by (first | ((repeat (first | (with_reducible exact List.Mem.head _) | refine List.Mem.tail _ ?_)); done) | ((repeat (first | (exact List.Mem.head _) | refine List.Mem.tail _ ?_)); done)), ?_⟩)
    exact List.forall_mem_cons.mpr ⟨(.tail _ (.tail _ (.tail _ (.tail _ (.tail _ (.tail _ (.tail _ (.tail _ (.tail _ (.tail _ (hsub10 _ (.tail _ (hsub9 _ (.tail _ m258)))))))))))))), fun p hp => (.tail _ (.tail _ (.tail _ (.tail _ (.tail _ (.tail _ (.tail _ (.tail _ (.tail _ ((List.mem_filter.mp (hrestB ▸ hp)).1))))))))))⟩)
  have lift : ∀ p, p ∈ rest7 → p.2 ≠ tabObj #[] → p ∈ restB := fun p hp hq => memB p (.tail _ (hsub10 _ (.tail _ (hsub9 _ (.tail _ hp))))) hq
  have memJlB := lift _ memJl (by intro e; cases e)
  have memAdB := lift _ memAd (ntab_dict hcod)
  have memPaB : (pa, listOf pv.toArray n7) ∈ restB := memB _ (.tail _ (hsub10 _ (.tail _ (hsub9 _ (.head _))))) (by intro e; cases e)
  have memSaB : (sa, listOf (rs9.map Value.ref).toArray n9) ∈ restB := memB _ (.tail _ (hsub10 _ (.head _))) (by intro e; cases e)
  have memOaB : (oa, listOf #[.ref (os 0), .ref (os 1), .ref (os 2), .ref (os 3), .ref (os 4), .ref (os 5)] no) ∈ restB := memB _ (.head _) (by intro e; cases e)
  have hjsB : ∀ i, i < 6 → JobAt restB (jobsOf (drawnOf ns)) (js i) i := fun i hi => (hjs7 i hi).imp fun _ q => q.imp fun _ q => q.imp fun _ q => lift _ q (by intro e; cases e)
  have hosB : ∀ k, k < 6 → OwnAt restB (comes H (jobsOf (drawnOf ns)) 6).1 (os k) k := fun k hk => by
    obtain ⟨v, n, h1, h2⟩ := hos k hk
    exact ⟨v, n, memB _ (.tail _ h1) (by intro e; cases e), h2⟩
  have hPB : PairsAre restB rs9 ((List.range 6).map (spanOf H (jobsOf (drawnOf ns)))) := by
    refine hP9.sub fun r _ _ _ _ h => memB _ (.tail _ (hsub10 _ (.tail _ h))) (by intro e; cases e)
  clear N lift memB hrestB hsub10 hr10' hos hr10 hP9 hsub9
  dsimp only
  refine wpAny_execs_cons (blk11 (o1 := o1) (o2 := o2) (o3 := o3) (o4 := o4) (o5 := o5) (o6 := o6) (o7 := o7) (o8 := o8) (o9 := o9) (D := 0) hcs B F X T (hB 11) N11 hT hr11 h258B h258L d9 memJlB hjsB hm (by omega) hccd ?_)
  clear F N11
  intro h tk m ra rv rl n11 pT rest' F N hra9 hreq hRk hrv hm
  subst hreq
  have hr11' : Off L ((258, tabObj pT) :: rest') := List.forall_mem_cons.mpr ⟨.inl h258L, hr11⟩
  have hr12 := hr11'.cons (o := listOf rv.toArray n11) hra9
  replace memSaB := List.Mem.tail ((258 : Addr), tabObj pT) memSaB
  replace memOaB := List.Mem.tail ((258 : Addr), tabObj pT) memOaB
  replace memPaB := List.Mem.tail ((258 : Addr), tabObj pT) memPaB
  replace memAdB := List.Mem.tail ((258 : Addr), tabObj pT) memAdB
  replace hPB : PairsAre ((258, tabObj pT) :: rest') rs9 ((List.range 6).map (spanOf H (jobsOf (drawnOf ns)))) := hPB.mono fun p hp => .tail _ hp
  replace hosB : ∀ k, k < 6 → OwnAt ((258, tabObj pT) :: rest') (comes H (jobsOf (drawnOf ns)) 6).1 (os k) k := fun k hk => (hosB k hk).imp fun _ q => q.imp fun _ q => ⟨.tail _ q.1, q.2⟩
  have hrl : rl.length = 6 := by
    have := congrArg List.length hRk.1
    simpa using this
  dsimp only
  refine wpAny_execs_cons (blk12 (o1 := o1) (o2 := o2) (o3 := o3) (o4 := o4) (o5 := o5) (o6 := o6) (o7 := o7) (o8 := o8) (o9 := o9) hcs B F X T (hB 12) (cb_drop N ?s12) hr12 d3 d6 d7 (.tail _ memSaB) (hPB.mono fun p hp => .tail _ hp) (.tail _ memOaB) (fun k hk => (hosB k hk).imp fun _ q => q.imp fun _ q => ⟨.tail _ q.1, q.2⟩) (by omega) (.tail _ memPaB) hip lenH (.head _) hrv hrl hRk.2
    (law_have lenH (jobs_le _) hRk) hm (by omega) ?_ hE)
  case s12 => ((try dsimp only); (repeat (refine List.forall_mem_cons.mpr ⟨(by first | ((repeat (first | (with_reducible exact List.Mem.head _) | refine List.Mem.tail _ ?_)); done) | ((repeat (first | (exact List.Mem.head _) | refine List.Mem.tail _ ?_)); done)), ?_⟩)); (intro p hp; first | (cases hp; done) | (repeat (first | exact hp | refine List.Mem.tail _ ?_))))
  clear F N
  intro h tk m o7 F N hm
  dsimp only
  refine wpAny_execs_cons (blk13 (o1 := o1) (o2 := o2) (o3 := o3) (o4 := o4) (o5 := o5) (o6 := o6) (o7 := o7) (o8 := o8) (o9 := o9) hcs B F X T (hB 13) N hr12 d8 hm ?_)
  clear F N
  intro h tk m o8 na F N d8 hna9 hlt13 hm
  have hSb : ∀ k, k < 6 → (spanOf H (jobsOf (drawnOf ns)) k).1 ≤ 5 ∧ (spanOf H (jobsOf (drawnOf ns)) k).2 ≤ 5 := fun k _ => ⟨lenH ▸ nlt_le _ _, lenH ▸ nle_le _ _⟩
  dsimp only
  refine wpAny_execs_cons (blk14 (o1 := o1) (o2 := o2) (o3 := o3) (o4 := o4) (o5 := o5) (o6 := o6) (o7 := o7) (o8 := o8) (o9 := o9) hcs B F X T (hB 14) N hr12 (fun p hp => Nat.ne_of_lt (hlt13 p hp)) hna9 d8 d3 d6 (.tail _ memSaB) (hPB.mono fun p hp => .tail _ hp) hSb (.tail _ memOaB) (fun k hk => (hosB k hk).imp fun _ q => q.imp fun _ q => ⟨.tail _ q.1, q.2⟩) (by omega) (.tail _ memPaB) hip lenH hm (by omega) ?_ hE)
  clear F N
  intro h tk m nv n14 F N hnv hm
  have hr15 := hr12.cons (o := listOf nv.toArray n14) hna9
  have hnl : nv.length ≤ 1000 := by
    rw [hnv.length]
    exact Nat.le_trans (namesUp_length _ _ (fun k hk => (hSb k hk).2) 6 (Nat.le_refl _)) (by decide)
  dsimp only
  refine wpAny_execs_cons (blk15 (o1 := o1) (o2 := o2) (o3 := o3) (o4 := o4) (o5 := o5) (o6 := o6) (o7 := o7) (o8 := o8) (o9 := o9) (pa := 0) hcs B F X T (hB 15) (cb_drop N ?s15) hr15 d8 (.head _) hnv hnl (.tail _ (.tail _ memAdB)) hcod hclo hCA (law_tally lenH (jobs_le _)) (fun p hp => hm p (by simp at hp; subst hp; exact .head _)) (by omega) hun ?_)
  case s15 => ((try dsimp only); (repeat (refine List.forall_mem_cons.mpr ⟨(by first | ((repeat (first | (with_reducible exact List.Mem.head _) | refine List.Mem.tail _ ?_)); done) | ((repeat (first | (exact List.Mem.head _) | refine List.Mem.tail _ ?_)); done)), ?_⟩)); (intro p hp; first | (cases hp; done) | (repeat (first | exact hp | refine List.Mem.tail _ ?_))))
  clear F N
  intro h' tk' m' F N
  exact ret _ _ _ pT F (N (258, tabObj pT) (.tail _ (.tail _ (.tail _ (.tail _ (.tail _ (.tail _ (.tail _ (.tail _ (.tail _ (.tail _ (.tail _ (.head _))))))))))))).1
end
end
section
theorem kc_nine {cm : Str → Option Value} {n₁ n₂ n₃ n₄ n₅ n₆ n₇ n₈ n₉ : Str} {c₁ c₂ c₃ c₄ c₅ c₆ c₇ c₈ c₉ : Addr} {cells : List (Addr × Obj)} (x : CellsAre cm [(n₁, c₁), (n₂, c₂), (n₃, c₃), (n₄, c₄), (n₅, c₅), (n₆, c₆), (n₇, c₇), (n₈, c₈), (n₉, c₉)] cells) :
    ∃ o₁ o₂ o₃ o₄ o₅ o₆ o₇ o₈ o₉, cells = [(c₁, o₁), (c₂, o₂), (c₃, o₃), (c₄, o₄), (c₅, o₅), (c₆, o₆), (c₇, o₇), (c₈, o₈), (c₉, o₉)] ∧ o₁.data = .cell (cm n₁) ∧ o₂.data = .cell (cm n₂) ∧ o₃.data = .cell (cm n₃) ∧ o₄.data = .cell (cm n₄) ∧ o₅.data = .cell (cm n₅) ∧ o₆.data = .cell (cm n₆) ∧ o₇.data = .cell (cm n₇) ∧ o₈.data = .cell (cm n₈) ∧ o₉.data = .cell (cm n₉) := by
  cases x with | cons h r => obtain ⟨o₂, o₃, o₄, o₅, o₆, o₇, o₈, o₉, rfl, h₂, h₃, h₄, h₅, h₆, h₇, h₈, h₉⟩ := kc_eight r; exact ⟨_, o₂, o₃, o₄, o₅, o₆, o₇, o₈, o₉, rfl, h, h₂, h₃, h₄, h₅, h₆, h₇, h₈, h₉⟩
local macro_rules | `(tactic| cells_open $x:ident) => `(tactic| (obtain ⟨_, _, _, _, _, _, _, _, _, he, _, _, _, _, _, _, _, _, _⟩ := kc_nine $x; subst he))
set_option maxRecDepth 100000 in
set_option maxHeartbeats 8000000 in
set_option pp.maxSteps 4000 in
theorem main_row : PySem.Challenge.rw_pm0069_01.Holds := hd (by
  k_go0
  all_goals try k_fold
  rename Below _ _ _ _ => BB
  rename Fr _ _ _ _ => FF
  rename News _ _ _ _ => NN
  rename CodeHd _ _ _ => CH
  rename Top topProg _ _ _ _ _ => TT
  rename IntsAre _ _ => II
  refine law_spec ?hcs BB FF (by assumption) TT ?hbs NN CH (by assumption) rfl (by assumption) (by assumption) (by assumption) (by assumption) (by assumption) (by assumption) (by assumption) (by assumption) (by assumption) ?hm (by assumption) II ?hlen ?room ?un ?ret ?hE
  case hcs => with_unfolding_all rfl
  case hbs => with_unfolding_all rfl
  case hm =>
    intro p hp
    rw [List.mem_singleton.mp hp]
    with_unfolding_all rfl
  case hlen => omega
  case room => decide
  case un => decide
  case ret =>
    intro h' tk' m' pT F9 h258
    rename _ = (#[] : Array _) => HG
    refine ⟨?g1, ⟨pT, h258⟩, trivial⟩
    refine goodW_bool F9 HG (raisesW_false ?_) ?_
    · wrow_none_raised
    · first | kc_post | wrow_post
  case hE =>
    passes_own)
end
end
end Mine
theorem PySem.Challenge.cw_pm0069_01_holds : PySem.Challenge.rw_pm0069_01.Holds := by
  exact Mine.main_row

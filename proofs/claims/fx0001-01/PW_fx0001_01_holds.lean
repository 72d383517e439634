import PyProof.Rows.All
import Wide.All
import OpenK.AllK
import Wide.FinOn
import PySem.Challenge.RW_fx0001_01
set_option Elab.async false
section
open PySem PySem.W PyProof.Rows
set_option Elab.async false
set_option maxRecDepth 100000
set_option maxHeartbeats 8000000
namespace Mine
open_top hd for PySem.Challenge.rw_fx0001_01
end Mine
end
section
open PySem PySem.W PyProof.Rows PySem.Calls
set_option Elab.async false
set_option maxRecDepth 100000
set_option maxHeartbeats 8000000
set_option rowWalk.seconds 0
namespace Mine
abbrev pw := PySem.Challenge.pw_fx0001_01
/-- c is two to the power n -/
structure PowAt (n c : Int) : Prop where
  lo : 0 ≤ n
  hi : n ≤ 1000
  eq : c = 2 ^ n.toNat
/-- a fact that the walk's arithmetic is not to look at -/
structure Hide (P : Prop) : Prop where
  out : P
/-- r is v's rest by c -/
structure ModAt (v c r : Int) : Prop where
  pos : 0 < c
  eq : r = v.fmod c
abbrev serD (P : Params) (A bits : Int) (k1 k2 t1 t2 : Tok) : Obj := dictOf [⟨PyData.keyHash P (Str.ofString "value"), .str (Str.ofString "value") k1, .int A t1⟩, ⟨PyData.keyHash P (Str.ofString "bits"), .str (Str.ofString "bits") k2, .int bits t2⟩] 2
/-- a serial stands at x in the ledger -/
def SerIn (P : Params) (news : List (Addr × Obj)) (x : Addr) (A bits : Int) : Prop :=
  ∃ (dx : Addr) (k1 k2 t1 t2 : Tok), (x, instObj 116 dx) ∈ news ∧ (dx, serD P A bits k1 k2 t1 t2) ∈ news
/-- what a serial of the size is compared with: a serial of the size, or a number -/
inductive OthIs (P : Params) (news : List (Addr × Obj)) (bits c B : Int) : Value → Prop
  | ser {y dy : Addr} {k1 k2 t1 t2 : Tok} : (y, instObj 116 dy) ∈ news → (dy, serD P B bits k1 k2 t1 t2) ∈ news → OthIs P news bits c B (.ref y)
  | num {b : Int} {t : Tok} : ModAt b c B → OthIs P news bits c B (.int b t)
/-- what is stepped by: a serial of that value, or a number -/
inductive GivIs (P : Params) (news : List (Addr × Obj)) (delta : Int) : Value → Prop
  | ser {y dy : Addr} {bits : Int} {k1 k2 t1 t2 : Tok} : (y, instObj 116 dy) ∈ news → (dy, serD P delta bits k1 k2 t1 t2) ∈ news → GivIs P news delta (.ref y)
  | num {t : Tok} : GivIs P news delta (.int delta t)
theorem mem_hd {p : Addr × Obj} {l : List (Addr × Obj)} : p ∈ p :: l := .head _
theorem mem_tl {p q : Addr × Obj} {l : List (Addr × Obj)} (h : p ∈ l) : p ∈ q :: l := .tail _ h
section
variable {prog : Program} {w : World} {A : Around} {E : Value → Shared → Prop} {s : Shared} {Q : Value → Shared → Prop} {v c r n : Int} {t u : Tok}
theorem pow_is {b : Int} (hp : PowAt n c) (h : Q (.int c s.toks) { s with toks := s.toks + 1 }) (hb : b = 2) : wpAny (model prog w) A (binaryOp .Pow (.int b t) (.int n u)) Q E s := by
  subst hb
  refine pow_int_small hp.lo (by have := hp.hi; omega) (by decide) ?_
  rw [← hp.eq]; exact h
theorem mod_is (hp : ModAt v c r) (h : Q (.int r s.toks) { s with toks := s.toks + 1 }) : wpAny (model prog w) A (binaryOp .Mod (.int v t) (.int c u)) Q E s := by
  refine mod_int' (by have := hp.pos; omega) ?_
  rw [← hp.eq]; exact h
theorem ite_bne {a : Int} {P R : Prop} (h : R) : if (a != a) = true then P else R := by rw [if_neg (by simp)]; exact h
theorem ite_dpos {c : Prop} [Decidable c] {P R : Prop} (hc : c) (h : P) : if decide c = true then P else R := by rw [if_pos (decide_eq_true hc)]; exact h
theorem ite_dneg {c : Prop} [Decidable c] {P R : Prop} (hc : ¬ c) (h : R) : if decide c = true then P else R := by rw [if_neg (by rw [decide_eq_false hc]; decide)]; exact h
theorem ite_dsplit {c : Prop} [Decidable c] {P R : Prop} (ht : c → P) (hf : ¬ c → R) : if decide c = true then P else R := by
  by_cases hc : c
  · exact ite_dpos hc (ht hc)
  · exact ite_dneg hc (hf hc)
theorem ite_beq {a : Int} {P R : Prop} (h : P) : if (a == a) = true then P else R := by rw [if_pos (by simp)]; exact h
end
end Mine
end
section
open PySem PySem.W PyProof.Rows
/-! plain arithmetic of the circle: no program in sight -/
namespace Mine
theorem mod_mk {v c r q : Int} (h0 : 0 ≤ r) (h1 : r < c) (e : v = r + c * q) : ModAt v c r := by
  refine ⟨by omega, ?_⟩
  rw [Int.fmod_eq_emod_of_nonneg _ (by omega), e, Int.add_mul_emod_self_left, Int.emod_eq_of_lt h0 h1]
theorem ModAt.lo {v c r : Int} (h : ModAt v c r) : 0 ≤ r := by
  rw [h.eq, Int.fmod_eq_emod_of_nonneg _ (by have := h.pos; omega)]; exact Int.emod_nonneg _ (by have := h.pos; omega)
theorem ModAt.hi {v c r : Int} (h : ModAt v c r) : r < c := by
  rw [h.eq, Int.fmod_eq_emod_of_nonneg _ (by have := h.pos; omega)]; exact Int.emod_lt_of_pos _ h.pos
theorem ModAt.q {v c r : Int} (h : ModAt v c r) : ∃ q, v = r + c * q := by
  refine ⟨v / c, ?_⟩
  rw [h.eq, Int.fmod_eq_emod_of_nonneg _ (by have := h.pos; omega)]
  have := Int.emod_add_mul_ediv v c
  omega
theorem ModAt.uniq {v c r r' : Int} (h : ModAt v c r) (h' : ModAt v c r') : r = r' := by rw [h.eq, h'.eq]
theorem mod_ex (v : Int) {c : Int} (h : 0 < c) : ∃ r, ModAt v c r := ⟨v.fmod c, h, rfl⟩
theorem mod_self {v c r : Int} (h : ModAt v c r) : ModAt r c r := mod_mk (q := 0) h.lo h.hi (by omega)
theorem mod_sub {a b c A B : Int} (ha : ModAt a c A) (hb : ModAt b c B) (h : A ≤ B) : ModAt (b - a) c (B - A) := by
  obtain ⟨q, e⟩ := ha.q
  obtain ⟨q', e'⟩ := hb.q
  have := ha.lo; have := hb.hi
  refine mod_mk (q := q' - q) (by omega) (by omega) ?_
  rw [Int.mul_sub]; omega
theorem mod_sub' {a b c A B : Int} (ha : ModAt a c A) (hb : ModAt b c B) (h : B < A) : ModAt (b - a) c (B - A + c) := by
  obtain ⟨q, e⟩ := ha.q
  obtain ⟨q', e'⟩ := hb.q
  have := ha.hi; have := hb.lo
  refine mod_mk (q := q' - q - 1) (by omega) (by omega) ?_
  rw [Int.mul_sub, Int.mul_sub, Int.mul_one]; omega
theorem mod_shift {n c A d r : Int} (h : ModAt n c A) (k : ModAt (n + d) c r) : ModAt (A + d) c r := by
  obtain ⟨q, e⟩ := h.q
  obtain ⟨q', e'⟩ := k.q
  refine mod_mk (q := q' - q) k.lo k.hi ?_
  rw [Int.mul_sub]; omega
theorem mod_unshift {n c A d r : Int} (h : ModAt n c A) (k : ModAt (n - d) c r) : ModAt (A - d) c r := by
  obtain ⟨q, e⟩ := h.q
  obtain ⟨q', e'⟩ := k.q
  refine mod_mk (q := q' - q) k.lo k.hi ?_
  rw [Int.mul_sub]; omega
theorem SerIn.mono {P : Params} {l l' : List (Addr × Obj)} {x : Addr} {A b : Int} (h : SerIn P l x A b) (hs : ∀ p ∈ l, p ∈ l') : SerIn P l' x A b := by
  obtain ⟨dx, k1, k2, t1, t2, h1, h2⟩ := h
  exact ⟨dx, k1, k2, t1, t2, hs _ h1, hs _ h2⟩
theorem OthIs.mono {P : Params} {l l' : List (Addr × Obj)} {b c B : Int} {v : Value} (h : OthIs P l b c B v) (hs : ∀ p ∈ l, p ∈ l') : OthIs P l' b c B v := by
  cases h with
  | ser h1 h2 => exact .ser (hs _ h1) (hs _ h2)
  | num m => exact .num m
theorem GivIs.mono {P : Params} {l l' : List (Addr × Obj)} {d : Int} {v : Value} (h : GivIs P l d v) (hs : ∀ p ∈ l, p ∈ l') : GivIs P l' d v := by
  cases h with
  | ser h1 h2 => exact .ser (hs _ h1) (hs _ h2)
  | num => exact .num
/-- where two numbers stand on the circle: the two ways round, and what the comparisons tell -/
def Rel4 (a b c h A B : Int) : Prop :=
    ∃ (D D2 : Int) (e n l g le ge : Bool), ModAt (b - a) c D ∧ ModAt (a - b) c D2 ∧ Hide (A = B ↔ e = true) ∧ Hide (A ≠ B ↔ n = true) ∧ Hide ((A < B ∧ B - A < h ∨ B < A ∧ h < A - B) ↔ l = true) ∧ Hide ((A < B ∧ h < B - A ∨ B < A ∧ A - B < h) ↔ g = true) ∧
      Hide ((A = B ∨ (A < B ∧ B - A < h ∨ B < A ∧ h < A - B)) ↔ le = true) ∧ Hide ((A = B ∨ (A < B ∧ h < B - A ∨ B < A ∧ A - B < h)) ↔ ge = true) ∧
      ((e = true ∧ n = false ∧ l = false ∧ g = false ∧ le = true ∧ ge = true ∧ D = 0 ∧ D2 = 0 ∧ 0 < c) ∨ (e = false ∧ n = true ∧ l = true ∧ g = false ∧ le = true ∧ ge = false ∧ 0 < D ∧ D < h ∧ D2 = c - D) ∨
       (e = false ∧ n = true ∧ l = false ∧ g = false ∧ le = false ∧ ge = false ∧ 0 < h ∧ D = h ∧ D2 = h) ∨ (e = false ∧ n = true ∧ l = false ∧ g = true ∧ le = false ∧ ge = true ∧ h < D ∧ D < c ∧ D2 = c - D))
theorem rel4 {a b c h A B : Int} (hc : c = 2 * h) (ha : ModAt a c A) (hb : ModAt b c B) : Rel4 a b c h A B := by
  have hp := ha.pos
  have a0 := ha.lo; have a1 := ha.hi; have b0 := hb.lo; have b1 := hb.hi
  have tb : ∀ {P : Prop}, P → Hide (P ↔ true = true) := fun h => ⟨iff_of_true h rfl⟩
  have fb : ∀ {P : Prop}, ¬ P → Hide (P ↔ false = true) := fun h => ⟨iff_of_false h Bool.false_ne_true⟩
  have less : ∀ D D2, ModAt (b - a) c D → ModAt (a - b) c D2 → A ≠ B → (A < B ∧ B - A < h ∨ B < A ∧ h < A - B) → 0 < D → D < h → D2 = c - D → _ := fun D D2 m1 m2 n r q1 q2 q3 =>
    (⟨D, D2, false, true, true, false, true, false, m1, m2, fb n, tb n, tb r, fb (by omega), tb (.inr r), fb (by omega), .inr (.inl ⟨rfl, rfl, rfl, rfl, rfl, rfl, q1, q2, q3⟩)⟩ : Rel4 a b c h A B)
  have half : ∀ D D2, ModAt (b - a) c D → ModAt (a - b) c D2 → A ≠ B → ¬ (A < B ∧ B - A < h ∨ B < A ∧ h < A - B) → ¬ (A < B ∧ h < B - A ∨ B < A ∧ A - B < h) → 0 < h → D = h → D2 = h → _ := fun D D2 m1 m2 n r r' q1 q2 q3 =>
    (⟨D, D2, false, true, false, false, false, false, m1, m2, fb n, tb n, fb r, fb r', fb (by omega), fb (by omega), .inr (.inr (.inl ⟨rfl, rfl, rfl, rfl, rfl, rfl, q1, q2, q3⟩))⟩ : Rel4 a b c h A B)
  have more : ∀ D D2, ModAt (b - a) c D → ModAt (a - b) c D2 → A ≠ B → (A < B ∧ h < B - A ∨ B < A ∧ A - B < h) → h < D → D < c → D2 = c - D → _ := fun D D2 m1 m2 n r q1 q2 q3 =>
    (⟨D, D2, false, true, false, true, false, true, m1, m2, fb n, tb n, fb (by omega), tb r, fb (by omega), tb (.inr r), .inr (.inr (.inr ⟨rfl, rfl, rfl, rfl, rfl, rfl, q1, q2, q3⟩))⟩ : Rel4 a b c h A B)
  rcases Int.lt_trichotomy A B with q | q | q
  · have m1 := mod_sub ha hb (Int.le_of_lt q)
    have m2 := mod_sub' hb ha q
    rcases Int.lt_trichotomy (B - A) h with r | r | r
    · exact less _ _ m1 m2 (by omega) (by omega) (by omega) (by omega) (by omega)
    · exact half _ _ m1 m2 (by omega) (by omega) (by omega) (by omega) (by omega) (by omega)
    · exact more _ _ m1 m2 (by omega) (by omega) (by omega) (by omega) (by omega)
  · have m1 := mod_sub ha hb (Int.le_of_eq q)
    have m2 := mod_sub hb ha (Int.le_of_eq q.symm)
    exact ⟨_, _, true, false, false, false, true, true, m1, m2, tb (by omega), fb (by omega), fb (by omega), fb (by omega), tb (by omega), tb (by omega), .inl ⟨rfl, rfl, rfl, rfl, rfl, rfl, by omega, by omega, by omega⟩⟩
  · have m1 := mod_sub' ha hb q
    have m2 := mod_sub hb ha (Int.le_of_lt q)
    rcases Int.lt_trichotomy (A - B) h with r | r | r
    · exact more _ _ m1 m2 (by omega) (by omega) (by omega) (by omega) (by omega)
    · exact half _ _ m1 m2 (by omega) (by omega) (by omega) (by omega) (by omega) (by omega)
    · exact less _ _ m1 m2 (by omega) (by omega) (by omega) (by omega) (by omega)
end Mine
end
section
open PySem PySem.W PyProof.Rows PySem.Calls PySem.Spec
set_option Elab.async false
set_option maxRecDepth 100000
set_option maxHeartbeats 8000000
namespace Mine
/-- what a turn of a loop over a made tuple leaves; the base may turn -/
def TupEnd (L : Addr) (x : Str) (stored : List Str) (m₀ : Str → Option Value) (led : List (Addr × Obj)) (J : Heap → Prop) (s : Shared) (s₂ : Shared) : Prop :=
  ∃ g h tk m, s₂ = { s with heap := h, toks := tk } ∧ Fr g L h m ∧ News g L h led ∧ (∀ z, z ≠ x → stored.contains z = false → m z = m₀ z) ∧ J g
def TupPost (L : Addr) (x : Str) (stored : List Str) (m₀ : Str → Option Value) (led : List (Addr × Obj)) (J : Heap → Prop) (s : Shared) (Q : Flow → Shared → Prop) (f : Flow) (s₂ : Shared) : Prop :=
  match f with
  | .ret v => Q (.ret v) s₂
  | .brk => Q .next s₂
  | _ => TupEnd L x stored m₀ led J s s₂
theorem tup_end {L : Addr} {x : Str} {stored : List Str} {m₀ m : Str → Option Value} {led led' : List (Addr × Obj)} {J : Heap → Prop} {s : Shared} {Q : Flow → Shared → Prop} {g h : Heap} {tk : Nat}
    (F : Fr g L h m) (N : News g L h led') (hs : ∀ p ∈ led, p ∈ led') (hm : ∀ z, z ≠ x → stored.contains z = false → m z = m₀ z) (hJ : J g) :
    TupPost L x stored m₀ led J s Q .next { s with heap := h, toks := tk } := ⟨g, h, tk, m, rfl, F, fun p hp => N p (hs p hp), hm, hJ⟩
section
variable {prog : Program} {w : World} {A : Around} {s : Shared} {env : Env} {h₀ : Heap}
def TupLoop (prog : Program) (w : World) (A : Around) (env : Env) (x : Str) (px : Pos) (body : List Stmt) (Q : Flow → Shared → Prop) (E : Value → Shared → Prop) (it : Value) (s₂ : Shared) : Prop :=
  codeAny (model prog w) A (.forLoop (.Name x px) it body [] env) (fun r s' => match r with | .ok f => Q f s' | .error e => cameBackBy (model prog w) A env E e s') s₂
theorem for_open {x : Str} {px pos : Pos} {body : List Stmt} {iter : Expr} {Q : Flow → Shared → Prop} {E : Value → Shared → Prop}
    (h : wpAny (model prog w) A (eval iter env) (fun xv s₁ => wpAny (model prog w) A (pyIter xv) (fun it s₂ => TupLoop prog w A env x px body Q E it s₂) E s₁) E s)
    (hs : ∀ x, foldedSetIterable iter env x = pure x := by intro _; rfl) :
    wpAny (model prog w) A (exec (.For (.Name x px) iter body [] pos) env) Q E s := wpAny_For h hs
theorem for_tup {x : Str} {px : Pos} {body : List Stmt} {Q : Flow → Shared → Prop} {E : Value → Shared → Prop} {t : Addr} {to : Obj} {vs : List Value} {n : Nat} {m₀ : Str → Option Value} {news : List (Addr × Obj)}
    (stored : List Str) (J : Heap → Prop) (hh : A.handled = none) (hx : env.kindOf x = some .local)
    (hp : (env.scope.kind == .class || (env.scope.kind == .module && env.locals != env.globals)) = false)
    (F : Fr h₀ env.locals s.heap m₀) (N : News h₀ env.locals s.heap ((t, to) :: news)) (hc : to.cls = .type "tuple") (hd : to.data = .seq vs.toArray n) (hj : J h₀)
    (turn : ∀ v g (u : Str → Option Value) I io h tk, v ∈ vs → J g → Fr g env.locals h (fun y => if y = x then some v else if stored.contains y then u y else m₀ y) → News g env.locals h ((I, io) :: (t, to) :: news) →
      wpAny (model prog w) A (execs body env) (TupPost env.locals x stored m₀ ((I, io) :: (t, to) :: news) J s Q) E { s with heap := h, toks := tk })
    (done : ∀ g (u : Str → Option Value) h tk, J g → Fr g env.locals h (fun y => if y = x then u y else if stored.contains y then u y else m₀ y) → News g env.locals h news → Q .next { s with heap := h, toks := tk })
    (hE : PassesOwn (model prog w) A env E) :
    wpAny (model prog w) A (pyIter (.ref t)) (fun it s₂ => TupLoop prog w A env x px body Q E it s₂) E s := by
  have hax := N (t, to) (.head _)
  have hl : s.heap.IsTuple t vs.toArray := ⟨to, hax.1, hc, n, hd⟩
  have hne : t ≠ s.heap.objs.size := Nat.ne_of_lt (Heap.lt_size hax.1)
  refine wpAny_pyIter_tuple hl ?_
  unfold TupLoop
  have W := Walks.tuple (prog := prog) (w := w) hh s.heap.objs.size t hne vs.toArray
  have hLI : env.locals ≠ s.heap.objs.size := Nat.ne_of_lt F.ns.lt
  refine codeAny_forLoop
    (fun k s' => ∃ i h tk g m io, s' = { s with heap := h, toks := tk } ∧ i ≤ vs.toArray.size ∧ k = vs.toArray.size + 1 - i ∧ (h.IsTupleIter s.heap.objs.size t i ∧ h.IsTuple t vs.toArray) ∧ Fr g env.locals h m ∧
      News g env.locals h ((s.heap.objs.size, io) :: (t, to) :: news) ∧ (∀ p ∈ (t, to) :: news, p.1 ≠ s.heap.objs.size) ∧ (∀ z, z ≠ x → stored.contains z = false → m z = m₀ z) ∧ J g) ?_ (vs.toArray.size + 1)
    ⟨0, _, _, h₀, m₀, { cls := .type "tuple_iterator", data := .fields #[.ref t, .int 0 0] }, rfl, Nat.zero_le _, rfl, ⟨⟨_, Heap.get?_push_size _ rfl, rfl, rfl⟩, hl.at fun o e => Heap.get?_push_of_some _ e⟩, F.push _, fun p hp => ?_, fun p hp e => absurd (Heap.lt_size (N p hp).1) (e ▸ Nat.lt_irrefl _), fun _ _ _ => rfl, hj⟩
  rotate_left
  · rcases List.mem_cons.mp hp with rfl | hp
    · exact ⟨Heap.get?_push_size _ rfl, Ne.symm hLI, next_is_new F⟩
    · exact ⟨Heap.get?_push_of_some _ (N p hp).1, (N p hp).2⟩
  rintro k s' ⟨i, h, tk, g, m, io, rfl, hi, rfl, hst, F', N', hoff, hm, hJ⟩
  have next : ∀ h₁ : Heap, (∀ b o, b ∉ [s.heap.objs.size] → h.get? b = some o → h₁.get? b = some o) → Fr g env.locals h₁ m ∧ News g env.locals h₁ ((t, to) :: news) := fun h₁ hk₁ =>
    ⟨⟨F'.ns.at' fun o e => hk₁ _ o (by simpa using hLI) e, fun b o e => hk₁ b o (fun hb => by
        have h1 := (N' _ (.head _)).2.2
        rw [List.mem_singleton.mp hb, h1] at e; cases e) (F'.keep b o e), F'.above⟩, fun p hp => ⟨hk₁ _ _ (by simpa using hoff p hp) (N' p (.tail _ hp)).1, (N' p (.tail _ hp)).2⟩⟩
  by_cases hlt : i < vs.toArray.size
  · refine W.item i _ _ _ hlt hst fun v h₁ tk₁ hP hst₁ hk₁ => ?_
    obtain ⟨F₁, N₁⟩ := next h₁ hk₁
    have NI : ∃ io₁, h₁.get? s.heap.objs.size = some io₁ := by
      obtain ⟨o, ho, _⟩ := hst₁.1
      exact ⟨o, ho⟩
    obtain ⟨io₁, hio₁⟩ := NI
    refine wpAny_assign_Name (wpAny_storeName_local hx F₁.ns (fun h₂ hn₂ hs₂ => ?_) hp)
    have F₂ := F₁.set hn₂ hs₂
    have em : (fun y => if y = x then some v else m y) = fun y => if y = x then some v else if stored.contains y then m y else m₀ y := by
      funext y
      by_cases h1 : y = x
      · simp [h1]
      · cases h2 : stored.contains y with
        | true => simp [h1]
        | false => simp only [if_neg h1, Bool.false_eq_true, if_false]; exact hm y h1 h2
    rw [em] at F₂
    have N₂ : News g env.locals h₂ ((s.heap.objs.size, io₁) :: (t, to) :: news) := fun p hp => by
      rcases List.mem_cons.mp hp with rfl | hp
      · exact ⟨(hs₂.2 _ (Ne.symm hLI)).trans hio₁, (N' _ (.head _)).2⟩
      · exact (N₁.set hs₂) p hp
    have hv : v ∈ vs := by
      have : vs.toArray[i]? = some v := hP
      rw [List.getElem?_toArray] at this
      exact List.mem_of_getElem? this
    refine wpAny_mono (wpAny_passesOwn hE (turn v g m _ io₁ h₂ _ hv hJ F₂ N₂)) (fun f s₃ h₃ => ?_) fun _ _ e => e
    have fin : TupEnd env.locals x stored m₀ ((s.heap.objs.size, io₁) :: (t, to) :: news) J s s₃ → ∃ k', k' < vs.toArray.size + 1 - i ∧ ∃ i h tk g m io, s₃ = { s with heap := h, toks := tk } ∧ i ≤ vs.toArray.size ∧ k' = vs.toArray.size + 1 - i ∧ (h.IsTupleIter s.heap.objs.size t i ∧ h.IsTuple t vs.toArray) ∧ Fr g env.locals h m ∧
      News g env.locals h ((s.heap.objs.size, io) :: (t, to) :: news) ∧ (∀ p ∈ (t, to) :: news, p.1 ≠ s.heap.objs.size) ∧ (∀ z, z ≠ x → stored.contains z = false → m z = m₀ z) ∧ J g := by
      clear h₃
      rintro ⟨g₃, h₃, tk₃, m₃, rfl, F₃, N₃, hm₃, hJ₃⟩
      refine ⟨vs.toArray.size + 1 - (i + 1), by omega, i + 1, h₃, tk₃, g₃, m₃, io₁, rfl, hlt, rfl, ?_, F₃, N₃, hoff, hm₃, hJ₃⟩
      refine W.frame (i + 1) h₁ h₃ hst₁ fun b hb o e => ?_
      have hb' : b = s.heap.objs.size ∨ b = t := by simpa using hb
      rcases hb' with rfl | rfl
      · rw [hio₁] at e; cases e; exact (N₃ _ (.head _)).1
      · have e1 := (N₁ _ (.head _)).1
        rw [e1] at e; cases e; exact (N₃ _ (.tail _ (.head _))).1
    cases f with
    | ret v => exact h₃
    | brk => exact h₃
    | next => exact fin h₃
    | cont => exact fin h₃
  · have hin : i = vs.toArray.size := by omega
    subst hin
    refine W.done _ _ _ hst fun h₁ tk₁ hk₁ => wpAny_execs_nil ?_
    obtain ⟨F₁, N₁⟩ := next h₁ hk₁
    refine done g m h₁ tk₁ hJ ?_ (fun p hp => N₁ p (.tail _ hp))
    have em : m = fun y => if y = x then m y else if stored.contains y then m y else m₀ y := by
      funext y
      by_cases h1 : y = x
      · simp [h1]
      · cases h2 : stored.contains y with
        | true => simp
        | false => simp only [if_neg h1, Bool.false_eq_true, if_false]; exact hm y h1 h2
    rw [em] at F₁
    exact F₁
end
end Mine
end
section
open PySem PySem.W PyProof.Rows PySem.Calls PySem.Spec
set_option Elab.async false
set_option maxRecDepth 100000
set_option maxHeartbeats 8000000
namespace Mine
/-- where the walk is to halt -/
def Stop (P : Prop) : Prop := P
theorem stop_here {P : Prop} (h : Stop P) : P := h
/-- a statement that goes on and keeps the frame -/
def JN (h₀ : Heap) (L : Addr) (m : Str → Option Value) (news : List (Addr × Obj)) (s : Shared) (f : Flow) (s' : Shared) : Prop :=
  f = .next ∧ ∃ h' tk', s' = { s with heap := h', toks := tk' } ∧ Fr h₀ L h' m ∧ News h₀ L h' news
/-- an expression that gives an int of a kind -/
def JV (h₀ : Heap) (L : Addr) (m : Str → Option Value) (news : List (Addr × Obj)) (P : Int → Prop) (s : Shared) (v : Value) (s' : Shared) : Prop :=
  ∃ r t h' tk', v = .int r t ∧ P r ∧ s' = { s with heap := h', toks := tk' } ∧ Fr h₀ L h' m ∧ News h₀ L h' news
section
variable {M : Model} {A : Around} {E : Value → Shared → Prop} {s : Shared} {h₀ : Heap} {L : Addr} {m : Str → Option Value} {news : List (Addr × Obj)}
theorem join_if {t : Sem Flow} {Q : Flow → Shared → Prop} (_F : Fr h₀ L s.heap m) (_N : News h₀ L s.heap news) (h1 : Stop (wpAny M A t (JN h₀ L m news s) E s))
    (h2 : ∀ h' tk', Fr h₀ L h' m → News h₀ L h' news → Q .next { s with heap := h', toks := tk' }) : wpAny M A t Q E s := by
  refine wpAny_mono h1 (fun f s' hj => ?_) fun _ _ e => e
  obtain ⟨rfl, h', tk', rfl, F', N'⟩ := hj
  exact h2 h' tk' F' N'
theorem join_int {t : Sem Value} {Q : Value → Shared → Prop} (P : Int → Prop) (_F : Fr h₀ L s.heap m) (_N : News h₀ L s.heap news) (h1 : Stop (wpAny M A t (JV h₀ L m news P s) E s))
    (h2 : ∀ r u h' tk', P r → Fr h₀ L h' m → News h₀ L h' news → Q (.int r u) { s with heap := h', toks := tk' }) : wpAny M A t Q E s := by
  refine wpAny_mono h1 (fun v s' hj => ?_) fun _ _ e => e
  obtain ⟨r, u, h', tk', rfl, hp, rfl, F', N'⟩ := hj
  exact h2 r u h' tk' hp F' N'
theorem jn_end {h' : Heap} {tk' : Nat} {news' : List (Addr × Obj)} (F : Fr h₀ L h' m) (N : News h₀ L h' news') (hs : ∀ p ∈ news, p ∈ news') : JN h₀ L m news s .next { s with heap := h', toks := tk' } :=
  ⟨rfl, h', tk', rfl, F, fun p hp => N p (hs p hp)⟩
theorem jv_end {P : Int → Prop} {r : Int} {u : Tok} {h' : Heap} {tk' : Nat} {news' : List (Addr × Obj)} (F : Fr h₀ L h' m) (N : News h₀ L h' news') (hs : ∀ p ∈ news, p ∈ news') (hp : P r) : JV h₀ L m news P s (.int r u) { s with heap := h', toks := tk' } :=
  ⟨r, u, h', tk', rfl, hp, rfl, F, fun p hp => N p (hs p hp)⟩
end
section
variable {prog : Program} {w : World} {A : Around} {E : Value → Shared → Prop} {s : Shared} {env : Env} {h₀ : Heap} {x : Str} {body : List Stmt} {Q : Flow → Shared → Prop} {led : List (Addr × Obj)} {m₀ : Str → Option Value}
theorem to_inv {own : List (Addr × Obj)} {s₁ : Shared} {stored : List Str} {h : Heap} {tk : Nat} (pre : List Int) {f : Flow} {s₂ : Shared}
    (p : TupPost env.locals x stored m₀ (led ++ own) (fun g => g = h₀) s Q f s₂) :
    InvPostN h₀ env.locals (KstS (fun _ : Unit => led) (fun _ => []) (fun _ => True) x stored m₀ (fun _ _ => True) pre) own (led.map (·.1)) { s with heap := h, toks := tk } Q f s₂ := by
  have fin : TupEnd env.locals x stored m₀ (led ++ own) (fun g => g = h₀) s s₂ → InvEndN h₀ env.locals (KstS (fun _ : Unit => led) (fun _ => []) (fun _ => True) x stored m₀ (fun _ _ => True) pre) own (led.map (·.1)) { s with heap := h, toks := tk } s₂ := by
    rintro ⟨g, h', tk', m, rfl, F', N', hm, rfl⟩
    exact ⟨h', tk', m, led ++ own, led, rfl, F', N', fun p hp => List.mem_append_left _ hp, fun p hp => List.mem_append_right _ hp, rfl, (), rfl, trivial, fun p hp => absurd hp List.not_mem_nil, fun z h1 _ h3 => hm z h1 h3, trivial⟩
  cases f with
  | ret v => exact p
  | brk => exact p
  | next => exact fin p
  | cont => exact fin p
theorem list_loop {l : Addr} {vs : List Value} {ns : List Int} {nn : Nat} (stored : List Str)
    (hh : A.handled = none) (hl : (l, listOf vs.toArray nn) ∈ led) (hi : IntsAre vs ns) (F : Fr h₀ env.locals s.heap m₀) (N : News h₀ env.locals s.heap led)
    (turn : ∀ n t (u : Str → Option Value) h tk own, OwnOff own (led.map (·.1)) → Fr h₀ env.locals h (fun y => if y = x then some (.int n t) else if stored.contains y then u y else m₀ y) → News h₀ env.locals h (led ++ own) →
      wpAny (model prog w) A (execs body env) (TupPost env.locals x stored m₀ (led ++ own) (fun g => g = h₀) s Q) E { s with heap := h, toks := tk })
    (done : ∀ (u : Str → Option Value) h tk, Fr h₀ env.locals h (fun y => if y = x then u y else if stored.contains y then u y else m₀ y) → News h₀ env.locals h led → Q .next { s with heap := h, toks := tk }) :
    wpAny (model prog w) A (pyIter (.ref l)) (fun it s₂ => LoopAtV prog w A h₀ env x body Q E it s₂) E s := by
  refine kst_listL (σ := Unit) (fun _ => led) (fun _ => []) (fun _ => True) stored (fun _ _ => True) () hh (fun _ => hl) hi F N trivial (fun p hp => absurd hp List.not_mem_nil) trivial ?_ ?_
  · intro _ pre post n t u h tk own _ _ hoff _ _ F' N'
    exact wpAny_mono (turn n t u h tk own hoff F' N') (fun f s₂ p => to_inv (s₁ := s) _ p) fun _ _ e => e
  · intro _ u h tk _ _ F' N'
    exact done u h tk F' N'
theorem range_loop {r : Addr} {a₀ b₀ : Int} {t₀ u₀ v₀ : Tok} {n : Nat} (stored : List Str)
    (hh : A.handled = none) (hr : IsRange s.heap r a₀ b₀ 1 t₀ u₀ v₀) (hsmall : Builtin.Range.small a₀ b₀ 1 = true) (hn : Builtin.Range.rangeSize a₀ b₀ 1 = (n : Int)) (F : Fr h₀ env.locals s.heap m₀) (N : News h₀ env.locals s.heap led)
    (turn : ∀ k t (u : Str → Option Value) h tk own, a₀ ≤ k → k < a₀ + n → OwnOff own (led.map (·.1)) → Fr h₀ env.locals h (fun y => if y = x then some (.int k t) else if stored.contains y then u y else m₀ y) → News h₀ env.locals h (led ++ own) →
      wpAny (model prog w) A (execs body env) (TupPost env.locals x stored m₀ (led ++ own) (fun g => g = h₀) s Q) E { s with heap := h, toks := tk })
    (done : ∀ (u : Str → Option Value) h tk, Fr h₀ env.locals h (fun y => if y = x then u y else if stored.contains y then u y else m₀ y) → News h₀ env.locals h led → Q .next { s with heap := h, toks := tk }) :
    wpAny (model prog w) A (pyIter (.ref r)) (fun it s₂ => LoopAtV prog w A h₀ env x body Q E it s₂) E s := by
  refine kst_range (σ := Unit) (fun _ => led) (fun _ => []) (fun _ => True) stored (fun _ _ => True) () hh hr hsmall hn F N trivial (fun p hp => absurd hp List.not_mem_nil) trivial ?_ ?_
  · intro _ pre k t u h tk own hk hlt hoff _ _ F' N'
    exact wpAny_mono (turn k t u h tk own (by omega) (by omega) hoff F' N') (fun f s₂ p => to_inv (s₁ := s) _ p) fun _ _ e => e
  · intro _ u h tk _ _ F' N'
    exact done u h tk F' N'
end
end Mine
end
section
open PySem PySem.W PyProof.Rows PySem.Calls
set_option Elab.async false
set_option maxRecDepth 100000
set_option maxHeartbeats 8000000
set_option rowWalk.seconds 0
namespace Mine
theorem end_b {h₀ h' : Heap} {L : Addr} {m : Str → Option Value} {news news' : List (Addr × Obj)} {s : Shared} {Q : Value → Shared → Prop} {r r' : Bool} {tk' : Nat}
    (hret : ∀ h' tk', Fr h₀ L h' m → News h₀ L h' news → Q (.bool r) { s with heap := h', toks := tk' }) (e : r' = r) (F : Fr h₀ L h' m) (N : News h₀ L h' news') (hs : ∀ p ∈ news, p ∈ news') :
    Q (.bool r') { s with heap := h', toks := tk' } := by subst e; exact hret _ _ F fun p hp => N p (hs p hp)
theorem b_t {P : Prop} {r : Bool} (hr : P ↔ r = true) (h : P) : true = r := (hr.mp h).symm
theorem b_f {P : Prop} {r : Bool} (hr : P ↔ r = true) (h : ¬ P) : false = r := by cases r with | false => rfl | true => exact absurd (hr.mpr rfl) h
theorem b_eq {a b : Int} {r : Bool} (hr : a = b ↔ r = true) : (a == b) = r := by rw [Bool.eq_iff_iff, ← hr]; simp
theorem b_ne {a b : Int} {r : Bool} (hr : a ≠ b ↔ r = true) : (a != b) = r := by rw [Bool.eq_iff_iff, ← hr]; simp
local macro_rules | `(tactic| k_units) => `(tactic| ktr_units)
local macro_rules | `(tactic| k_room) => `(tactic| ktr_room)
local macro_rules | `(tactic| walk_at "call ref") => `(tactic| (k_here; k_dflt (refine wpAny_call ?_; ktr_enter)))
local macro_rules | `(tactic| walk_at "binaryOp Pow int int") => `(tactic| (with_reducible refine' pow_is ?k1 ?_ ?k2; (case k1 => assumption); (case k2 => rfl)))
local macro_rules | `(tactic| walk_at "binaryOp Mod int int") => `(tactic| (with_reducible refine' mod_is ?k1 ?_; (case k1 => assumption)))
local macro_rules | `(tactic| walk_at "ite") => `(tactic| (first | with_reducible refine ite_bne ?_ | with_reducible refine ite_beq ?_ | (with_reducible refine ite_dpos (by omega) ?_) | (with_reducible refine ite_dneg (by omega) ?_) | (with_reducible refine ite_dsplit ?_ ?_ <;> intro _)))
local macro_rules | `(tactic| k_mem) => `(tactic| first | assumption | exact mem_hd | (refine' mem_tl ?_; k_mem))
local macro_rules | `(tactic| k_steps) => `(tactic| repeat' (first | (k_unfold; (try dsimp only)) | (walk1 <;> try dsimp only) | fail "no step"))
theorem eq_c {w : World} {p : Program} {loose : List Str} {mean : ExcName → Option Value} {mg mb : Str → Option Value}
  {dp un : Nat} {gd : Option (List Code)} {cn : Str} {cs : Scope} {a : Addr} {ccd : Value} {cl : List (Str × Addr)} {outer : List Env} {A₀ : Around} {base h₀ : Heap} {L : Addr} {m : Str → Option Value} {news : List (Addr × Obj)} {s : Shared} {Q E : Value → Shared → Prop}
  {x : Addr} {v : Value} {A B bits c h : Int} {r : Bool}
  (BB : Below A₀ base outer h₀) (F : Fr h₀ L s.heap m) (X : (hd.heap_39 w.params).In h₀) (N : News h₀ L s.heap news) (T : Top p loose mean mg mb h₀) (hk : cs.kind = .function) (hd : dp + 8 < recursionLimit) (hu : un + 64 < cLine)
  (hS : SerIn w.params news x A bits) (hO : OthIs w.params news bits c B v) (hP : PowAt bits c) (hP1 : PowAt (bits - 1) h) (hr : Hide (A = B ↔ r = true))
  (hret : ∀ h' tk', Fr h₀ L h' m → News h₀ L h' news → Q (.bool r) { s with heap := h', toks := tk' }) :
  wpAny (model pw w) (ktrTop dp un gd cn cs L a ccd cl outer) (compareOp .Eq (.ref x) v) Q E s := by
  have fill : Mine.hd.heap_39 = Mine.hd.heap_39 ∧ PySem.Challenge.rw_fx0001_01 = PySem.Challenge.rw_fx0001_01 := by k_fill; exact ⟨rfl, rfl⟩
  clear fill
  w_on
  obtain ⟨dx, k1, k2, t1, t2, hx1, hx2⟩ := hS
  cases hO
  all_goals (w_strict (k_steps))
  all_goals (refine end_b hret (by first | exact b_t hr.out (by omega) | exact b_f hr.out (by omega) | exact b_eq hr.out | exact b_ne hr.out) (by k_asm) (by k_asm) (by intro p hp; first | exact hp | exact .tail _ hp | exact .tail _ (.tail _ hp)))
theorem ne_c {w : World} {p : Program} {loose : List Str} {mean : ExcName → Option Value} {mg mb : Str → Option Value}
  {dp un : Nat} {gd : Option (List Code)} {cn : Str} {cs : Scope} {a : Addr} {ccd : Value} {cl : List (Str × Addr)} {outer : List Env} {A₀ : Around} {base h₀ : Heap} {L : Addr} {m : Str → Option Value} {news : List (Addr × Obj)} {s : Shared} {Q E : Value → Shared → Prop}
  {x : Addr} {v : Value} {A B bits c h : Int} {r : Bool}
  (BB : Below A₀ base outer h₀) (F : Fr h₀ L s.heap m) (X : (hd.heap_39 w.params).In h₀) (N : News h₀ L s.heap news) (T : Top p loose mean mg mb h₀) (hk : cs.kind = .function) (hd : dp + 8 < recursionLimit) (hu : un + 64 < cLine)
  (hS : SerIn w.params news x A bits) (hO : OthIs w.params news bits c B v) (hP : PowAt bits c) (hP1 : PowAt (bits - 1) h) (hr : Hide (A ≠ B ↔ r = true))
  (hret : ∀ h' tk', Fr h₀ L h' m → News h₀ L h' news → Q (.bool r) { s with heap := h', toks := tk' }) :
  wpAny (model pw w) (ktrTop dp un gd cn cs L a ccd cl outer) (compareOp .NotEq (.ref x) v) Q E s := by
  have fill : Mine.hd.heap_39 = Mine.hd.heap_39 ∧ PySem.Challenge.rw_fx0001_01 = PySem.Challenge.rw_fx0001_01 := by k_fill; exact ⟨rfl, rfl⟩
  clear fill
  w_on
  obtain ⟨dx, k1, k2, t1, t2, hx1, hx2⟩ := hS
  cases hO
  all_goals (w_strict (k_steps))
  all_goals (refine end_b hret (by first | exact b_t hr.out (by omega) | exact b_f hr.out (by omega) | exact b_eq hr.out | exact b_ne hr.out) (by k_asm) (by k_asm) (by intro p hp; first | exact hp | exact .tail _ hp | exact .tail _ (.tail _ hp)))
theorem lt_c {w : World} {p : Program} {loose : List Str} {mean : ExcName → Option Value} {mg mb : Str → Option Value}
  {dp un : Nat} {gd : Option (List Code)} {cn : Str} {cs : Scope} {a : Addr} {ccd : Value} {cl : List (Str × Addr)} {outer : List Env} {A₀ : Around} {base h₀ : Heap} {L : Addr} {m : Str → Option Value} {news : List (Addr × Obj)} {s : Shared} {Q E : Value → Shared → Prop}
  {x : Addr} {v : Value} {A B bits c h : Int} {r : Bool}
  (BB : Below A₀ base outer h₀) (F : Fr h₀ L s.heap m) (X : (hd.heap_39 w.params).In h₀) (N : News h₀ L s.heap news) (T : Top p loose mean mg mb h₀) (hk : cs.kind = .function) (hd : dp + 8 < recursionLimit) (hu : un + 64 < cLine)
  (hS : SerIn w.params news x A bits) (hO : OthIs w.params news bits c B v) (hP : PowAt bits c) (hP1 : PowAt (bits - 1) h) (hr : Hide ((A < B ∧ B - A < h ∨ B < A ∧ h < A - B) ↔ r = true))
  (hret : ∀ h' tk', Fr h₀ L h' m → News h₀ L h' news → Q (.bool r) { s with heap := h', toks := tk' }) :
  wpAny (model pw w) (ktrTop dp un gd cn cs L a ccd cl outer) (compareOp .Lt (.ref x) v) Q E s := by
  have fill : Mine.hd.heap_39 = Mine.hd.heap_39 ∧ PySem.Challenge.rw_fx0001_01 = PySem.Challenge.rw_fx0001_01 := by k_fill; exact ⟨rfl, rfl⟩
  clear fill
  w_on
  obtain ⟨dx, k1, k2, t1, t2, hx1, hx2⟩ := hS
  cases hO
  all_goals (w_strict (k_steps))
  all_goals (refine end_b hret (by first | exact b_t hr.out (by omega) | exact b_f hr.out (by omega) | exact b_eq hr.out | exact b_ne hr.out) (by k_asm) (by k_asm) (by intro p hp; first | exact hp | exact .tail _ hp | exact .tail _ (.tail _ hp)))
theorem gt_c {w : World} {p : Program} {loose : List Str} {mean : ExcName → Option Value} {mg mb : Str → Option Value}
  {dp un : Nat} {gd : Option (List Code)} {cn : Str} {cs : Scope} {a : Addr} {ccd : Value} {cl : List (Str × Addr)} {outer : List Env} {A₀ : Around} {base h₀ : Heap} {L : Addr} {m : Str → Option Value} {news : List (Addr × Obj)} {s : Shared} {Q E : Value → Shared → Prop}
  {x : Addr} {v : Value} {A B bits c h : Int} {r : Bool}
  (BB : Below A₀ base outer h₀) (F : Fr h₀ L s.heap m) (X : (hd.heap_39 w.params).In h₀) (N : News h₀ L s.heap news) (T : Top p loose mean mg mb h₀) (hk : cs.kind = .function) (hd : dp + 8 < recursionLimit) (hu : un + 64 < cLine)
  (hS : SerIn w.params news x A bits) (hO : OthIs w.params news bits c B v) (hP : PowAt bits c) (hP1 : PowAt (bits - 1) h) (hr : Hide ((A < B ∧ h < B - A ∨ B < A ∧ A - B < h) ↔ r = true))
  (hret : ∀ h' tk', Fr h₀ L h' m → News h₀ L h' news → Q (.bool r) { s with heap := h', toks := tk' }) :
  wpAny (model pw w) (ktrTop dp un gd cn cs L a ccd cl outer) (compareOp .Gt (.ref x) v) Q E s := by
  have fill : Mine.hd.heap_39 = Mine.hd.heap_39 ∧ PySem.Challenge.rw_fx0001_01 = PySem.Challenge.rw_fx0001_01 := by k_fill; exact ⟨rfl, rfl⟩
  clear fill
  w_on
  obtain ⟨dx, k1, k2, t1, t2, hx1, hx2⟩ := hS
  cases hO
  all_goals (w_strict (k_steps))
  all_goals (refine end_b hret (by first | exact b_t hr.out (by omega) | exact b_f hr.out (by omega) | exact b_eq hr.out | exact b_ne hr.out) (by k_asm) (by k_asm) (by intro p hp; first | exact hp | exact .tail _ hp | exact .tail _ (.tail _ hp)))
end Mine
end
section
open PySem PySem.W PyProof.Rows PySem.Calls
set_option Elab.async false
set_option maxRecDepth 100000
set_option maxHeartbeats 8000000
set_option rowWalk.seconds 0
namespace Mine
local macro_rules | `(tactic| k_units) => `(tactic| ktr_units)
local macro_rules | `(tactic| k_room) => `(tactic| ktr_room)
local macro_rules | `(tactic| walk_at "call ref") => `(tactic| (k_here; k_dflt (refine wpAny_call ?_; ktr_enter)))
local macro_rules | `(tactic| walk_at "binaryOp Pow int int") => `(tactic| (with_reducible refine' pow_is ?k1 ?_ ?k2; (case k1 => assumption); (case k2 => rfl)))
local macro_rules | `(tactic| walk_at "binaryOp Mod int int") => `(tactic| (with_reducible refine' mod_is ?k1 ?_; (case k1 => assumption)))
local macro_rules | `(tactic| walk_at "ite") => `(tactic| (first | with_reducible refine ite_tt ?_ | with_reducible refine ite_ff ?_ | with_reducible refine ite_bne ?_ | with_reducible refine ite_beq ?_ | (with_reducible refine ite_dpos (by omega) ?_) | (with_reducible refine ite_dneg (by omega) ?_) | (with_reducible refine ite_dsplit ?_ ?_ <;> intro _)))
local macro_rules | `(tactic| walk_at "exec Raise some none") => `(tactic| (k_here; (with_reducible show wpAny _ _ (exec (Stmt.Raise (some (Expr.Name _ _)) none _) _) _ _ _); (with_reducible rename Fr _ _ _ _ => kF); k_dflt (refine' Raise_classB rfl excClass_ValueError ?hs ?hx ?_; (case hs => rw [isSubtype_type]; kernel_rfl); (case hx => (refine' name_B kF ?k1 ?k2 ?k3 ?k4 ?k5 ?_; (case k1 => k_asm); (case k2 => k_asm); (case k3 => k_is); (case k4 => boot_by_name); (case k5 => decide); exact ⟨rfl, rfl⟩))); intro h' e' x'))
local macro_rules | `(tactic| k_in) => `(tactic| first | with_reducible assumption | exact Frag.In.keeps (by with_reducible assumption) (Fr.keep (by with_reducible assumption)))
local macro_rules | `(tactic| walk_at "call builtin:isinstance") => `(tactic| (k_here; (with_reducible show wpAny _ _ (call _ [Value.int _ _, Value.ref _]) _ _ _); k_dflt (refine' isn_call (P := fun _ => True) ?k1 ?k2 ?k3 ?k4 ?k5 int_cls ?_; (case k1 => k_in); (case k2 => (intro M; exact Looks.of_pure rfl)); (case k3 => k_not); (case k4 => intro e; cases e); (case k5 => trivial); k_whole)))
local macro_rules | `(tactic| walk_at "call builtin:isinstance") => `(tactic| (k_here; (with_reducible show wpAny _ _ (call _ [Value.ref _, Value.ref _]) _ _ _); k_dflt (refine' isi_call ?k1 ?k2 ?k3 ?k4 ?_; (case k1 => k_in); (case k2 => (intro M; exact InstAt.type (by k_inst))); (case k3 => k_is); (case k4 => intro e; cases e); k_whole)))
local macro_rules | `(tactic| k_mem) => `(tactic| first | with_reducible assumption | exact mem_hd | (refine' mem_tl ?_; k_mem))
local macro_rules | `(tactic| k_steps) => `(tactic| repeat' (first | (k_unfold; (try dsimp only)) | (walk1 <;> try dsimp only) | fail "no step"))
local macro_rules | `(tactic| walk_at "compareOp Eq ref ref") => `(tactic| (k_here; k_dflt (refine' eq_c ?k1 ?k2 ?k3 ?k4 ?k5 ?kK ?kd ?ku ?kS ?kO ?kP ?kQ ?kr ?_; (case k1 => k_asm); (case k2 => k_asm); (case k3 => k_asm); (case k4 => k_asm); (case k5 => k_asm); (case kK => first | exact rfl | assumption); (case kd => ktr_room); (case ku => ktr_units); (case kS => assumption); (case kO => assumption); (case kP => assumption); (case kQ => assumption); (case kr => assumption); k_whole; intro h9 tk9 F9 N9)))
local macro_rules | `(tactic| walk_at "compareOp Eq ref int") => `(tactic| (k_here; k_dflt (refine' eq_c ?k1 ?k2 ?k3 ?k4 ?k5 ?kK ?kd ?ku ?kS ?kO ?kP ?kQ ?kr ?_; (case k1 => k_asm); (case k2 => k_asm); (case k3 => k_asm); (case k4 => k_asm); (case k5 => k_asm); (case kK => first | exact rfl | assumption); (case kd => ktr_room); (case ku => ktr_units); (case kS => assumption); (case kO => assumption); (case kP => assumption); (case kQ => assumption); (case kr => assumption); k_whole; intro h9 tk9 F9 N9)))
local macro_rules | `(tactic| walk_at "compareOp Eq ref") => `(tactic| (k_here; k_dflt (refine' eq_c ?k1 ?k2 ?k3 ?k4 ?k5 ?kK ?kd ?ku ?kS ?kO ?kP ?kQ ?kr ?_; (case k1 => k_asm); (case k2 => k_asm); (case k3 => k_asm); (case k4 => k_asm); (case k5 => k_asm); (case kK => first | exact rfl | assumption); (case kd => ktr_room); (case ku => ktr_units); (case kS => assumption); (case kO => assumption); (case kP => assumption); (case kQ => assumption); (case kr => assumption); k_whole; intro h9 tk9 F9 N9)))
local macro_rules | `(tactic| walk_at "compareOp Lt ref ref") => `(tactic| (k_here; k_dflt (refine' lt_c ?k1 ?k2 ?k3 ?k4 ?k5 ?kK ?kd ?ku ?kS ?kO ?kP ?kQ ?kr ?_; (case k1 => k_asm); (case k2 => k_asm); (case k3 => k_asm); (case k4 => k_asm); (case k5 => k_asm); (case kK => first | exact rfl | assumption); (case kd => ktr_room); (case ku => ktr_units); (case kS => assumption); (case kO => assumption); (case kP => assumption); (case kQ => assumption); (case kr => assumption); k_whole; intro h9 tk9 F9 N9)))
local macro_rules | `(tactic| walk_at "compareOp Lt ref int") => `(tactic| (k_here; k_dflt (refine' lt_c ?k1 ?k2 ?k3 ?k4 ?k5 ?kK ?kd ?ku ?kS ?kO ?kP ?kQ ?kr ?_; (case k1 => k_asm); (case k2 => k_asm); (case k3 => k_asm); (case k4 => k_asm); (case k5 => k_asm); (case kK => first | exact rfl | assumption); (case kd => ktr_room); (case ku => ktr_units); (case kS => assumption); (case kO => assumption); (case kP => assumption); (case kQ => assumption); (case kr => assumption); k_whole; intro h9 tk9 F9 N9)))
local macro_rules | `(tactic| walk_at "compareOp Lt ref") => `(tactic| (k_here; k_dflt (refine' lt_c ?k1 ?k2 ?k3 ?k4 ?k5 ?kK ?kd ?ku ?kS ?kO ?kP ?kQ ?kr ?_; (case k1 => k_asm); (case k2 => k_asm); (case k3 => k_asm); (case k4 => k_asm); (case k5 => k_asm); (case kK => first | exact rfl | assumption); (case kd => ktr_room); (case ku => ktr_units); (case kS => assumption); (case kO => assumption); (case kP => assumption); (case kQ => assumption); (case kr => assumption); k_whole; intro h9 tk9 F9 N9)))
local macro_rules | `(tactic| walk_at "compareOp Gt ref ref") => `(tactic| (k_here; k_dflt (refine' gt_c ?k1 ?k2 ?k3 ?k4 ?k5 ?kK ?kd ?ku ?kS ?kO ?kP ?kQ ?kr ?_; (case k1 => k_asm); (case k2 => k_asm); (case k3 => k_asm); (case k4 => k_asm); (case k5 => k_asm); (case kK => first | exact rfl | assumption); (case kd => ktr_room); (case ku => ktr_units); (case kS => assumption); (case kO => assumption); (case kP => assumption); (case kQ => assumption); (case kr => assumption); k_whole; intro h9 tk9 F9 N9)))
local macro_rules | `(tactic| walk_at "compareOp Gt ref int") => `(tactic| (k_here; k_dflt (refine' gt_c ?k1 ?k2 ?k3 ?k4 ?k5 ?kK ?kd ?ku ?kS ?kO ?kP ?kQ ?kr ?_; (case k1 => k_asm); (case k2 => k_asm); (case k3 => k_asm); (case k4 => k_asm); (case k5 => k_asm); (case kK => first | exact rfl | assumption); (case kd => ktr_room); (case ku => ktr_units); (case kS => assumption); (case kO => assumption); (case kP => assumption); (case kQ => assumption); (case kr => assumption); k_whole; intro h9 tk9 F9 N9)))
local macro_rules | `(tactic| walk_at "compareOp Gt ref") => `(tactic| (k_here; k_dflt (refine' gt_c ?k1 ?k2 ?k3 ?k4 ?k5 ?kK ?kd ?ku ?kS ?kO ?kP ?kQ ?kr ?_; (case k1 => k_asm); (case k2 => k_asm); (case k3 => k_asm); (case k4 => k_asm); (case k5 => k_asm); (case kK => first | exact rfl | assumption); (case kd => ktr_room); (case ku => ktr_units); (case kS => assumption); (case kO => assumption); (case kP => assumption); (case kQ => assumption); (case kr => assumption); k_whole; intro h9 tk9 F9 N9)))
theorem le_c {w : World} {p : Program} {loose : List Str} {mean : ExcName → Option Value} {mg mb : Str → Option Value}
  {dp un : Nat} {gd : Option (List Code)} {cn : Str} {cs : Scope} {a : Addr} {ccd : Value} {cl : List (Str × Addr)} {outer : List Env} {A₀ : Around} {base h₀ : Heap} {L : Addr} {m : Str → Option Value} {news : List (Addr × Obj)} {s : Shared} {Q E : Value → Shared → Prop}
  {x : Addr} {v : Value} {A B bits c h : Int} {r : Bool}
  (BB : Below A₀ base outer h₀) (F : Fr h₀ L s.heap m) (X : (Mine.hd.heap_39 w.params).In h₀) (N : News h₀ L s.heap news) (T : Top p loose mean mg mb h₀) (hk : cs.kind = .function) (hd : dp + 16 < recursionLimit) (hu : un + 128 < cLine)
  (hS : SerIn w.params news x A bits) (hO : OthIs w.params news bits c B v) (hP : PowAt bits c) (hP1 : PowAt (bits - 1) h) (hr : Hide ((A = B ∨ (A < B ∧ B - A < h ∨ B < A ∧ h < A - B)) ↔ r = true))
  (hret : ∀ h' tk', Fr h₀ L h' m → News h₀ L h' news → Q (.bool r) { s with heap := h', toks := tk' }) :
  wpAny (model pw w) (ktrTop dp un gd cn cs L a ccd cl outer) (compareOp .LtE (.ref x) v) Q E s := by
  have fill : Mine.hd.heap_39 = Mine.hd.heap_39 ∧ PySem.Challenge.rw_fx0001_01 = PySem.Challenge.rw_fx0001_01 := by k_fill; exact ⟨rfl, rfl⟩
  clear fill
  w_on
  obtain ⟨dx, k1, k2, t1, t2, hx1, hx2⟩ := id hS
  have step : ∀ e l : Bool, Hide (A = B ↔ e = true) → Hide ((A < B ∧ B - A < h ∨ B < A ∧ h < A - B) ↔ l = true) → (e || l) = r →
      wpAny (model pw w) (ktrTop dp un gd cn cs L a ccd cl outer) (compareOp .LtE (.ref x) v) Q E s := by
    intro e l he hl er
    cases e <;> cases l <;> simp only [Bool.or_true, Bool.or_false] at er <;> subst er
    all_goals cases id hO
    all_goals (w_strict (k_steps))
    all_goals (refine end_b hret rfl (by k_asm) (by k_asm) (fun p hp => hp))
  by_cases q1 : A = B
  · exact step true false ⟨iff_of_true q1 rfl⟩ ⟨iff_of_false (by omega) Bool.false_ne_true⟩ (hr.out.mp (.inl q1)).symm
  · by_cases q2 : (A < B ∧ B - A < h ∨ B < A ∧ h < A - B)
    · exact step false true ⟨iff_of_false q1 Bool.false_ne_true⟩ ⟨iff_of_true q2 rfl⟩ (hr.out.mp (.inr q2)).symm
    · refine step false false ⟨iff_of_false q1 Bool.false_ne_true⟩ ⟨iff_of_false q2 Bool.false_ne_true⟩ ?_
      cases r with
      | false => rfl
      | true => exact absurd (hr.out.mpr rfl) (fun q => q.elim q1 q2)
theorem ge_c {w : World} {p : Program} {loose : List Str} {mean : ExcName → Option Value} {mg mb : Str → Option Value}
  {dp un : Nat} {gd : Option (List Code)} {cn : Str} {cs : Scope} {a : Addr} {ccd : Value} {cl : List (Str × Addr)} {outer : List Env} {A₀ : Around} {base h₀ : Heap} {L : Addr} {m : Str → Option Value} {news : List (Addr × Obj)} {s : Shared} {Q E : Value → Shared → Prop}
  {x : Addr} {v : Value} {A B bits c h : Int} {r : Bool}
  (BB : Below A₀ base outer h₀) (F : Fr h₀ L s.heap m) (X : (Mine.hd.heap_39 w.params).In h₀) (N : News h₀ L s.heap news) (T : Top p loose mean mg mb h₀) (hk : cs.kind = .function) (hd : dp + 16 < recursionLimit) (hu : un + 128 < cLine)
  (hS : SerIn w.params news x A bits) (hO : OthIs w.params news bits c B v) (hP : PowAt bits c) (hP1 : PowAt (bits - 1) h) (hr : Hide ((A = B ∨ (A < B ∧ h < B - A ∨ B < A ∧ A - B < h)) ↔ r = true))
  (hret : ∀ h' tk', Fr h₀ L h' m → News h₀ L h' news → Q (.bool r) { s with heap := h', toks := tk' }) :
  wpAny (model pw w) (ktrTop dp un gd cn cs L a ccd cl outer) (compareOp .GtE (.ref x) v) Q E s := by
  have fill : Mine.hd.heap_39 = Mine.hd.heap_39 ∧ PySem.Challenge.rw_fx0001_01 = PySem.Challenge.rw_fx0001_01 := by k_fill; exact ⟨rfl, rfl⟩
  clear fill
  w_on
  obtain ⟨dx, k1, k2, t1, t2, hx1, hx2⟩ := id hS
  have step : ∀ e l : Bool, Hide (A = B ↔ e = true) → Hide ((A < B ∧ h < B - A ∨ B < A ∧ A - B < h) ↔ l = true) → (e || l) = r →
      wpAny (model pw w) (ktrTop dp un gd cn cs L a ccd cl outer) (compareOp .GtE (.ref x) v) Q E s := by
    intro e l he hl er
    cases e <;> cases l <;> simp only [Bool.or_true, Bool.or_false] at er <;> subst er
    all_goals cases id hO
    all_goals (w_strict (k_steps))
    all_goals (refine end_b hret rfl (by k_asm) (by k_asm) (fun p hp => hp))
  by_cases q1 : A = B
  · exact step true false ⟨iff_of_true q1 rfl⟩ ⟨iff_of_false (by omega) Bool.false_ne_true⟩ (hr.out.mp (.inl q1)).symm
  · by_cases q2 : (A < B ∧ h < B - A ∨ B < A ∧ A - B < h)
    · exact step false true ⟨iff_of_false q1 Bool.false_ne_true⟩ ⟨iff_of_true q2 rfl⟩ (hr.out.mp (.inr q2)).symm
    · refine step false false ⟨iff_of_false q1 Bool.false_ne_true⟩ ⟨iff_of_false q2 Bool.false_ne_true⟩ ?_
      cases r with
      | false => rfl
      | true => exact absurd (hr.out.mpr rfl) (fun q => q.elim q1 q2)
end Mine
end
section
open PySem PySem.W PyProof.Rows PySem.Calls
set_option Elab.async false
set_option maxRecDepth 100000
set_option maxHeartbeats 8000000
set_option rowWalk.seconds 0
namespace Mine
theorem end_i {h₀ h' : Heap} {L : Addr} {m : Str → Option Value} {news news' : List (Addr × Obj)} {s : Shared} {Q : Value → Shared → Prop} {r r' : Int} {tk' : Nat} {t : Tok}
    (hret : ∀ t h' tk', Fr h₀ L h' m → News h₀ L h' news → Q (.int r t) { s with heap := h', toks := tk' }) (e : r' = r) (F : Fr h₀ L h' m) (N : News h₀ L h' news') (hs : ∀ p ∈ news, p ∈ news') :
    Q (.int r' t) { s with heap := h', toks := tk' } := by subst e; exact hret t _ _ F fun p hp => N p (hs p hp)
theorem end_n {h₀ h' : Heap} {L : Addr} {m : Str → Option Value} {news news' : List (Addr × Obj)} {s : Shared} {Q : Value → Shared → Prop} {v : Value} {tk' : Nat}
    (hret : ∀ h' tk', Fr h₀ L h' m → News h₀ L h' news → Q v { s with heap := h', toks := tk' }) (F : Fr h₀ L h' m) (N : News h₀ L h' news') (hs : ∀ p ∈ news, p ∈ news') :
    Q v { s with heap := h', toks := tk' } := hret _ _ F fun p hp => N p (hs p hp)
local macro_rules | `(tactic| k_units) => `(tactic| ktr_units)
local macro_rules | `(tactic| k_room) => `(tactic| ktr_room)
local macro_rules | `(tactic| walk_at "call ref") => `(tactic| (k_here; k_dflt (refine wpAny_call ?_; ktr_enter)))
local macro_rules | `(tactic| walk_at "binaryOp Pow int int") => `(tactic| (with_reducible refine' pow_is ?k1 ?_ ?k2; (case k1 => assumption); (case k2 => rfl)))
local macro_rules | `(tactic| walk_at "binaryOp Mod int int") => `(tactic| (with_reducible refine' mod_is ?k1 ?_; (case k1 => assumption)))
local macro_rules | `(tactic| walk_at "ite") => `(tactic| (first | with_reducible refine ite_tt ?_ | with_reducible refine ite_ff ?_ | with_reducible refine ite_bne ?_ | with_reducible refine ite_beq ?_ | (with_reducible refine ite_dpos (by omega) ?_) | (with_reducible refine ite_dneg (by omega) ?_) | (with_reducible refine ite_dsplit ?_ ?_ <;> intro _)))
local macro_rules | `(tactic| walk_at "exec Raise some none") => `(tactic| (k_here; (with_reducible show wpAny _ _ (exec (Stmt.Raise (some (Expr.Name _ _)) none _) _) _ _ _); (with_reducible rename Fr _ _ _ _ => kF); k_dflt (refine' Raise_classB rfl excClass_ValueError ?hs ?hx ?_; (case hs => rw [isSubtype_type]; kernel_rfl); (case hx => (refine' name_B kF ?k1 ?k2 ?k3 ?k4 ?k5 ?_; (case k1 => k_asm); (case k2 => k_asm); (case k3 => k_is); (case k4 => boot_by_name); (case k5 => decide); exact ⟨rfl, rfl⟩))); intro h' e' x'))
local macro_rules | `(tactic| k_in) => `(tactic| first | with_reducible assumption | exact Frag.In.keeps (by with_reducible assumption) (Fr.keep (by with_reducible assumption)))
local macro_rules | `(tactic| walk_at "call builtin:isinstance") => `(tactic| (k_here; (with_reducible show wpAny _ _ (call _ [Value.int _ _, Value.ref _]) _ _ _); k_dflt (refine' isn_call (P := fun _ => True) ?k1 ?k2 ?k3 ?k4 ?k5 int_cls ?_; (case k1 => k_in); (case k2 => (intro M; exact Looks.of_pure rfl)); (case k3 => k_not); (case k4 => intro e; cases e); (case k5 => trivial); k_whole)))
local macro_rules | `(tactic| walk_at "call builtin:isinstance") => `(tactic| (k_here; (with_reducible show wpAny _ _ (call _ [Value.ref _, Value.ref _]) _ _ _); k_dflt (refine' isi_call ?k1 ?k2 ?k3 ?k4 ?_; (case k1 => k_in); (case k2 => (intro M; exact InstAt.type (by k_inst))); (case k3 => k_is); (case k4 => intro e; cases e); k_whole)))
local macro_rules | `(tactic| k_mem) => `(tactic| first | with_reducible assumption | exact mem_hd | (refine' mem_tl ?_; k_mem))
local macro_rules | `(tactic| k_steps) => `(tactic| repeat' (first | (k_unfold; (try dsimp only)) | (walk1 <;> try dsimp only) | fail "no step"))
theorem step_fit_false_c {w : World} {p : Program} {loose : List Str} {mean : ExcName → Option Value} {mg mb : Str → Option Value}
  {dp un : Nat} {gd : Option (List Code)} {cn : Str} {cs : Scope} {a : Addr} {ccd : Value} {cl : List (Str × Addr)} {outer : List Env} {A₀ : Around} {base h₀ : Heap} {L : Addr} {m : Str → Option Value} {news : List (Addr × Obj)} {s : Shared} {Q E : Value → Shared → Prop}
  {x : Addr} {v : Value} {A delta r bits c h : Int}
  (BB : Below A₀ base outer h₀) (F : Fr h₀ L s.heap m) (X : (Mine.hd.heap_39 w.params).In h₀) (N : News h₀ L s.heap news) (T : Top p loose mean mg mb h₀) (hk : cs.kind = .function) (hd : dp + 32 < recursionLimit) (hu : un + 256 < cLine)
  (hS : SerIn w.params news x A bits) (hG : GivIs w.params news delta v) (hP : PowAt bits c) (hP1 : PowAt (bits - 1) h) (hM : ModAt (A + delta) c r) (hd1 : -h < delta) (hd2 : delta < h)
  (hret : ∀ t h' tk', Fr h₀ L h' m → News h₀ L h' news → Q (.int r t) { s with heap := h', toks := tk' }) :
  wpAny (model pw w) (ktrTop dp un gd cn cs L a ccd cl outer) (call (.ref 127) [.ref x, v, .bool false]) Q E s := by
  have fill : Mine.hd.heap_39 = Mine.hd.heap_39 ∧ PySem.Challenge.rw_fx0001_01 = PySem.Challenge.rw_fx0001_01 := by k_fill; exact ⟨rfl, rfl⟩
  clear fill
  w_on
  obtain ⟨dx, k1, k2, t1, t2, hx1, hx2⟩ := hS
  have hM2 := mod_self hM
  cases hG
  all_goals (w_strict (k_steps))
  all_goals (refine end_i hret rfl (by k_asm) (by k_asm) (by intro p hp; repeat (first | exact hp | refine mem_tl ?_)))
theorem step_fit_true_c {w : World} {p : Program} {loose : List Str} {mean : ExcName → Option Value} {mg mb : Str → Option Value}
  {dp un : Nat} {gd : Option (List Code)} {cn : Str} {cs : Scope} {a : Addr} {ccd : Value} {cl : List (Str × Addr)} {outer : List Env} {A₀ : Around} {base h₀ : Heap} {L : Addr} {m : Str → Option Value} {news : List (Addr × Obj)} {s : Shared} {Q E : Value → Shared → Prop}
  {x : Addr} {v : Value} {A delta r bits c h : Int}
  (BB : Below A₀ base outer h₀) (F : Fr h₀ L s.heap m) (X : (Mine.hd.heap_39 w.params).In h₀) (N : News h₀ L s.heap news) (T : Top p loose mean mg mb h₀) (hk : cs.kind = .function) (hd : dp + 32 < recursionLimit) (hu : un + 256 < cLine)
  (hS : SerIn w.params news x A bits) (hG : GivIs w.params news delta v) (hP : PowAt bits c) (hP1 : PowAt (bits - 1) h) (hM : ModAt (A - delta) c r) (hd1 : -h < delta) (hd2 : delta < h)
  (hret : ∀ t h' tk', Fr h₀ L h' m → News h₀ L h' news → Q (.int r t) { s with heap := h', toks := tk' }) :
  wpAny (model pw w) (ktrTop dp un gd cn cs L a ccd cl outer) (call (.ref 127) [.ref x, v, .bool true]) Q E s := by
  have fill : Mine.hd.heap_39 = Mine.hd.heap_39 ∧ PySem.Challenge.rw_fx0001_01 = PySem.Challenge.rw_fx0001_01 := by k_fill; exact ⟨rfl, rfl⟩
  clear fill
  w_on
  obtain ⟨dx, k1, k2, t1, t2, hx1, hx2⟩ := hS
  have hM2 := mod_self hM
  cases hG
  all_goals (w_strict (k_steps))
  all_goals (refine end_i hret rfl (by k_asm) (by k_asm) (by intro p hp; repeat (first | exact hp | refine mem_tl ?_)))
end Mine
end
section
open PySem PySem.W PyProof.Rows PySem.Calls
set_option Elab.async false
set_option maxRecDepth 100000
set_option maxHeartbeats 8000000
set_option rowWalk.seconds 0
namespace Mine
section
variable {prog : Program} {w : World} {A : Around} {E : Value → Shared → Prop} {s : Shared} {Q : Value → Shared → Prop} {a b : Int} {t u : Tok}
theorem lt_t (h : a < b) (hq : Q (.bool true) s) : wpAny (model prog w) A (compareOp .Lt (.int a t) (.int b u)) Q E s := PyProof.Rows.lt_int (by rw [decide_eq_true h]; exact hq)
theorem lt_f (h : ¬ a < b) (hq : Q (.bool false) s) : wpAny (model prog w) A (compareOp .Lt (.int a t) (.int b u)) Q E s := PyProof.Rows.lt_int (by rw [decide_eq_false h]; exact hq)
theorem eq_t (h : a = b) (hq : Q (.bool true) s) : wpAny (model prog w) A (compareOp .Eq (.int a t) (.int b u)) Q E s := PyProof.Rows.eq_int (by rw [beq_iff_eq.mpr h]; exact hq)
theorem eq_f (h : ¬ a = b) (hq : Q (.bool false) s) : wpAny (model prog w) A (compareOp .Eq (.int a t) (.int b u)) Q E s := PyProof.Rows.eq_int (by rw [beq_eq_false_iff_ne.mpr h]; exact hq)
theorem ne_t (h : ¬ a = b) (hq : Q (.bool true) s) : wpAny (model prog w) A (compareOp .NotEq (.int a t) (.int b u)) Q E s := PyProof.Rows.ne_int (by rw [bne_iff_ne.mpr h]; exact hq)
theorem ne_f (h : a = b) (hq : Q (.bool false) s) : wpAny (model prog w) A (compareOp .NotEq (.int a t) (.int b u)) Q E s := PyProof.Rows.ne_int (by subst h; rw [bne_self_eq_false]; exact hq)
end
local macro_rules | `(tactic| k_units) => `(tactic| ktr_units)
local macro_rules | `(tactic| k_room) => `(tactic| ktr_room)
local macro_rules | `(tactic| walk_at "call ref") => `(tactic| (k_here; k_dflt (refine wpAny_call ?_; ktr_enter)))
local macro_rules | `(tactic| walk_at "binaryOp Pow int int") => `(tactic| (with_reducible refine' pow_is ?k1 ?_ ?k2; (case k1 => assumption); (case k2 => rfl)))
local macro_rules | `(tactic| walk_at "binaryOp Mod int int") => `(tactic| (with_reducible refine' mod_is ?k1 ?_; (case k1 => assumption)))
local macro_rules | `(tactic| walk_at "ite") => `(tactic| (first | with_reducible refine ite_tt ?_ | with_reducible refine ite_ff ?_ | with_reducible refine ite_bne ?_ | with_reducible refine ite_beq ?_ | (with_reducible refine ite_dpos (by omega) ?_) | (with_reducible refine ite_dneg (by omega) ?_) | (with_reducible refine ite_dsplit ?_ ?_ <;> intro _)))
local macro_rules | `(tactic| walk_at "exec Raise some none") => `(tactic| (k_here; (with_reducible show wpAny _ _ (exec (Stmt.Raise (some (Expr.Name _ _)) none _) _) _ _ _); (with_reducible rename Fr _ _ _ _ => kF); k_dflt (refine' Raise_classB rfl excClass_ValueError ?hs ?hx ?_; (case hs => rw [isSubtype_type]; kernel_rfl); (case hx => (refine' name_B kF ?k1 ?k2 ?k3 ?k4 ?k5 ?_; (case k1 => k_asm); (case k2 => k_asm); (case k3 => k_is); (case k4 => boot_by_name); (case k5 => decide); exact ⟨rfl, rfl⟩))); intro h' e' x'))
local macro_rules | `(tactic| k_in) => `(tactic| first | with_reducible assumption | exact Frag.In.keeps (by with_reducible assumption) (Fr.keep (by with_reducible assumption)))
local macro_rules | `(tactic| walk_at "call builtin:isinstance") => `(tactic| (k_here; (with_reducible show wpAny _ _ (call _ [Value.int _ _, Value.ref _]) _ _ _); k_dflt (refine' isn_call (P := fun _ => True) ?k1 ?k2 ?k3 ?k4 ?k5 int_cls ?_; (case k1 => k_in); (case k2 => (intro M; exact Looks.of_pure rfl)); (case k3 => k_not); (case k4 => intro e; cases e); (case k5 => trivial); k_whole)))
local macro_rules | `(tactic| walk_at "call builtin:isinstance") => `(tactic| (k_here; (with_reducible show wpAny _ _ (call _ [Value.ref _, Value.ref _]) _ _ _); k_dflt (refine' isi_call ?k1 ?k2 ?k3 ?k4 ?_; (case k1 => k_in); (case k2 => (intro M; exact InstAt.type (by k_inst))); (case k3 => k_is); (case k4 => intro e; cases e); k_whole)))
local macro_rules | `(tactic| k_mem) => `(tactic| first | with_reducible assumption | exact mem_hd | (refine' mem_tl ?_; k_mem))
local macro_rules | `(tactic| k_steps) => `(tactic| repeat' (first | (k_unfold; (try dsimp only)) | (walk1 <;> try dsimp only) | fail "no step"))
local macro_rules | `(tactic| walk_at "compareOp Lt int int") => `(tactic| (first | with_reducible refine lt_t (by omega) ?_ | with_reducible refine lt_f (by omega) ?_))
local macro_rules | `(tactic| walk_at "compareOp Eq int int") => `(tactic| (first | with_reducible refine eq_t (by omega) ?_ | with_reducible refine eq_f (by omega) ?_))
local macro_rules | `(tactic| walk_at "compareOp NotEq int int") => `(tactic| (first | with_reducible refine ne_t (by omega) ?_ | with_reducible refine ne_f (by omega) ?_))
local macro_rules | `(tactic| walk_at "compareOp Eq ref") => `(tactic| (k_here; k_dflt (refine' eq_c ?k1 ?k2 ?k3 ?k4 ?k5 ?kK ?kd ?ku ?kS ?kO ?kP ?kQ ?kr ?_; (case k1 => k_asm); (case k2 => k_asm); (case k3 => k_asm); (case k4 => k_asm); (case k5 => k_asm); (case kK => first | exact rfl | assumption); (case kd => ktr_room); (case ku => ktr_units); (case kS => assumption); (case kO => assumption); (case kP => assumption); (case kQ => assumption); (case kr => assumption); k_whole; intro h9 tk9 F9 N9)))
local macro_rules | `(tactic| walk_at "compareOp NotEq ref") => `(tactic| (k_here; k_dflt (refine' ne_c ?k1 ?k2 ?k3 ?k4 ?k5 ?kK ?kd ?ku ?kS ?kO ?kP ?kQ ?kr ?_; (case k1 => k_asm); (case k2 => k_asm); (case k3 => k_asm); (case k4 => k_asm); (case k5 => k_asm); (case kK => first | exact rfl | assumption); (case kd => ktr_room); (case ku => ktr_units); (case kS => assumption); (case kO => assumption); (case kP => assumption); (case kQ => assumption); (case kr => assumption); k_whole; intro h9 tk9 F9 N9)))
local macro_rules | `(tactic| walk_at "compareOp Lt ref") => `(tactic| (k_here; k_dflt (refine' lt_c ?k1 ?k2 ?k3 ?k4 ?k5 ?kK ?kd ?ku ?kS ?kO ?kP ?kQ ?kr ?_; (case k1 => k_asm); (case k2 => k_asm); (case k3 => k_asm); (case k4 => k_asm); (case k5 => k_asm); (case kK => first | exact rfl | assumption); (case kd => ktr_room); (case ku => ktr_units); (case kS => assumption); (case kO => assumption); (case kP => assumption); (case kQ => assumption); (case kr => assumption); k_whole; intro h9 tk9 F9 N9)))
local macro_rules | `(tactic| walk_at "compareOp Gt ref") => `(tactic| (k_here; k_dflt (refine' gt_c ?k1 ?k2 ?k3 ?k4 ?k5 ?kK ?kd ?ku ?kS ?kO ?kP ?kQ ?kr ?_; (case k1 => k_asm); (case k2 => k_asm); (case k3 => k_asm); (case k4 => k_asm); (case k5 => k_asm); (case kK => first | exact rfl | assumption); (case kd => ktr_room); (case ku => ktr_units); (case kS => assumption); (case kO => assumption); (case kP => assumption); (case kQ => assumption); (case kr => assumption); k_whole; intro h9 tk9 F9 N9)))
local macro_rules | `(tactic| walk_at "compareOp LtE ref") => `(tactic| (k_here; k_dflt (refine' le_c ?k1 ?k2 ?k3 ?k4 ?k5 ?kK ?kd ?ku ?kS ?kO ?kP ?kQ ?kr ?_; (case k1 => k_asm); (case k2 => k_asm); (case k3 => k_asm); (case k4 => k_asm); (case k5 => k_asm); (case kK => first | exact rfl | assumption); (case kd => ktr_room); (case ku => ktr_units); (case kS => assumption); (case kO => assumption); (case kP => assumption); (case kQ => assumption); (case kr => assumption); k_whole; intro h9 tk9 F9 N9)))
local macro_rules | `(tactic| walk_at "compareOp GtE ref") => `(tactic| (k_here; k_dflt (refine' ge_c ?k1 ?k2 ?k3 ?k4 ?k5 ?kK ?kd ?ku ?kS ?kO ?kP ?kQ ?kr ?_; (case k1 => k_asm); (case k2 => k_asm); (case k3 => k_asm); (case k4 => k_asm); (case k5 => k_asm); (case kK => first | exact rfl | assumption); (case kd => ktr_room); (case ku => ktr_units); (case kS => assumption); (case kO => assumption); (case kP => assumption); (case kQ => assumption); (case kr => assumption); k_whole; intro h9 tk9 F9 N9)))
theorem ordered_c {w : World} {p : Program} {loose : List Str} {mean : ExcName → Option Value} {mg mb : Str → Option Value}
  {dp un : Nat} {gd : Option (List Code)} {cn : Str} {cs : Scope} {a : Addr} {ccd : Value} {cl : List (Str × Addr)} {outer : List Env} {A₀ : Around} {base h₀ : Heap} {L : Addr} {m : Str → Option Value} {news : List (Addr × Obj)} {s : Shared} {Q E : Value → Shared → Prop}
  {x : Addr} {v : Value} {A B bits c h av bv : Int} {ta tb tc : Tok}
  (BB : Below A₀ base outer h₀) (F : Fr h₀ L s.heap m) (X : (Mine.hd.heap_39 w.params).In h₀) (N : News h₀ L s.heap news) (T : Top p loose mean mg mb h₀) (hk : cs.kind = .function) (hd : dp + 32 < recursionLimit) (hu : un + 256 < cLine)
  (hS : SerIn w.params news x A bits) (hO : OthIs w.params news bits c B v) (hP : PowAt bits c) (hP1 : PowAt (bits - 1) h) (hc : c = 2 * h) (hA : ModAt av c A) (hB : ModAt bv c B)
  (hret : ∀ h' tk', Fr h₀ L h' m → News h₀ L h' news → Q (.bool true) { s with heap := h', toks := tk' }) :
  wpAny (model pw w) (ktrTop dp un gd cn cs L a ccd cl outer) (call (.ref 141) [.ref x, v, .int av ta, .int bv tb, .int c tc]) Q E s := by
  have fill : Mine.hd.heap_39 = Mine.hd.heap_39 ∧ PySem.Challenge.rw_fx0001_01 = PySem.Challenge.rw_fx0001_01 := by k_fill; exact ⟨rfl, rfl⟩
  clear fill
  w_on
  obtain ⟨D, D2, e, n, l, g, le, ge, m1, m2, he, hn, hl, hg, hle, hge, hcase⟩ := rel4 hc hA hB
  rcases hcase with ⟨rfl, rfl, rfl, rfl, rfl, rfl, q1, q2, q3⟩ | ⟨rfl, rfl, rfl, rfl, rfl, rfl, q1, q2, q3⟩ | ⟨rfl, rfl, rfl, rfl, rfl, rfl, q1, q2, q3⟩ | ⟨rfl, rfl, rfl, rfl, rfl, rfl, q1, q2, q3⟩
  all_goals (w_strict (k_steps))
  all_goals (refine end_b hret (by first | rfl | decide) (by k_asm) (by k_asm) (by intro p hp; repeat (first | exact hp | refine mem_tl ?_)))
end Mine
end
section
open PySem PySem.W PyProof.Rows PySem.Calls
set_option Elab.async false
set_option maxRecDepth 100000
set_option maxHeartbeats 8000000
set_option rowWalk.seconds 0
namespace Mine
local macro_rules | `(tactic| k_units) => `(tactic| ktr_units)
local macro_rules | `(tactic| k_room) => `(tactic| ktr_room)
local macro_rules | `(tactic| walk_at "call ref") => `(tactic| (k_here; k_dflt (refine wpAny_call ?_; ktr_enter)))
local macro_rules | `(tactic| walk_at "binaryOp Pow int int") => `(tactic| (with_reducible refine' pow_is ?k1 ?_ ?k2; (case k1 => assumption); (case k2 => rfl)))
local macro_rules | `(tactic| walk_at "binaryOp Mod int int") => `(tactic| (with_reducible refine' mod_is ?k1 ?_; (case k1 => assumption)))
local macro_rules | `(tactic| walk_at "ite") => `(tactic| (first | with_reducible refine ite_tt ?_ | with_reducible refine ite_ff ?_ | with_reducible refine ite_bne ?_ | with_reducible refine ite_beq ?_ | (with_reducible refine ite_dpos (by omega) ?_) | (with_reducible refine ite_dneg (by omega) ?_) | (with_reducible refine ite_dsplit ?_ ?_ <;> intro _)))
local macro_rules | `(tactic| walk_at "exec Raise some none") => `(tactic| (k_here; (with_reducible show wpAny _ _ (exec (Stmt.Raise (some (Expr.Name _ _)) none _) _) _ _ _); (with_reducible rename Fr _ _ _ _ => kF); k_dflt (refine' Raise_classB rfl excClass_ValueError ?hs ?hx ?_; (case hs => rw [isSubtype_type]; kernel_rfl); (case hx => (refine' name_B kF ?k1 ?k2 ?k3 ?k4 ?k5 ?_; (case k1 => k_asm); (case k2 => k_asm); (case k3 => k_is); (case k4 => boot_by_name); (case k5 => decide); exact ⟨rfl, rfl⟩))); intro h' e' x'))
local macro_rules | `(tactic| k_in) => `(tactic| first | with_reducible assumption | exact Frag.In.keeps (by with_reducible assumption) (Fr.keep (by with_reducible assumption)))
local macro_rules | `(tactic| walk_at "call builtin:isinstance") => `(tactic| (k_here; (with_reducible show wpAny _ _ (call _ [Value.int _ _, Value.ref _]) _ _ _); k_dflt (refine' isn_call (P := fun _ => True) ?k1 ?k2 ?k3 ?k4 ?k5 int_cls ?_; (case k1 => k_in); (case k2 => (intro M; exact Looks.of_pure rfl)); (case k3 => k_not); (case k4 => intro e; cases e); (case k5 => trivial); k_whole)))
local macro_rules | `(tactic| walk_at "call builtin:isinstance") => `(tactic| (k_here; (with_reducible show wpAny _ _ (call _ [Value.ref _, Value.ref _]) _ _ _); k_dflt (refine' isi_call ?k1 ?k2 ?k3 ?k4 ?_; (case k1 => k_in); (case k2 => (intro M; exact InstAt.type (by k_inst))); (case k3 => k_is); (case k4 => intro e; cases e); k_whole)))
local macro_rules | `(tactic| k_mem) => `(tactic| first | with_reducible assumption | exact mem_hd | (refine' mem_tl ?_; k_mem))
local macro_rules | `(tactic| k_steps) => `(tactic| repeat' (first | (k_unfold; (try dsimp only)) | (walk1 <;> try dsimp only) | fail "no step"))
local macro_rules | `(tactic| walk_at "call ref") => `(tactic| (k_here; k_dflt (refine wpAny_call ?_; (refine' code_defS0 ?k1 ?k2 ?k3 ?k4 ?k5 ?kA ?k6 ?k7 ?k8 ?k9 ?kB ?_ ?cK ?c2 ?c3 ?c4 ?c5; (case kA => exact rfl); (case cK => assumption); (case k2 => k_asm); (case k1 => k_asm); (case k3 => k_asm); (case k4 => k_asm); (case k5 => k_asm); (case k6 => k_is); (case k7 => k_is); (case k8 => k_room); (case k9 => exact BindsTo.of_eq rfl); (case kB => exact locs rfl); (case c2 => exact rfl); (case c3 => exact rfl); (case c4 => exact rfl); (case c5 => decide); k_whole; intro g' L' h' FG' F' N' B' X' T' D'; (try dsimp only); (try k_lift B'); (try k_fold)))))
local macro_rules | `(tactic| walk_at "call ref") => `(tactic| (k_here; k_dflt (refine wpAny_call ?_; (refine' code_defS ?k1 ?k2 ?k3 ?k4 ?k5 ?XB ?TB ?D ?T0 ?kA ?k6 ?k7 ?k8 ?k9 ?kB ?_ ?cK ?c2 ?c3 ?c4 ?c5; (case kA => exact rfl); (case cK => assumption); (case XB => assumption); (case TB => assumption); (case D => assumption); (case T0 => assumption); (case k2 => k_asm); (case k1 => k_asm); (case k3 => k_asm); (case k4 => k_asm); (case k5 => k_asm); (case k6 => k_is); (case k7 => k_is); (case k8 => k_room); (case k9 => exact BindsTo.of_eq rfl); (case kB => exact locs rfl); (case c2 => exact rfl); (case c3 => exact rfl); (case c4 => exact rfl); (case c5 => decide); k_whole; intro g' L' h' FG' F' N' B' X' T' D'; (try dsimp only); (try k_lift B'); (try k_fold)))))
theorem step_bad_false_c {w : World} {p : Program} {loose : List Str} {mean : ExcName → Option Value} {mg mb : Str → Option Value}
  {dp un : Nat} {gd : Option (List Code)} {cn : Str} {cs : Scope} {a : Addr} {ccd : Value} {outer : List Env} {A₀ : Around} {base g₀ h₀ : Heap} {L : Addr} {m : Str → Option Value} {news : List (Addr × Obj)} {s : Shared} {Q E : Value → Shared → Prop}
  {x : Addr} {v : Value} {A delta bits h : Int}
  (BB : Below A₀ base outer h₀) (F : Fr h₀ L s.heap m) (X : (Mine.hd.heap_39 w.params).In h₀) (N : News h₀ L s.heap news) (T : Top p loose mean mg mb h₀) (hk : cs.kind = .function) (hd : dp + 32 < recursionLimit) (hu : un + 256 < cLine)
  (XB : (Mine.hd.heap_39 w.params).In base) (TB : Top p loose mean mg mb base) (D : KtsDicts (outer.filterMap (·.frame)) h₀) (T0 : KtsTurn (outer.filterMap (·.frame)) g₀ h₀)
  (hS : SerIn w.params news x A bits) (hG : GivIs w.params news delta v) (hP1 : PowAt (bits - 1) h) (hd1 : delta ≤ -h ∨ h ≤ delta)
  (hret : ∀ h₀' h' tk', KtsTurn (outer.filterMap (·.frame)) g₀ h₀' → Fr h₀' L h' m → News h₀' L h' news → Below A₀ base outer h₀' → (Mine.hd.heap_39 w.params).In h₀' → Top p loose mean mg mb h₀' → KtsDicts (outer.filterMap (·.frame)) h₀' → Q .none { s with heap := h', toks := tk' }) :
  wpAny (model pw w) { handled := none, depth := dp, frames := some (envOf cn cs L a ccd :: outer), guards := gd, units := un } (call (.ref 127) [.ref x, v, .bool false]) Q E s := by
  have fill : Mine.hd.heap_39 = Mine.hd.heap_39 ∧ PySem.Challenge.rw_fx0001_01 = PySem.Challenge.rw_fx0001_01 := by k_fill; exact ⟨rfl, rfl⟩
  clear fill
  w_on
  obtain ⟨dx, k1, k2, t1, t2, hx1, hx2⟩ := hS
  cases hG
  all_goals (w_strict (k_steps))
  all_goals (refine' hret _ _ _ ?a1 ?a2 ?a3 ?a4 ?a5 ?a6 ?a7; (case a2 => assumption); (case a1 => assumption); (case a3 => assumption); (case a4 => assumption); (case a5 => assumption); (case a6 => assumption); (case a7 => assumption))
theorem step_bad_true_c {w : World} {p : Program} {loose : List Str} {mean : ExcName → Option Value} {mg mb : Str → Option Value}
  {dp un : Nat} {gd : Option (List Code)} {cn : Str} {cs : Scope} {a : Addr} {ccd : Value} {outer : List Env} {A₀ : Around} {base g₀ h₀ : Heap} {L : Addr} {m : Str → Option Value} {news : List (Addr × Obj)} {s : Shared} {Q E : Value → Shared → Prop}
  {x : Addr} {v : Value} {A delta bits h : Int}
  (BB : Below A₀ base outer h₀) (F : Fr h₀ L s.heap m) (X : (Mine.hd.heap_39 w.params).In h₀) (N : News h₀ L s.heap news) (T : Top p loose mean mg mb h₀) (hk : cs.kind = .function) (hd : dp + 32 < recursionLimit) (hu : un + 256 < cLine)
  (XB : (Mine.hd.heap_39 w.params).In base) (TB : Top p loose mean mg mb base) (D : KtsDicts (outer.filterMap (·.frame)) h₀) (T0 : KtsTurn (outer.filterMap (·.frame)) g₀ h₀)
  (hS : SerIn w.params news x A bits) (hG : GivIs w.params news delta v) (hP1 : PowAt (bits - 1) h) (hd1 : delta ≤ -h ∨ h ≤ delta)
  (hret : ∀ h₀' h' tk', KtsTurn (outer.filterMap (·.frame)) g₀ h₀' → Fr h₀' L h' m → News h₀' L h' news → Below A₀ base outer h₀' → (Mine.hd.heap_39 w.params).In h₀' → Top p loose mean mg mb h₀' → KtsDicts (outer.filterMap (·.frame)) h₀' → Q .none { s with heap := h', toks := tk' }) :
  wpAny (model pw w) { handled := none, depth := dp, frames := some (envOf cn cs L a ccd :: outer), guards := gd, units := un } (call (.ref 127) [.ref x, v, .bool true]) Q E s := by
  have fill : Mine.hd.heap_39 = Mine.hd.heap_39 ∧ PySem.Challenge.rw_fx0001_01 = PySem.Challenge.rw_fx0001_01 := by k_fill; exact ⟨rfl, rfl⟩
  clear fill
  w_on
  obtain ⟨dx, k1, k2, t1, t2, hx1, hx2⟩ := hS
  cases hG
  all_goals (w_strict (k_steps))
  all_goals (refine' hret _ _ _ ?a1 ?a2 ?a3 ?a4 ?a5 ?a6 ?a7; (case a2 => assumption); (case a1 => assumption); (case a3 => assumption); (case a4 => assumption); (case a5 => assumption); (case a6 => assumption); (case a7 => assumption))
theorem step_str_c {w : World} {p : Program} {loose : List Str} {mean : ExcName → Option Value} {mg mb : Str → Option Value}
  {dp un : Nat} {gd : Option (List Code)} {cn : Str} {cs : Scope} {a : Addr} {ccd : Value} {A₀ : Around} {h₀ : Heap} {L : Addr} {m : Str → Option Value} {news : List (Addr × Obj)} {s : Shared} {Q E : Value → Shared → Prop}
  {x : Addr} {A bits : Int} {tv : Tok}
  (BB : Below A₀ h₀ [] h₀) (F : Fr h₀ L s.heap m) (X : (Mine.hd.heap_39 w.params).In h₀) (N : News h₀ L s.heap news) (T : Top p loose mean mg mb h₀) (hk : cs.kind = .function) (hd : dp + 32 < recursionLimit) (hu : un + 256 < cLine)
  (hS : SerIn w.params news x A bits)
  (hret : ∀ h' tk', Fr h₀ L h' m → News h₀ L h' news → Q .none { s with heap := h', toks := tk' }) :
  wpAny (model pw w) { handled := none, depth := dp, frames := some (envOf cn cs L a ccd :: []), guards := gd, units := un } (call (.ref 127) [.ref x, .str (Str.ofString "1") tv, .bool false]) Q E s := by
  have fill : Mine.hd.heap_39 = Mine.hd.heap_39 ∧ PySem.Challenge.rw_fx0001_01 = PySem.Challenge.rw_fx0001_01 := by k_fill; exact ⟨rfl, rfl⟩
  clear fill
  w_on
  obtain ⟨dx, k1, k2, t1, t2, hx1, hx2⟩ := hS
  w_strict (k_steps)
  all_goals (refine hret _ _ ?_ ?_ <;> assumption)
theorem step_none_c {w : World} {p : Program} {loose : List Str} {mean : ExcName → Option Value} {mg mb : Str → Option Value}
  {dp un : Nat} {gd : Option (List Code)} {cn : Str} {cs : Scope} {a : Addr} {ccd : Value} {A₀ : Around} {h₀ : Heap} {L : Addr} {m : Str → Option Value} {news : List (Addr × Obj)} {s : Shared} {Q E : Value → Shared → Prop}
  {x : Addr} {A bits : Int}
  (BB : Below A₀ h₀ [] h₀) (F : Fr h₀ L s.heap m) (X : (Mine.hd.heap_39 w.params).In h₀) (N : News h₀ L s.heap news) (T : Top p loose mean mg mb h₀) (hk : cs.kind = .function) (hd : dp + 32 < recursionLimit) (hu : un + 256 < cLine)
  (hS : SerIn w.params news x A bits)
  (hret : ∀ h' tk', Fr h₀ L h' m → News h₀ L h' news → Q .none { s with heap := h', toks := tk' }) :
  wpAny (model pw w) { handled := none, depth := dp, frames := some (envOf cn cs L a ccd :: []), guards := gd, units := un } (call (.ref 127) [.ref x, .none, .bool true]) Q E s := by
  have fill : Mine.hd.heap_39 = Mine.hd.heap_39 ∧ PySem.Challenge.rw_fx0001_01 = PySem.Challenge.rw_fx0001_01 := by k_fill; exact ⟨rfl, rfl⟩
  clear fill
  w_on
  obtain ⟨dx, k1, k2, t1, t2, hx1, hx2⟩ := hS
  w_strict (k_steps)
  all_goals (refine hret _ _ ?_ ?_ <;> assumption)
end Mine
end
section
open PySem PySem.W PyProof.Rows PySem.Calls
set_option Elab.async false
set_option maxRecDepth 100000
set_option maxHeartbeats 8000000
set_option rowWalk.seconds 0
namespace Mine
section
variable {prog : Program} {w : World} {A : Around} {E : Value → Shared → Prop} {s : Shared} {Q : Value → Shared → Prop} {c h : Int} {t u : Tok}
theorem half_is {b : Int} (hc : c = 2 * h) (hp : 0 < c ∧ c < 2 ^ 60) (hq : Q (.int h s.toks) { s with toks := s.toks + 1 }) (hb : b = 2) : wpAny (model prog w) A (binaryOp .FloorDiv (.int c t) (.int b u)) Q E s := by
  subst hb
  refine floordiv_int (by decide) ?_ (Or.inl (PyProof.noPylong_small (by omega)))
  rw [show c.fdiv 2 = h by rw [Int.fdiv_eq_ediv_of_nonneg _ (by decide)]; omega]
  exact hq
end
local macro_rules | `(tactic| k_units) => `(tactic| ktr_units)
local macro_rules | `(tactic| k_room) => `(tactic| ktr_room)
local macro_rules | `(tactic| walk_at "call ref") => `(tactic| (k_here; k_dflt (refine wpAny_call ?_; ktr_enter)))
local macro_rules | `(tactic| walk_at "binaryOp Pow int int") => `(tactic| (with_reducible refine' pow_is ?k1 ?_ ?k2; (case k1 => assumption); (case k2 => rfl)))
local macro_rules | `(tactic| walk_at "binaryOp Mod int int") => `(tactic| (with_reducible refine' mod_is ?k1 ?_; (case k1 => assumption)))
local macro_rules | `(tactic| walk_at "ite") => `(tactic| (first | with_reducible refine ite_tt ?_ | with_reducible refine ite_ff ?_ | with_reducible refine ite_bne ?_ | with_reducible refine ite_beq ?_ | (with_reducible refine ite_dpos (by omega) ?_) | (with_reducible refine ite_dneg (by omega) ?_) | (with_reducible refine ite_dsplit ?_ ?_ <;> intro _)))
local macro_rules | `(tactic| walk_at "exec Raise some none") => `(tactic| (k_here; (with_reducible show wpAny _ _ (exec (Stmt.Raise (some (Expr.Name _ _)) none _) _) _ _ _); (with_reducible rename Fr _ _ _ _ => kF); k_dflt (refine' Raise_classB rfl excClass_ValueError ?hs ?hx ?_; (case hs => rw [isSubtype_type]; kernel_rfl); (case hx => (refine' name_B kF ?k1 ?k2 ?k3 ?k4 ?k5 ?_; (case k1 => k_asm); (case k2 => k_asm); (case k3 => k_is); (case k4 => boot_by_name); (case k5 => decide); exact ⟨rfl, rfl⟩))); intro h' e' x'))
local macro_rules | `(tactic| k_in) => `(tactic| first | with_reducible assumption | exact Frag.In.keeps (by with_reducible assumption) (Fr.keep (by with_reducible assumption)))
local macro_rules | `(tactic| walk_at "call builtin:isinstance") => `(tactic| (k_here; (with_reducible show wpAny _ _ (call _ [Value.int _ _, Value.ref _]) _ _ _); k_dflt (refine' isn_call (P := fun _ => True) ?k1 ?k2 ?k3 ?k4 ?k5 int_cls ?_; (case k1 => k_in); (case k2 => (intro M; exact Looks.of_pure rfl)); (case k3 => k_not); (case k4 => intro e; cases e); (case k5 => trivial); k_whole)))
local macro_rules | `(tactic| walk_at "call builtin:isinstance") => `(tactic| (k_here; (with_reducible show wpAny _ _ (call _ [Value.ref _, Value.ref _]) _ _ _); k_dflt (refine' isi_call ?k1 ?k2 ?k3 ?k4 ?_; (case k1 => k_in); (case k2 => (intro M; exact InstAt.type (by k_inst))); (case k3 => k_is); (case k4 => intro e; cases e); k_whole)))
local macro_rules | `(tactic| k_mem) => `(tactic| first | with_reducible assumption | exact mem_hd | (refine' mem_tl ?_; k_mem))
local macro_rules | `(tactic| k_steps) => `(tactic| repeat' (first | (k_unfold; (try dsimp only)) | (walk1 <;> try dsimp only) | fail "no step"))
local macro_rules | `(tactic| walk_at "compareOp Lt int int") => `(tactic| (first | with_reducible refine lt_t (by omega) ?_ | with_reducible refine lt_f (by omega) ?_))
local macro_rules | `(tactic| walk_at "compareOp Eq int int") => `(tactic| (first | with_reducible refine eq_t (by omega) ?_ | with_reducible refine eq_f (by omega) ?_))
local macro_rules | `(tactic| walk_at "compareOp NotEq int int") => `(tactic| (first | with_reducible refine ne_t (by omega) ?_ | with_reducible refine ne_f (by omega) ?_))
local macro_rules | `(tactic| walk_at "call ref") => `(tactic| (k_here; k_dflt (refine wpAny_call ?_; (refine' code_defS0 ?k1 ?k2 ?k3 ?k4 ?k5 ?kA ?k6 ?k7 ?k8 ?k9 ?kB ?_ ?cK ?c2 ?c3 ?c4 ?c5; (case kA => exact rfl); (case cK => assumption); (case k2 => k_asm); (case k1 => k_asm); (case k3 => k_asm); (case k4 => k_asm); (case k5 => k_asm); (case k6 => k_is); (case k7 => k_is); (case k8 => k_room); (case k9 => exact BindsTo.of_eq rfl); (case kB => exact locs rfl); (case c2 => exact rfl); (case c3 => exact rfl); (case c4 => exact rfl); (case c5 => decide); k_whole; intro g' L' h' FG' F' N' B' X' T' D'; (try dsimp only); (try k_lift B'); (try k_fold)))))
local macro_rules | `(tactic| walk_at "call ref") => `(tactic| (k_here; k_dflt (refine' step_fit_false_c ?k1 ?k2 ?k3 ?k4 ?k5 ?kK ?kd ?ku ?kS ?kG ?kP ?kQ ?kM ?d1 ?d2 ?_; (case k2 => k_asm); (case k1 => k_asm); (case k3 => k_asm); (case k4 => k_asm); (case k5 => k_asm); (case kK => first | exact rfl | assumption); (case kd => ktr_room); (case ku => ktr_units); (case kS => exact ⟨_, _, _, _, _, by k_mem, by k_mem⟩); (case kG => exact GivIs.mono (by assumption) (by intro p hp; repeat (first | exact hp | refine mem_tl ?_))); (case kP => assumption); (case kQ => assumption); (case kM => assumption); (case d1 => omega); (case d2 => omega); k_whole; intro t9 h9 tk9 F9 N9)))
local macro_rules | `(tactic| walk_at "call ref") => `(tactic| (k_here; k_dflt (refine' step_bad_false_c ?k1 ?k2 ?k3 ?k4 ?k5 ?kK ?kd ?ku ?XB ?TB ?D ?T0 ?kS ?kG ?kQ ?d1 ?_; (case k2 => k_asm); (case k1 => k_asm); (case k3 => k_asm); (case k4 => k_asm); (case k5 => k_asm); (case kK => first | exact rfl | assumption); (case kd => ktr_room); (case ku => ktr_units); (case kS => exact ⟨_, _, _, _, _, by k_mem, by k_mem⟩); (case kG => exact GivIs.mono (by assumption) (by intro p hp; repeat (first | exact hp | refine mem_tl ?_))); (case XB => assumption); (case TB => assumption); (case D => assumption); (case T0 => first | assumption | exact KtsTurn.refl); (case kQ => assumption); (case d1 => omega); k_whole; intro g9 h9 tk9 T9 F9 N9 B9 X9 TT9 D9)))
local macro_rules | `(tactic| walk_at "call ref") => `(tactic| (k_here; k_dflt (refine' step_fit_true_c ?k1 ?k2 ?k3 ?k4 ?k5 ?kK ?kd ?ku ?kS ?kG ?kP ?kQ ?kM ?d1 ?d2 ?_; (case k2 => k_asm); (case k1 => k_asm); (case k3 => k_asm); (case k4 => k_asm); (case k5 => k_asm); (case kK => first | exact rfl | assumption); (case kd => ktr_room); (case ku => ktr_units); (case kS => exact ⟨_, _, _, _, _, by k_mem, by k_mem⟩); (case kG => exact GivIs.mono (by assumption) (by intro p hp; repeat (first | exact hp | refine mem_tl ?_))); (case kP => assumption); (case kQ => assumption); (case kM => assumption); (case d1 => omega); (case d2 => omega); k_whole; intro t9 h9 tk9 F9 N9)))
local macro_rules | `(tactic| walk_at "call ref") => `(tactic| (k_here; k_dflt (refine' step_bad_true_c ?k1 ?k2 ?k3 ?k4 ?k5 ?kK ?kd ?ku ?XB ?TB ?D ?T0 ?kS ?kG ?kQ ?d1 ?_; (case k2 => k_asm); (case k1 => k_asm); (case k3 => k_asm); (case k4 => k_asm); (case k5 => k_asm); (case kK => first | exact rfl | assumption); (case kd => ktr_room); (case ku => ktr_units); (case kS => exact ⟨_, _, _, _, _, by k_mem, by k_mem⟩); (case kG => exact GivIs.mono (by assumption) (by intro p hp; repeat (first | exact hp | refine mem_tl ?_))); (case XB => assumption); (case TB => assumption); (case D => assumption); (case T0 => first | assumption | exact KtsTurn.refl); (case kQ => assumption); (case d1 => omega); k_whole; intro g9 h9 tk9 T9 F9 N9 B9 X9 TT9 D9)))
local macro_rules | `(tactic| walk_at "binaryOp FloorDiv int int") => `(tactic| (with_reducible refine' half_is ?k1 ?k2 ?_ ?k3; (case k1 => assumption); (case k2 => assumption); (case k3 => rfl)))
/-- what holds of the turning base of _law_moves' frame -/
def MovJ (K : Frag) (p : Program) (loose : List Str) (mean : ExcName → Option Value) (mg mb : Str → Option Value) (A₀ : Around) (base : Heap) (outer : List Env) (g₁ g : Heap) : Prop :=
  KtsTurn (outer.filterMap (·.frame)) g₁ g ∧ Below A₀ base outer g ∧ K.In g ∧ Top p loose mean mg mb g ∧ KtsDicts (outer.filterMap (·.frame)) g
local macro_rules | `(tactic| walk_at "exec For Name Tuple cons nil") => `(tactic| (k_here; k_dflt (refine for_open ?_ (by intro _; rfl))))
theorem moves_fit_c {w : World} {p : Program} {loose : List Str} {mean : ExcName → Option Value} {mg mb : Str → Option Value}
  {dp un : Nat} {gd : Option (List Code)} {cn : Str} {cs : Scope} {a : Addr} {ccd : Value} {A₀ : Around} {h₀ : Heap} {L : Addr} {m : Str → Option Value} {news : List (Addr × Obj)} {s : Shared} {Q E : Value → Shared → Prop}
  {v : Value} {A number delta bits c h : Int} {tn tb td : Tok}
  (BB : Below A₀ h₀ [] h₀) (F : Fr h₀ L s.heap m) (X : (Mine.hd.heap_39 w.params).In h₀) (N : News h₀ L s.heap news) (T : Top p loose mean mg mb h₀) (hk : cs.kind = .function) (hd : dp + 64 < recursionLimit) (hu : un + 512 < cLine)
  (hG : GivIs w.params news delta v) (hP : PowAt bits c) (hP1 : PowAt (bits - 1) h) (hc : c = 2 * h) (hA : ModAt number c A) (hcp : 0 < c ∧ c < 2 ^ 60) (hd1 : -h < delta) (hd2 : delta < h)
  (hret : ∀ h' tk', Fr h₀ L h' m → News h₀ L h' news → Q (.bool true) { s with heap := h', toks := tk' }) :
  wpAny (model pw w) { handled := none, depth := dp, frames := some (envOf cn cs L a ccd :: []), guards := gd, units := un } (call (.ref 134) [.int number tn, .int bits tb, v, .int delta td]) Q E s := by
  have fill : Mine.hd.heap_39 = Mine.hd.heap_39 ∧ PySem.Challenge.rw_fx0001_01 = PySem.Challenge.rw_fx0001_01 := by k_fill; exact ⟨rfl, rfl⟩
  clear fill
  w_on
  obtain ⟨r1, hr1⟩ := mod_ex (number + delta) hA.pos
  obtain ⟨r2, hr2⟩ := mod_ex (number - delta) hA.pos
  have hs1 := mod_shift hA hr1
  have hs2 := mod_unshift hA hr2
  have hA2 := mod_self hA
  cases id hG
  all_goals (w_strict (k_steps))
  all_goals (
    rename Fr _ _ _ fun y => if y = Str.ofString "fits" then _ else _ => F1
    rename KtsDicts _ _ => D1
    rename Frag.In _ _ => X1
    rename Below _ _ _ _ => B1
    rename Top _ _ _ _ _ _ => T1
    have hJ := (⟨KtsTurn.refl, B1, X1, T1, D1⟩ : MovJ _ _ _ _ _ _ _ _ _ _ _)
    refine' for_tup [Str.ofString "serial", Str.ofString "held", Str.ofString "due"] (MovJ _ _ _ _ _ _ _ _ _ _) ?hh ?hx ?hp ?F ?N ?hc ?hd ?hj ?_ ?_ ?pE
    (case hh => rfl)
    (case hx => rfl)
    (case hp => rfl)
    (case F => exact F1)
    (case N => assumption)
    (case hc => rfl)
    (case hd => rfl)
    (case hj => exact hJ)
    (case pE => passes_own)
    · clear F1 B1 X1 T1 D1 hJ
      rintro v g u I io h' tk hv ⟨tT, tB, tX, tP, tD⟩ F2 N2
      rcases List.mem_cons.mp hv with rfl | hv
      rotate_left
      rcases List.mem_cons.mp hv with rfl | hv
      rotate_left
      · cases hv
      all_goals (w_strict (k_steps))
      all_goals (
        refine' tup_end ?F ?N ?S ?M ?J
        case F => k_asm
        case N => k_asm
        case S => intro p hp; repeat (first | exact hp | refine mem_tl ?_)
        case M =>
          intro z h1 h2
          have h3 := h2
          simp only [List.contains_cons, List.contains_nil, Bool.or_false, Bool.or_eq_false_iff, beq_eq_false_iff_ne] at h3
          obtain ⟨a1, a2, a3⟩ := h3
          simp only [if_neg a1, if_neg a2, if_neg a3, if_neg h1, h2, Bool.false_eq_true, if_false]
        case J => exact ⟨by assumption, by assumption, by assumption, by assumption, by assumption⟩)
    · rintro g u h' tk ⟨tT, tB, tX, tP, tD⟩ F2 N2
      w_strict (k_steps)
      all_goals (refine hret _ _ ?_ ?_ <;> assumption))
theorem moves_bad_c {w : World} {p : Program} {loose : List Str} {mean : ExcName → Option Value} {mg mb : Str → Option Value}
  {dp un : Nat} {gd : Option (List Code)} {cn : Str} {cs : Scope} {a : Addr} {ccd : Value} {A₀ : Around} {h₀ : Heap} {L : Addr} {m : Str → Option Value} {news : List (Addr × Obj)} {s : Shared} {Q E : Value → Shared → Prop}
  {v : Value} {A number delta bits c h : Int} {tn tb td : Tok}
  (BB : Below A₀ h₀ [] h₀) (F : Fr h₀ L s.heap m) (X : (Mine.hd.heap_39 w.params).In h₀) (N : News h₀ L s.heap news) (T : Top p loose mean mg mb h₀) (hk : cs.kind = .function) (hd : dp + 64 < recursionLimit) (hu : un + 512 < cLine)
  (hG : GivIs w.params news delta v) (hP : PowAt bits c) (hP1 : PowAt (bits - 1) h) (hc : c = 2 * h) (hA : ModAt number c A) (hcp : 0 < c ∧ c < 2 ^ 60) (hd1 : delta ≤ -h ∨ h ≤ delta)
  (hret : ∀ h' tk', Fr h₀ L h' m → News h₀ L h' news → Q (.bool true) { s with heap := h', toks := tk' }) :
  wpAny (model pw w) { handled := none, depth := dp, frames := some (envOf cn cs L a ccd :: []), guards := gd, units := un } (call (.ref 134) [.int number tn, .int bits tb, v, .int delta td]) Q E s := by
  have fill : Mine.hd.heap_39 = Mine.hd.heap_39 ∧ PySem.Challenge.rw_fx0001_01 = PySem.Challenge.rw_fx0001_01 := by k_fill; exact ⟨rfl, rfl⟩
  clear fill
  w_on
  obtain ⟨r1, hr1⟩ := mod_ex (number + delta) hA.pos
  obtain ⟨r2, hr2⟩ := mod_ex (number - delta) hA.pos
  have hs1 := mod_shift hA hr1
  have hs2 := mod_unshift hA hr2
  have hA2 := mod_self hA
  cases id hG
  all_goals (w_strict (k_steps))
  all_goals (
    rename Fr _ _ _ fun y => if y = Str.ofString "fits" then _ else _ => F1
    rename KtsDicts _ _ => D1
    rename Frag.In _ _ => X1
    rename Below _ _ _ _ => B1
    rename Top _ _ _ _ _ _ => T1
    have hJ := (⟨KtsTurn.refl, B1, X1, T1, D1⟩ : MovJ _ _ _ _ _ _ _ _ _ _ _)
    refine' for_tup [Str.ofString "serial", Str.ofString "held", Str.ofString "due"] (MovJ _ _ _ _ _ _ _ _ _ _) ?hh ?hx ?hp ?F ?N ?hc ?hd ?hj ?_ ?_ ?pE
    (case hh => rfl)
    (case hx => rfl)
    (case hp => rfl)
    (case F => exact F1)
    (case N => assumption)
    (case hc => rfl)
    (case hd => rfl)
    (case hj => exact hJ)
    (case pE => passes_own)
    · clear F1 B1 X1 T1 D1 hJ
      rintro v g u I io h' tk hv ⟨tT, tB, tX, tP, tD⟩ F2 N2
      rcases List.mem_cons.mp hv with rfl | hv
      rotate_left
      rcases List.mem_cons.mp hv with rfl | hv
      rotate_left
      · cases hv
      all_goals (w_strict (k_steps))
      all_goals (
        refine' tup_end ?F ?N ?S ?M ?J
        case F => k_asm
        case N => k_asm
        case S => intro p hp; repeat (first | exact hp | refine mem_tl ?_)
        case M =>
          intro z h1 h2
          have h3 := h2
          simp only [List.contains_cons, List.contains_nil, Bool.or_false, Bool.or_eq_false_iff, beq_eq_false_iff_ne] at h3
          obtain ⟨a1, a2, a3⟩ := h3
          simp only [if_neg a1, if_neg a2, if_neg a3, if_neg h1, h2, Bool.false_eq_true, if_false]
        case J => exact ⟨by assumption, by assumption, by assumption, by assumption, by assumption⟩)
    · rintro g u h' tk ⟨tT, tB, tX, tP, tD⟩ F2 N2
      w_strict (k_steps)
      all_goals (refine hret _ _ ?_ ?_ <;> assumption))
end Mine
end
section
open PySem PySem.W PyProof.Rows PySem.Calls
set_option Elab.async false
set_option maxRecDepth 100000
set_option maxHeartbeats 8000000
set_option rowWalk.seconds 0
namespace Mine
local macro_rules | `(tactic| k_units) => `(tactic| ktr_units)
local macro_rules | `(tactic| k_room) => `(tactic| ktr_room)
local macro_rules | `(tactic| walk_at "call ref") => `(tactic| (k_here; k_dflt (refine wpAny_call ?_; ktr_enter)))
local macro_rules | `(tactic| walk_at "binaryOp Pow int int") => `(tactic| (with_reducible refine' pow_is ?k1 ?_ ?k2; (case k1 => assumption); (case k2 => rfl)))
local macro_rules | `(tactic| walk_at "binaryOp Mod int int") => `(tactic| (with_reducible refine' mod_is ?k1 ?_; (case k1 => assumption)))
local macro_rules | `(tactic| walk_at "ite") => `(tactic| (first | with_reducible refine ite_tt ?_ | with_reducible refine ite_ff ?_ | with_reducible refine ite_bne ?_ | with_reducible refine ite_beq ?_ | (with_reducible refine ite_dpos (by omega) ?_) | (with_reducible refine ite_dneg (by omega) ?_) | (with_reducible refine ite_dsplit ?_ ?_ <;> intro _)))
local macro_rules | `(tactic| walk_at "exec Raise some none") => `(tactic| (k_here; (with_reducible show wpAny _ _ (exec (Stmt.Raise (some (Expr.Name _ _)) none _) _) _ _ _); (with_reducible rename Fr _ _ _ _ => kF); k_dflt (refine' Raise_classB rfl excClass_ValueError ?hs ?hx ?_; (case hs => rw [isSubtype_type]; kernel_rfl); (case hx => (refine' name_B kF ?k1 ?k2 ?k3 ?k4 ?k5 ?_; (case k1 => k_asm); (case k2 => k_asm); (case k3 => k_is); (case k4 => boot_by_name); (case k5 => decide); exact ⟨rfl, rfl⟩))); intro h' e' x'))
local macro_rules | `(tactic| k_in) => `(tactic| first | with_reducible assumption | exact Frag.In.keeps (by with_reducible assumption) (Fr.keep (by with_reducible assumption)))
local macro_rules | `(tactic| walk_at "call builtin:isinstance") => `(tactic| (k_here; (with_reducible show wpAny _ _ (call _ [Value.int _ _, Value.ref _]) _ _ _); k_dflt (refine' isn_call (P := fun _ => True) ?k1 ?k2 ?k3 ?k4 ?k5 int_cls ?_; (case k1 => k_in); (case k2 => (intro M; exact Looks.of_pure rfl)); (case k3 => k_not); (case k4 => intro e; cases e); (case k5 => trivial); k_whole)))
local macro_rules | `(tactic| walk_at "call builtin:isinstance") => `(tactic| (k_here; (with_reducible show wpAny _ _ (call _ [Value.ref _, Value.ref _]) _ _ _); k_dflt (refine' isi_call ?k1 ?k2 ?k3 ?k4 ?_; (case k1 => k_in); (case k2 => (intro M; exact InstAt.type (by k_inst))); (case k3 => k_is); (case k4 => intro e; cases e); k_whole)))
local macro_rules | `(tactic| k_mem) => `(tactic| first | with_reducible assumption | exact mem_hd | (refine' mem_tl ?_; k_mem))
local macro_rules | `(tactic| k_steps) => `(tactic| repeat' (first | (k_unfold; (try dsimp only)) | (walk1 <;> try dsimp only) | fail "no step"))
local macro_rules | `(tactic| walk_at "compareOp Lt int int") => `(tactic| (first | with_reducible refine lt_t (by omega) ?_ | with_reducible refine lt_f (by omega) ?_))
local macro_rules | `(tactic| walk_at "compareOp Eq int int") => `(tactic| (first | with_reducible refine eq_t (by omega) ?_ | with_reducible refine eq_f (by omega) ?_))
local macro_rules | `(tactic| walk_at "compareOp NotEq int int") => `(tactic| (first | with_reducible refine ne_t (by omega) ?_ | with_reducible refine ne_f (by omega) ?_))
theorem eqcall_c {w : World} {p : Program} {loose : List Str} {mean : ExcName → Option Value} {mg mb : Str → Option Value}
  {dp un : Nat} {gd : Option (List Code)} {cn : Str} {cs : Scope} {a : Addr} {ccd : Value} {cl : List (Str × Addr)} {outer : List Env} {A₀ : Around} {base h₀ : Heap} {L : Addr} {m : Str → Option Value} {news : List (Addr × Obj)} {s : Shared} {Q E : Value → Shared → Prop}
  {x y : Addr} {A B bx b2 : Int}
  (BB : Below A₀ base outer h₀) (F : Fr h₀ L s.heap m) (X : (Mine.hd.heap_39 w.params).In h₀) (N : News h₀ L s.heap news) (T : Top p loose mean mg mb h₀) (hk : cs.kind = .function) (hd : dp + 8 < recursionLimit) (hu : un + 64 < cLine)
  (hS : SerIn w.params news x A bx) (hS2 : SerIn w.params news y B b2) (hne : bx < b2 ∨ b2 < bx)
  (hret : ∀ h' tk', Fr h₀ L h' m → News h₀ L h' news → Q .notImplemented { s with heap := h', toks := tk' }) :
  wpAny (model pw w) (ktrTop dp un gd cn cs L a ccd cl outer) (call (.ref 43) [.ref x, .ref y]) Q E s := by
  have fill : Mine.hd.heap_39 = Mine.hd.heap_39 ∧ PySem.Challenge.rw_fx0001_01 = PySem.Challenge.rw_fx0001_01 := by k_fill; exact ⟨rfl, rfl⟩
  clear fill
  w_on
  obtain ⟨dx, k1, k2, t1, t2, hx1, hx2⟩ := hS
  obtain ⟨dy, l1, l2, u1, u2, hy1, hy2⟩ := hS2
  w_strict (k_steps)
  all_goals (refine hret _ _ ?_ ?_ <;> assumption)
section
variable {prog : Program} {w : World} {A : Around} {E : Value → Shared → Prop} {s : Shared} {K : Frag} {x y C f : Addr} {ox oy : Obj} {od od' : Option Obj}
theorem same_two {Q : Value → Shared → Prop} (I : InstAt s.heap x ox C od) (I' : InstAt s.heap y oy C od') (hxy : x ≠ y) (h : Q (.bool false) s) :
    wpAny (model prog w) A (do rule "compare.eq-identity"; return .bool (← isSame (.ref x) (.ref y))) Q E s := by
  refine wpAny_bind (wpAny_rule (wpAny_bind ?_))
  unfold isSame
  dsimp only
  rw [if_neg (by simpa using hxy)]
  refine wpAny_bind (wpAny_load I.at_ (wpAny_bind (wpAny_load I'.at_ ?_)))
  rw [I.cls, I'.cls]
  exact wpAny_pure (wpAny_pure h)
theorem eq_differ {Q : Value → Shared → Prop} {P : Shared → Prop} (hu : A.units < cLine) (X : K.In s.heap) (I : InstAt s.heap x ox C od) (I' : InstAt s.heap y oy C od')
    (hs : findIn K (.ref C) "__eq__" = some (some (.ref f))) (hf : isFn K (.ref f) = true) (hxy : x ≠ y)
    (hP : ∀ s₁, P s₁ → K.In s₁.heap ∧ InstAt s₁.heap x ox C od ∧ InstAt s₁.heap y oy C od')
    (h1 : wpAny (model prog w) A (call (.ref f) [.ref x, .ref y]) (fun v s₁ => v = .notImplemented ∧ P s₁) E s)
    (h2 : ∀ s₁, P s₁ → wpAny (model prog w) A (call (.ref f) [.ref y, .ref x]) (fun v s₂ => v = .notImplemented ∧ P s₂ ∧ Q (.bool false) s₂) E s₁) :
    wpAny (model prog w) A (compareOp .Eq (.ref x) (.ref y)) Q E s := by
  refine cmp_ofEq ?_
  have one : wpAny (model prog w) A (tryCompare (.ref x) (cmpInfo .Eq).2.1 (.ref y)) (fun r s' => r = none ∧ P s') E s := by
    unfold tryCompare
    refine wpAny_bind (ifBound_K X I hs hf (wpAny_mono h1 (fun v s' hv => ?_) fun _ _ e => e))
    obtain ⟨rfl, hp⟩ := hv
    exact wpAny_pure ⟨rfl, hp⟩
  have two : ∀ s₁, P s₁ → wpAny (model prog w) A (tryCompare (.ref y) (cmpInfo .Eq).2.2 (.ref x)) (fun r s' => r = none ∧ P s' ∧ Q (.bool false) s') E s₁ := by
    intro s₁ hp₁
    obtain ⟨X₁, _, I₁⟩ := hP s₁ hp₁
    unfold tryCompare
    refine wpAny_bind (ifBound_K X₁ I₁ hs hf (wpAny_mono (h2 s₁ hp₁) (fun v s' hv => ?_) fun _ _ e => e))
    obtain ⟨rfl, hp⟩ := hv
    exact wpAny_pure ⟨rfl, hp⟩
  unfold richCompare
  simp only [oneThing_ref]
  refine wpAny_holding (wpAny_bind (wpAny_cRoomFor hu ?_))
  refine wpAny_bind (I.type.here (wpAny_bind (I'.type.here ?_)))
  rw [if_neg (by simp)]
  refine wpAny_bind (wpAny_pure ?_)
  simp only [Bool.false_eq_true, if_false]
  refine wpAny_bind (wpAny_mono one (fun r s' z => ?_) fun _ _ e => e)
  obtain ⟨rfl, hp⟩ := z
  simp only [Bool.not_false, if_true]
  refine wpAny_bind (wpAny_mono (two s' hp) (fun r s'' z => ?_) fun _ _ e => e)
  obtain ⟨rfl, hp, hq⟩ := z
  obtain ⟨_, I₂, I₂'⟩ := hP s'' hp
  exact same_two I₂ I₂' hxy hq
end
theorem eq_differ_c {w : World} {p : Program} {loose : List Str} {mean : ExcName → Option Value} {mg mb : Str → Option Value}
  {dp un : Nat} {gd : Option (List Code)} {cn : Str} {cs : Scope} {a : Addr} {ccd : Value} {cl : List (Str × Addr)} {outer : List Env} {A₀ : Around} {base h₀ : Heap} {L : Addr} {m : Str → Option Value} {news : List (Addr × Obj)} {s : Shared} {Q E : Value → Shared → Prop}
  {x y : Addr} {A B bx b2 : Int}
  (BB : Below A₀ base outer h₀) (F : Fr h₀ L s.heap m) (X : (Mine.hd.heap_39 w.params).In h₀) (N : News h₀ L s.heap news) (T : Top p loose mean mg mb h₀) (hk : cs.kind = .function) (hd : dp + 16 < recursionLimit) (hu : un + 128 < cLine)
  (hS : SerIn w.params news x A bx) (hS2 : SerIn w.params news y B b2) (hne : bx < b2 ∨ b2 < bx) (hxy : x ≠ y)
  (hret : ∀ h' tk', Fr h₀ L h' m → News h₀ L h' news → Q (.bool false) { s with heap := h', toks := tk' }) :
  wpAny (model pw w) (ktrTop dp un gd cn cs L a ccd cl outer) (compareOp .Eq (.ref x) (.ref y)) Q E s := by
  have fill : Mine.hd.heap_39 = Mine.hd.heap_39 ∧ PySem.Challenge.rw_fx0001_01 = PySem.Challenge.rw_fx0001_01 := by k_fill; exact ⟨rfl, rfl⟩
  clear fill
  w_on
  have hS' := hS
  have hS2' := hS2
  obtain ⟨dx, k1, k2, t1, t2, hx1, hx2⟩ := hS
  obtain ⟨dy, l1, l2, u1, u2, hy1, hy2⟩ := hS2
  refine eq_differ (f := 43) (K := Mine.hd.heap_39 w.params) (P := fun s₁ => ∃ h' tk', s₁ = { s with heap := h', toks := tk' } ∧ Fr h₀ L h' m ∧ News h₀ L h' news) (by ktr_units) (X.keeps F.keep) (InstAt.of_news N hx1 hx2) (InstAt.of_news N hy1 hy2) (by k_is) (by k_is) hxy ?_ ?_ ?_
  · rintro s₁ ⟨h', tk', rfl, F1, N1⟩
    exact ⟨X.keeps F1.keep, InstAt.of_news N1 hx1 hx2, InstAt.of_news N1 hy1 hy2⟩
  · exact eqcall_c BB F X N T hk (by omega) (by omega) hS' hS2' hne fun h' tk' F1 N1 => ⟨rfl, h', tk', rfl, F1, N1⟩
  · rintro s₁ ⟨h', tk', rfl, F1, N1⟩
    exact eqcall_c BB F1 X N1 T hk (by omega) (by omega) hS2' hS' hne.symm fun h'' tk'' F2 N2 => ⟨rfl, ⟨h'', tk'', rfl, F2, N2⟩, hret _ _ F2 N2⟩
end Mine
end
section
open PySem PySem.W PyProof.Rows PySem.Calls
set_option Elab.async false
set_option maxRecDepth 100000
set_option maxHeartbeats 8000000
namespace Mine
section
variable {prog : Program} {w : World} {A : Around} {E : Value → Shared → Prop} {s : Shared} {Q : Value → Shared → Prop} {v c n : Int} {t u : Tok}
theorem pow_new {b : Int} (h0 : 0 ≤ n) (h1 : n ≤ 1000) (h : ∀ c, PowAt n c → 0 < c → Q (.int c s.toks) { s with toks := s.toks + 1 }) (hb : b = 2) : wpAny (model prog w) A (binaryOp .Pow (.int b t) (.int n u)) Q E s := by
  subst hb
  refine pow_int_small h0 (by omega) (by decide) (h _ ⟨h0, h1, rfl⟩ (kbt_pos _))
theorem mod_new (hc : 0 < c) (h : ∀ r, ModAt v c r → 0 ≤ r → r < c → Q (.int r s.toks) { s with toks := s.toks + 1 }) : wpAny (model prog w) A (binaryOp .Mod (.int v t) (.int c u)) Q E s := by
  obtain ⟨r, hr⟩ := mod_ex v hc
  exact mod_is hr (h r hr hr.lo hr.hi)
theorem mod_small (h0 : 0 ≤ v) (h1 : v < c) (h : Q (.int v s.toks) { s with toks := s.toks + 1 }) : wpAny (model prog w) A (binaryOp .Mod (.int v t) (.int c u)) Q E s :=
  mod_is (mod_mk (q := 0) h0 h1 (by omega)) h
theorem half_new {b : Int} (hp : PowAt n c) (h1 : 1 ≤ n) (h2 : n ≤ 40) (hq : ∀ h, PowAt (n - 1) h → c = 2 * h → (0 < c ∧ c < 2 ^ 60) → 1 ≤ h → Q (.int h s.toks) { s with toks := s.toks + 1 }) (hb : b = 2) : wpAny (model prog w) A (binaryOp .FloorDiv (.int c t) (.int b u)) Q E s := by
  have e : c = 2 * 2 ^ (n - 1).toNat := by
    have e1 : n.toNat = (n - 1).toNat + 1 := by omega
    rw [hp.eq, e1, Int.pow_succ, Int.mul_comm]
  have p : (0 : Int) < 2 ^ (n - 1).toNat := kbt_pos _
  have q : (2 : Int) ^ (n - 1).toNat ≤ 2 ^ 40 := by
    have : (2 : Nat) ^ (n - 1).toNat ≤ 2 ^ 40 := Nat.pow_le_pow_right (by decide) (by omega)
    have k := kbt_cast (n - 1).toNat
    have k2 := kbt_cast 40
    omega
  have b60 : 0 < c ∧ c < 2 ^ 60 := by
    constructor
    · omega
    · have : (2 : Int) ^ 40 * 2 < 2 ^ 60 := by decide
      omega
  exact half_is e b60 (hq _ ⟨by omega, by have := hp.hi; omega, rfl⟩ e b60 (by omega)) hb
end
section
variable {prog : Program} {w : World} {A : Around} {E : Value → Shared → Prop} {s : Shared} {Q : Value → Shared → Prop}
theorem ints_at {vs : List Value} {ns : List Int} (hi : IntsAre vs ns) {i : Nat} (h : i < ns.length) : ∃ z t, vs[i]? = some (.int z t) := by
  obtain ⟨t, ht⟩ := hi.get i ns[i] (by simp [h])
  exact ⟨_, t, ht⟩
theorem item_new {value slice : PySem.Expr} {l : Addr} {vs : List Value} {ns : List Int} {k : Int} {u : Tok} (hl : s.heap.IsList l vs.toArray) (hi : IntsAre vs ns)
    (h0 : -(ns.length : Int) ≤ k) (h1 : k < (ns.length : Int)) (h2 : ns.length < 1000) (h : ∀ z t, Q (.int z t) s)
    (hs : subscripted slice false (.ref l) (.int k u) = operate [.ref l, .int k u] (getItem (.ref l) (.int k u)) := by with_unfolding_all rfl) :
    wpAny (model prog w) A (subscriptTail value slice (.ref l) (.int k u)) Q E s := by
  have hz : vs.toArray.size = ns.length := by simp [hi.length]
  by_cases hk : 0 ≤ k
  · obtain ⟨z, t, hx⟩ := ints_at hi (i := k.toNat) (by omega)
    exact tail_any hl.typeIs slot_list_getitem.lookup (wpAny_getItem_list hl hk (by omega) (by simpa using hx) (h z t)) hs
  · obtain ⟨z, t, hx⟩ := ints_at hi (i := (k + ns.length).toNat) (by omega)
    exact tail_any hl.typeIs slot_list_getitem.lookup (wpAny_getItem_list_neg hl (by omega) (by rw [hz]; omega) (by omega) (by rw [hz]; simpa using hx) (h z t)) hs
end
theorem moves_c {w : World} {p : Program} {loose : List Str} {mean : ExcName → Option Value} {mg mb : Str → Option Value}
  {dp un : Nat} {gd : Option (List Code)} {cn : Str} {cs : Scope} {a : Addr} {ccd : Value} {A₀ : Around} {h₀ : Heap} {L : Addr} {m : Str → Option Value} {news : List (Addr × Obj)} {s : Shared} {Q E : Value → Shared → Prop}
  {v : Value} {A number delta bits c h : Int} {tn tb td : Tok}
  (BB : Below A₀ h₀ [] h₀) (F : Fr h₀ L s.heap m) (X : (Mine.hd.heap_39 w.params).In h₀) (N : News h₀ L s.heap news) (T : Top p loose mean mg mb h₀) (hk : cs.kind = .function) (hd : dp + 64 < recursionLimit) (hu : un + 512 < cLine)
  (hG : GivIs w.params news delta v) (hP : PowAt bits c) (hP1 : PowAt (bits - 1) h) (hc : c = 2 * h) (hA : ModAt number c A) (hcp : 0 < c ∧ c < 2 ^ 60)
  (hret : ∀ h' tk', Fr h₀ L h' m → News h₀ L h' news → Q (.bool true) { s with heap := h', toks := tk' }) :
  wpAny (model pw w) { handled := none, depth := dp, frames := some (envOf cn cs L a ccd :: []), guards := gd, units := un } (call (.ref 134) [.int number tn, .int bits tb, v, .int delta td]) Q E s := by
  by_cases hf : -h < delta ∧ delta < h
  · exact moves_fit_c BB F X N T hk hd hu hG hP hP1 hc hA hcp hf.1 hf.2 hret
  · exact moves_bad_c BB F X N T hk hd hu hG hP hP1 hc hA hcp (by omega) hret
end Mine
end
section
open PySem PySem.W PyProof.Rows PySem.Calls
set_option Elab.async false
set_option maxRecDepth 100000
set_option maxHeartbeats 8000000
set_option rowWalk.seconds 0
namespace Mine
local macro_rules | `(tactic| k_units) => `(tactic| ktr_units)
local macro_rules | `(tactic| k_room) => `(tactic| ktr_room)
local macro_rules | `(tactic| walk_at "call ref") => `(tactic| (k_here; k_dflt (refine wpAny_call ?_; ktr_enter)))
local macro_rules | `(tactic| walk_at "binaryOp Pow int int") => `(tactic| (with_reducible refine' pow_is ?k1 ?_ ?k2; (case k1 => assumption); (case k2 => rfl)))
local macro_rules | `(tactic| walk_at "binaryOp Mod int int") => `(tactic| (with_reducible refine' mod_is ?k1 ?_; (case k1 => assumption)))
local macro_rules | `(tactic| walk_at "ite") => `(tactic| (first | with_reducible refine ite_tt ?_ | with_reducible refine ite_ff ?_ | with_reducible refine ite_bne ?_ | with_reducible refine ite_beq ?_ | (with_reducible refine ite_dpos (by omega) ?_) | (with_reducible refine ite_dneg (by omega) ?_) | (with_reducible refine ite_dsplit ?_ ?_ <;> intro _)))
local macro_rules | `(tactic| walk_at "exec Raise some none") => `(tactic| (k_here; (with_reducible show wpAny _ _ (exec (Stmt.Raise (some (Expr.Name _ _)) none _) _) _ _ _); (with_reducible rename Fr _ _ _ _ => kF); k_dflt (refine' Raise_classB rfl excClass_ValueError ?hs ?hx ?_; (case hs => rw [isSubtype_type]; kernel_rfl); (case hx => (refine' name_B kF ?k1 ?k2 ?k3 ?k4 ?k5 ?_; (case k1 => k_asm); (case k2 => k_asm); (case k3 => k_is); (case k4 => boot_by_name); (case k5 => decide); exact ⟨rfl, rfl⟩))); intro h' e' x'))
local macro_rules | `(tactic| k_in) => `(tactic| first | with_reducible assumption | exact Frag.In.keeps (by with_reducible assumption) (Fr.keep (by with_reducible assumption)))
local macro_rules | `(tactic| walk_at "call builtin:isinstance") => `(tactic| (k_here; (with_reducible show wpAny _ _ (call _ [Value.int _ _, Value.ref _]) _ _ _); k_dflt (refine' isn_call (P := fun _ => True) ?k1 ?k2 ?k3 ?k4 ?k5 int_cls ?_; (case k1 => k_in); (case k2 => (intro M; exact Looks.of_pure rfl)); (case k3 => k_not); (case k4 => intro e; cases e); (case k5 => trivial); k_whole)))
local macro_rules | `(tactic| walk_at "call builtin:isinstance") => `(tactic| (k_here; (with_reducible show wpAny _ _ (call _ [Value.ref _, Value.ref _]) _ _ _); k_dflt (refine' isi_call ?k1 ?k2 ?k3 ?k4 ?_; (case k1 => k_in); (case k2 => (intro M; exact InstAt.type (by k_inst))); (case k3 => k_is); (case k4 => intro e; cases e); k_whole)))
local macro_rules | `(tactic| k_mem) => `(tactic| first | with_reducible assumption | exact mem_hd | (refine' mem_tl ?_; k_mem))
local macro_rules | `(tactic| k_steps) => `(tactic| repeat' (first | (k_unfold; (try dsimp only)) | (walk1 <;> try dsimp only) | fail "no step"))
local macro_rules | `(tactic| walk_at "call ref") => `(tactic| (k_here; (with_reducible show wpAny _ _ (call (Value.ref 116) [_, _] _) _ _ _); k_dflt (refine' call_cls ?k1 ?k2 ?k3 ?k4 ?k5 ?k6 ?_; (case k1 => k_asm); (case k2 => k_asm); (case k3 => k_asm); (case k4 => k_is); (case k5 => k_is); (case k6 => k_is); k_whole; intro x' d' h' F' N' l1 l2; (try k_lt l1); (try k_lt2 l2); (try k_sweep); (refine' code_def ?k1 ?k2 ?k3 ?k4 ?k5 ?kA ?kF ?kK ?k6 ?k7 ?k8 ?k9 ?kB ?_ ?c2 ?c3 ?c4 ?c5; (case kA => exact rfl); (case kF => exact rfl); (case kK => assumption); (case k2 => k_asm); (case k1 => k_asm); (case k3 => k_asm); (case k4 => k_asm); (case k5 => k_asm); (case k6 => k_is); (case k7 => k_is); (case k8 => ktr_room); (case k9 => first | exact BindsTo.of_eq rfl | exact binds_K (by k_in) rfl (by k_is) rfl rfl rfl); (case c5 => decide); (case kB => exact locs rfl); (case c2 => exact rfl); (case c3 => exact rfl); (case c4 => exact rfl); k_whole; intro g' L' h' FG' F' N' B' X' T'; (try dsimp only); (try k_fold)))))
local macro_rules | `(tactic| walk_at "call ref") => `(tactic| (k_here; (with_reducible show wpAny _ _ (call (Value.ref 116) [_] _) _ _ _); k_dflt (refine' call_cls ?k1 ?k2 ?k3 ?k4 ?k5 ?k6 ?_; (case k1 => k_asm); (case k2 => k_asm); (case k3 => k_asm); (case k4 => k_is); (case k5 => k_is); (case k6 => k_is); k_whole; intro x' d' h' F' N' l1 l2; (try k_lt l1); (try k_lt2 l2); (try k_sweep); (refine' code_def ?k1 ?k2 ?k3 ?k4 ?k5 ?kA ?kF ?kK ?k6 ?k7 ?k8 ?k9 ?kB ?_ ?c2 ?c3 ?c4 ?c5; (case kA => exact rfl); (case kF => exact rfl); (case kK => assumption); (case k2 => k_asm); (case k1 => k_asm); (case k3 => k_asm); (case k4 => k_asm); (case k5 => k_asm); (case k6 => k_is); (case k7 => k_is); (case k8 => ktr_room); (case k9 => exact binds_K (by k_in) rfl (by k_is) rfl rfl rfl); (case c5 => decide); (case kB => exact locs rfl); (case c2 => exact rfl); (case c3 => exact rfl); (case c4 => exact rfl); k_whole; intro g' L' h' FG' F' N' B' X' T'; (try dsimp only); (try k_fold)))))
theorem new2_c {w : World} {p : Program} {loose : List Str} {mean : ExcName → Option Value} {mg mb : Str → Option Value}
  {dp un : Nat} {gd : Option (List Code)} {cn : Str} {cs : Scope} {a : Addr} {ccd : Value} {cl : List (Str × Addr)} {outer : List Env} {A₀ : Around} {base h₀ : Heap} {L : Addr} {m : Str → Option Value} {news : List (Addr × Obj)} {s : Shared} {Q E : Value → Shared → Prop}
  {v r c bits : Int} {tv tb : Tok}
  (BB : Below A₀ base outer h₀) (F : Fr h₀ L s.heap m) (X : (Mine.hd.heap_39 w.params).In h₀) (N : News h₀ L s.heap news) (T : Top p loose mean mg mb h₀) (hk : cs.kind = .function) (hd : dp + 8 < recursionLimit) (hu : un + 64 < cLine)
  (hP : PowAt bits c) (hA : ModAt v c r)
  (hret : ∀ x dx k1 k2 t1 t2 h' tk', Fr h₀ L h' m → News h₀ L h' ((x, instObj 116 dx) :: (dx, serD w.params r bits k1 k2 t1 t2) :: news) → Q (.ref x) { s with heap := h', toks := tk' }) :
  wpAny (model pw w) (ktrTop dp un gd cn cs L a ccd cl outer) (call (.ref 116) [.int v tv, .int bits tb]) Q E s := by
  have fill : Mine.hd.heap_39 = Mine.hd.heap_39 ∧ PySem.Challenge.rw_fx0001_01 = PySem.Challenge.rw_fx0001_01 := by k_fill; exact ⟨rfl, rfl⟩
  clear fill
  w_on

  w_strict (k_steps)
  all_goals (refine' hret _ _ _ _ _ _ _ _ ?kF ?kN; (case kF => k_asm); (case kN => with_reducible assumption))
theorem new1_c {w : World} {p : Program} {loose : List Str} {mean : ExcName → Option Value} {mg mb : Str → Option Value}
  {dp un : Nat} {gd : Option (List Code)} {cn : Str} {cs : Scope} {a : Addr} {ccd : Value} {cl : List (Str × Addr)} {outer : List Env} {A₀ : Around} {base h₀ : Heap} {L : Addr} {m : Str → Option Value} {news : List (Addr × Obj)} {s : Shared} {Q E : Value → Shared → Prop}
  {v r c : Int} {tv : Tok}
  (BB : Below A₀ base outer h₀) (F : Fr h₀ L s.heap m) (X : (Mine.hd.heap_39 w.params).In h₀) (N : News h₀ L s.heap news) (T : Top p loose mean mg mb h₀) (hk : cs.kind = .function) (hd : dp + 8 < recursionLimit) (hu : un + 64 < cLine)
  (hP : PowAt 32 c) (hA : ModAt v c r)
  (hret : ∀ x dx k1 k2 t1 t2 h' tk', Fr h₀ L h' m → News h₀ L h' ((x, instObj 116 dx) :: (dx, serD w.params r 32 k1 k2 t1 t2) :: news) → Q (.ref x) { s with heap := h', toks := tk' }) :
  wpAny (model pw w) (ktrTop dp un gd cn cs L a ccd cl outer) (call (.ref 116) [.int v tv]) Q E s := by
  have fill : Mine.hd.heap_39 = Mine.hd.heap_39 ∧ PySem.Challenge.rw_fx0001_01 = PySem.Challenge.rw_fx0001_01 := by k_fill; exact ⟨rfl, rfl⟩
  clear fill
  w_on

  w_strict (k_steps)
  all_goals (refine' hret _ _ _ _ _ _ _ _ ?kF ?kN; (case kF => k_asm); (case kN => with_reducible assumption))
end Mine
end
section
open PySem PySem.W PyProof.Rows PySem.Calls
set_option Elab.async false
set_option maxRecDepth 100000
set_option maxHeartbeats 8000000
set_option rowWalk.seconds 0
namespace Mine
local macro_rules | `(tactic| k_units) => `(tactic| ktr_units)
local macro_rules | `(tactic| k_room) => `(tactic| ktr_room)
local macro_rules | `(tactic| walk_at "call ref") => `(tactic| (k_here; k_dflt (refine wpAny_call ?_; ktr_enter)))
local macro_rules | `(tactic| walk_at "binaryOp Pow int int") => `(tactic| (with_reducible refine' pow_is ?k1 ?_ ?k2; (case k1 => assumption); (case k2 => rfl)))
local macro_rules | `(tactic| walk_at "binaryOp Mod int int") => `(tactic| (with_reducible refine' mod_is ?k1 ?_; (case k1 => assumption)))
local macro_rules | `(tactic| walk_at "ite") => `(tactic| (first | with_reducible refine ite_tt ?_ | with_reducible refine ite_ff ?_ | with_reducible refine ite_bne ?_ | with_reducible refine ite_beq ?_ | (with_reducible refine ite_dpos (by omega) ?_) | (with_reducible refine ite_dneg (by omega) ?_) | (with_reducible refine ite_dsplit ?_ ?_ <;> intro _)))
local macro_rules | `(tactic| walk_at "exec Raise some none") => `(tactic| (k_here; (with_reducible show wpAny _ _ (exec (Stmt.Raise (some (Expr.Name _ _)) none _) _) _ _ _); (with_reducible rename Fr _ _ _ _ => kF); k_dflt (refine' Raise_classB rfl excClass_ValueError ?hs ?hx ?_; (case hs => rw [isSubtype_type]; kernel_rfl); (case hx => (refine' name_B kF ?k1 ?k2 ?k3 ?k4 ?k5 ?_; (case k1 => k_asm); (case k2 => k_asm); (case k3 => k_is); (case k4 => boot_by_name); (case k5 => decide); exact ⟨rfl, rfl⟩))); intro h' e' x'))
local macro_rules | `(tactic| k_in) => `(tactic| first | with_reducible assumption | exact Frag.In.keeps (by with_reducible assumption) (Fr.keep (by with_reducible assumption)))
local macro_rules | `(tactic| walk_at "call builtin:isinstance") => `(tactic| (k_here; (with_reducible show wpAny _ _ (call _ [Value.int _ _, Value.ref _]) _ _ _); k_dflt (refine' isn_call (P := fun _ => True) ?k1 ?k2 ?k3 ?k4 ?k5 int_cls ?_; (case k1 => k_in); (case k2 => (intro M; exact Looks.of_pure rfl)); (case k3 => k_not); (case k4 => intro e; cases e); (case k5 => trivial); k_whole)))
local macro_rules | `(tactic| walk_at "call builtin:isinstance") => `(tactic| (k_here; (with_reducible show wpAny _ _ (call _ [Value.ref _, Value.ref _]) _ _ _); k_dflt (refine' isi_call ?k1 ?k2 ?k3 ?k4 ?_; (case k1 => k_in); (case k2 => (intro M; exact InstAt.type (by k_inst))); (case k3 => k_is); (case k4 => intro e; cases e); k_whole)))
local macro_rules | `(tactic| k_mem) => `(tactic| first | with_reducible assumption | exact mem_hd | (refine' mem_tl ?_; k_mem))
local macro_rules | `(tactic| k_steps) => `(tactic| repeat' (first | (k_unfold; (try dsimp only)) | (walk1 <;> try dsimp only) | fail "no step"))
theorem add_c {w : World} {p : Program} {loose : List Str} {mean : ExcName → Option Value} {mg mb : Str → Option Value}
  {dp un : Nat} {gd : Option (List Code)} {cn : Str} {cs : Scope} {a : Addr} {ccd : Value} {cl : List (Str × Addr)} {outer : List Env} {A₀ : Around} {base h₀ : Heap} {L : Addr} {m : Str → Option Value} {news : List (Addr × Obj)} {s : Shared} {Q E : Value → Shared → Prop}
  {x : Addr} {A z r bits c h : Int} {tz : Tok}
  (BB : Below A₀ base outer h₀) (F : Fr h₀ L s.heap m) (X : (Mine.hd.heap_39 w.params).In h₀) (N : News h₀ L s.heap news) (T : Top p loose mean mg mb h₀) (hk : cs.kind = .function) (hd : dp + 32 < recursionLimit) (hu : un + 256 < cLine)
  (hS : SerIn w.params news x A bits) (hP : PowAt bits c) (hP1 : PowAt (bits - 1) h) (hM : ModAt (A + z) c r) (hd1 : -h < z) (hd2 : z < h)
  (hret : ∀ y dy k1 k2 t1 t2 h' tk', Fr h₀ L h' m → News h₀ L h' ((y, instObj 116 dy) :: (dy, serD w.params r bits k1 k2 t1 t2) :: news) → Q (.ref y) { s with heap := h', toks := tk' }) :
  wpAny (model pw w) (ktrTop dp un gd cn cs L a ccd cl outer) (binaryOp .Add (.ref x) (.int z tz)) Q E s := by
  have fill : Mine.hd.heap_39 = Mine.hd.heap_39 ∧ PySem.Challenge.rw_fx0001_01 = PySem.Challenge.rw_fx0001_01 := by k_fill; exact ⟨rfl, rfl⟩
  clear fill
  w_on
  obtain ⟨dx, k1, k2, t1, t2, hx1, hx2⟩ := hS
  have hM2 := mod_self hM
  w_strict (k_steps)
  all_goals (refine' hret _ _ _ _ _ _ _ _ ?kF ?kN; (case kF => k_asm); (case kN => (with_reducible rename News _ _ _ _ => lN); exact lN))
theorem sub_c {w : World} {p : Program} {loose : List Str} {mean : ExcName → Option Value} {mg mb : Str → Option Value}
  {dp un : Nat} {gd : Option (List Code)} {cn : Str} {cs : Scope} {a : Addr} {ccd : Value} {cl : List (Str × Addr)} {outer : List Env} {A₀ : Around} {base h₀ : Heap} {L : Addr} {m : Str → Option Value} {news : List (Addr × Obj)} {s : Shared} {Q E : Value → Shared → Prop}
  {x : Addr} {A z r bits c h : Int} {tz : Tok}
  (BB : Below A₀ base outer h₀) (F : Fr h₀ L s.heap m) (X : (Mine.hd.heap_39 w.params).In h₀) (N : News h₀ L s.heap news) (T : Top p loose mean mg mb h₀) (hk : cs.kind = .function) (hd : dp + 32 < recursionLimit) (hu : un + 256 < cLine)
  (hS : SerIn w.params news x A bits) (hP : PowAt bits c) (hP1 : PowAt (bits - 1) h) (hM : ModAt (A - z) c r) (hd1 : -h < z) (hd2 : z < h)
  (hret : ∀ y dy k1 k2 t1 t2 h' tk', Fr h₀ L h' m → News h₀ L h' ((y, instObj 116 dy) :: (dy, serD w.params r bits k1 k2 t1 t2) :: news) → Q (.ref y) { s with heap := h', toks := tk' }) :
  wpAny (model pw w) (ktrTop dp un gd cn cs L a ccd cl outer) (binaryOp .Sub (.ref x) (.int z tz)) Q E s := by
  have fill : Mine.hd.heap_39 = Mine.hd.heap_39 ∧ PySem.Challenge.rw_fx0001_01 = PySem.Challenge.rw_fx0001_01 := by k_fill; exact ⟨rfl, rfl⟩
  clear fill
  w_on
  obtain ⟨dx, k1, k2, t1, t2, hx1, hx2⟩ := hS
  have hM2 := mod_self hM
  w_strict (k_steps)
  all_goals (refine' hret _ _ _ _ _ _ _ _ ?kF ?kN; (case kF => k_asm); (case kN => (with_reducible rename News _ _ _ _ => lN); exact lN))
end Mine
end
section
open PySem PySem.W PyProof.Rows PySem.Calls
set_option Elab.async false
set_option maxRecDepth 100000
set_option maxHeartbeats 8000000
set_option rowWalk.seconds 0
namespace Mine
theorem pow_ex (n : Int) (h0 : 0 ≤ n) (h1 : n ≤ 1000) : ∃ c, PowAt n c ∧ 0 < c := ⟨_, ⟨h0, h1, rfl⟩, kbt_pos _⟩
theorem on_is {A z c h : Int} (hc : c = 2 * h) (h0 : 0 ≤ A) (h1 : A < c) (z0 : 0 < z) (z1 : z < h) : ∃ r, ModAt (A + z) c r ∧ Hide ((r < A ∧ h < A - r ∨ A < r ∧ r - A < h) ↔ true = true) ∧ Hide ((A < r ∧ r - A < h ∨ r < A ∧ h < A - r) ↔ true = true) := by
  by_cases q : A + z < c
  · exact ⟨A + z, mod_mk (q := 0) (by omega) q (by omega), ⟨iff_of_true (by omega) rfl⟩, ⟨iff_of_true (by omega) rfl⟩⟩
  · exact ⟨A + z - c, mod_mk (q := 1) (by omega) (by omega) (by omega), ⟨iff_of_true (by omega) rfl⟩, ⟨iff_of_true (by omega) rfl⟩⟩
theorem back_is {A z c h : Int} (hc : c = 2 * h) (h0 : 0 ≤ A) (h1 : A < c) (z0 : 0 < z) (z1 : z < h) : ∃ r, ModAt (A - z) c r ∧ Hide ((r < A ∧ A - r < h ∨ A < r ∧ h < r - A) ↔ true = true) := by
  by_cases q : z ≤ A
  · exact ⟨A - z, mod_mk (q := 0) (by omega) (by omega) (by omega), ⟨iff_of_true (by omega) rfl⟩⟩
  · exact ⟨A - z + c, mod_mk (q := -1) (by omega) (by omega) (by omega), ⟨iff_of_true (by omega) rfl⟩⟩
theorem new2_m {w : World} {p : Program} {loose : List Str} {mean : ExcName → Option Value} {mg mb : Str → Option Value}
  {dp un : Nat} {gd : Option (List Code)} {cn : Str} {cs : Scope} {a : Addr} {ccd : Value} {cl : List (Str × Addr)} {outer : List Env} {A₀ : Around} {base h₀ : Heap} {L : Addr} {m : Str → Option Value} {news : List (Addr × Obj)} {s : Shared} {Q E : Value → Shared → Prop}
  {v c bits : Int} {tv tb : Tok}
  (BB : Below A₀ base outer h₀) (F : Fr h₀ L s.heap m) (X : (Mine.hd.heap_39 w.params).In h₀) (N : News h₀ L s.heap news) (T : Top p loose mean mg mb h₀) (hk : cs.kind = .function) (hd : dp + 16 < recursionLimit) (hu : un + 128 < cLine)
  (hP : PowAt bits c) (hc : 0 < c)
  (hret : ∀ r, ModAt v c r → 0 ≤ r → r < c → ∀ x dx k1 k2 t1 t2 h' tk', Fr h₀ L h' m → News h₀ L h' ((x, instObj 116 dx) :: (dx, serD w.params r bits k1 k2 t1 t2) :: news) → Q (.ref x) { s with heap := h', toks := tk' }) :
  wpAny (model pw w) (ktrTop dp un gd cn cs L a ccd cl outer) (call (.ref 116) [.int v tv, .int bits tb]) Q E s := by
  obtain ⟨r, hr⟩ := mod_ex v hc
  exact new2_c BB F X N T hk (by omega) (by omega) hP hr (hret r hr hr.lo hr.hi)
theorem new2_p {w : World} {p : Program} {loose : List Str} {mean : ExcName → Option Value} {mg mb : Str → Option Value}
  {dp un : Nat} {gd : Option (List Code)} {cn : Str} {cs : Scope} {a : Addr} {ccd : Value} {cl : List (Str × Addr)} {outer : List Env} {A₀ : Around} {base h₀ : Heap} {L : Addr} {m : Str → Option Value} {news : List (Addr × Obj)} {s : Shared} {Q E : Value → Shared → Prop}
  {v bits : Int} {tv tb : Tok}
  (BB : Below A₀ base outer h₀) (F : Fr h₀ L s.heap m) (X : (Mine.hd.heap_39 w.params).In h₀) (N : News h₀ L s.heap news) (T : Top p loose mean mg mb h₀) (hk : cs.kind = .function) (hd : dp + 24 < recursionLimit) (hu : un + 160 < cLine)
  (h0 : 0 ≤ bits) (h1 : bits ≤ 1000)
  (hret : ∀ c, PowAt bits c → 0 < c → ∀ r, ModAt v c r → 0 ≤ r → r < c → ∀ x dx k1 k2 t1 t2 h' tk', Fr h₀ L h' m → News h₀ L h' ((x, instObj 116 dx) :: (dx, serD w.params r bits k1 k2 t1 t2) :: news) → Q (.ref x) { s with heap := h', toks := tk' }) :
  wpAny (model pw w) (ktrTop dp un gd cn cs L a ccd cl outer) (call (.ref 116) [.int v tv, .int bits tb]) Q E s := by
  obtain ⟨c, hP, hc⟩ := pow_ex bits h0 h1
  exact new2_m BB F X N T hk (by omega) (by omega) hP hc (hret c hP hc)
theorem new1_p {w : World} {p : Program} {loose : List Str} {mean : ExcName → Option Value} {mg mb : Str → Option Value}
  {dp un : Nat} {gd : Option (List Code)} {cn : Str} {cs : Scope} {a : Addr} {ccd : Value} {cl : List (Str × Addr)} {outer : List Env} {A₀ : Around} {base h₀ : Heap} {L : Addr} {m : Str → Option Value} {news : List (Addr × Obj)} {s : Shared} {Q E : Value → Shared → Prop}
  {v : Int} {tv : Tok}
  (BB : Below A₀ base outer h₀) (F : Fr h₀ L s.heap m) (X : (Mine.hd.heap_39 w.params).In h₀) (N : News h₀ L s.heap news) (T : Top p loose mean mg mb h₀) (hk : cs.kind = .function) (hd : dp + 24 < recursionLimit) (hu : un + 160 < cLine)
  (hret : ∀ c, PowAt 32 c → 0 < c → ∀ r, ModAt v c r → 0 ≤ r → r < c → ∀ x dx k1 k2 t1 t2 h' tk', Fr h₀ L h' m → News h₀ L h' ((x, instObj 116 dx) :: (dx, serD w.params r 32 k1 k2 t1 t2) :: news) → Q (.ref x) { s with heap := h', toks := tk' }) :
  wpAny (model pw w) (ktrTop dp un gd cn cs L a ccd cl outer) (call (.ref 116) [.int v tv]) Q E s := by
  obtain ⟨c, hP, hc⟩ := pow_ex 32 (by decide) (by decide)
  obtain ⟨r, hr⟩ := mod_ex v hc
  exact new1_c BB F X N T hk (by omega) (by omega) hP hr (hret c hP hc r hr hr.lo hr.hi)
theorem eq_differ_n {w : World} {p : Program} {loose : List Str} {mean : ExcName → Option Value} {mg mb : Str → Option Value}
  {dp un : Nat} {gd : Option (List Code)} {cn : Str} {cs : Scope} {a : Addr} {ccd : Value} {cl : List (Str × Addr)} {outer : List Env} {A₀ : Around} {base h₀ : Heap} {L : Addr} {m : Str → Option Value} {news : List (Addr × Obj)} {s : Shared} {Q E : Value → Shared → Prop}
  {x y : Addr} {A B bx b2 : Int}
  (BB : Below A₀ base outer h₀) (F : Fr h₀ L s.heap m) (X : (Mine.hd.heap_39 w.params).In h₀) (N : News h₀ L s.heap news) (T : Top p loose mean mg mb h₀) (hk : cs.kind = .function) (hd : dp + 24 < recursionLimit) (hu : un + 160 < cLine)
  (hS : SerIn w.params news x A bx) (hS2 : SerIn w.params news y B b2) (hne : bx < b2 ∨ b2 < bx)
  (hret : ∀ h' tk', Fr h₀ L h' m → News h₀ L h' news → Q (.bool false) { s with heap := h', toks := tk' }) :
  wpAny (model pw w) (ktrTop dp un gd cn cs L a ccd cl outer) (compareOp .Eq (.ref x) (.ref y)) Q E s := by
  have hxy : x ≠ y := by
    rintro rfl
    obtain ⟨dx, k1, k2, t1, t2, hx1, hx2⟩ := hS
    obtain ⟨dy, l1, l2, u1, u2, hy1, hy2⟩ := hS2
    have e1 : some (instObj 116 dx) = some (instObj 116 dy) := (N _ hx1).1.symm.trans (N _ hy1).1
    have e2 : dx = dy := by
      simp only [instObj, Option.some.injEq, Obj.mk.injEq] at e1
      simp_all
    subst e2
    have e3 := Option.some.inj ((N _ hx2).1.symm.trans (N _ hy2).1)
    have e4 : bx = b2 := by
      simp only [serD, dictOf, Obj.mk.injEq] at e3
      simp_all
    omega
  exact eq_differ_c BB F X N T hk (by omega) (by omega) hS hS2 hne hxy hret
theorem add_l {w : World} {p : Program} {loose : List Str} {mean : ExcName → Option Value} {mg mb : Str → Option Value}
  {dp un : Nat} {gd : Option (List Code)} {cn : Str} {cs : Scope} {a : Addr} {ccd : Value} {cl : List (Str × Addr)} {outer : List Env} {A₀ : Around} {base h₀ : Heap} {L : Addr} {m : Str → Option Value} {news : List (Addr × Obj)} {s : Shared} {Q E : Value → Shared → Prop}
  {x : Addr} {A z bits c h : Int} {tz : Tok}
  (BB : Below A₀ base outer h₀) (F : Fr h₀ L s.heap m) (X : (Mine.hd.heap_39 w.params).In h₀) (N : News h₀ L s.heap news) (T : Top p loose mean mg mb h₀) (hk : cs.kind = .function) (hd : dp + 40 < recursionLimit) (hu : un + 300 < cLine)
  (hS : SerIn w.params news x A bits) (hP : PowAt bits c) (hP1 : PowAt (bits - 1) h) (hc : c = 2 * h) (h0 : 0 ≤ A) (h1 : A < c) (z0 : 0 < z) (z1 : z < h)
  (hret : ∀ r, Hide ((r < A ∧ h < A - r ∨ A < r ∧ r - A < h) ↔ true = true) → Hide ((A < r ∧ r - A < h ∨ r < A ∧ h < A - r) ↔ true = true) → ∀ x dx k1 k2 t1 t2 h' tk', Fr h₀ L h' m → News h₀ L h' ((x, instObj 116 dx) :: (dx, serD w.params r bits k1 k2 t1 t2) :: news) → Q (.ref x) { s with heap := h', toks := tk' }) :
  wpAny (model pw w) (ktrTop dp un gd cn cs L a ccd cl outer) (binaryOp .Add (.ref x) (.int z tz)) Q E s := by
  obtain ⟨r, hr, f0, f1⟩ := on_is hc h0 h1 z0 z1
  exact add_c BB F X N T hk (by omega) (by omega) hS hP hP1 hr (by omega) z1 (hret r f0 f1)
theorem sub_l {w : World} {p : Program} {loose : List Str} {mean : ExcName → Option Value} {mg mb : Str → Option Value}
  {dp un : Nat} {gd : Option (List Code)} {cn : Str} {cs : Scope} {a : Addr} {ccd : Value} {cl : List (Str × Addr)} {outer : List Env} {A₀ : Around} {base h₀ : Heap} {L : Addr} {m : Str → Option Value} {news : List (Addr × Obj)} {s : Shared} {Q E : Value → Shared → Prop}
  {x : Addr} {A z bits c h : Int} {tz : Tok}
  (BB : Below A₀ base outer h₀) (F : Fr h₀ L s.heap m) (X : (Mine.hd.heap_39 w.params).In h₀) (N : News h₀ L s.heap news) (T : Top p loose mean mg mb h₀) (hk : cs.kind = .function) (hd : dp + 40 < recursionLimit) (hu : un + 300 < cLine)
  (hS : SerIn w.params news x A bits) (hP : PowAt bits c) (hP1 : PowAt (bits - 1) h) (hc : c = 2 * h) (h0 : 0 ≤ A) (h1 : A < c) (z0 : 0 < z) (z1 : z < h)
  (hret : ∀ r, Hide ((r < A ∧ A - r < h ∨ A < r ∧ h < r - A) ↔ true = true) → ∀ x dx k1 k2 t1 t2 h' tk', Fr h₀ L h' m → News h₀ L h' ((x, instObj 116 dx) :: (dx, serD w.params r bits k1 k2 t1 t2) :: news) → Q (.ref x) { s with heap := h', toks := tk' }) :
  wpAny (model pw w) (ktrTop dp un gd cn cs L a ccd cl outer) (binaryOp .Sub (.ref x) (.int z tz)) Q E s := by
  obtain ⟨r, hr, f0⟩ := back_is hc h0 h1 z0 z1
  exact sub_c BB F X N T hk (by omega) (by omega) hS hP hP1 hr (by omega) z1 (hret r f0)
end Mine
end
section
open PySem PySem.W PyProof.Rows PySem.Calls
set_option Elab.async false
set_option maxRecDepth 100000
set_option maxHeartbeats 8000000
set_option rowWalk.seconds 0
namespace Mine
local macro_rules | `(tactic| walk_at "ite") => `(tactic| (first | with_reducible refine ite_tt ?_ | with_reducible refine ite_ff ?_ | with_reducible refine ite_bne ?_ | with_reducible refine ite_beq ?_ | (with_reducible refine ite_dpos (by omega) ?_) | (with_reducible refine ite_dneg (by omega) ?_) | (with_reducible refine ite_dsplit ?_ ?_ <;> intro _)))
local macro_rules | `(tactic| walk_at "exec Raise some none") => `(tactic| (k_here; (with_reducible show wpAny _ _ (exec (Stmt.Raise (some (Expr.Name _ _)) none _) _) _ _ _); (with_reducible rename Fr _ _ _ _ => kF); k_dflt (refine' Raise_classB rfl excClass_ValueError ?hs ?hx ?_; (case hs => rw [isSubtype_type]; kernel_rfl); (case hx => (refine' name_B kF ?k1 ?k2 ?k3 ?k4 ?k5 ?_; (case k1 => k_asm); (case k2 => k_asm); (case k3 => k_is); (case k4 => boot_by_name); (case k5 => decide); exact ⟨rfl, rfl⟩))); intro h' e' x'))
local macro_rules | `(tactic| k_in) => `(tactic| first | with_reducible assumption | exact Frag.In.keeps (by with_reducible assumption) (Fr.keep (by with_reducible assumption)))
local macro_rules | `(tactic| walk_at "call builtin:isinstance") => `(tactic| (k_here; (with_reducible show wpAny _ _ (call _ [Value.int _ _, Value.ref _]) _ _ _); k_dflt (refine' isn_call (P := fun _ => True) ?k1 ?k2 ?k3 ?k4 ?k5 int_cls ?_; (case k1 => k_in); (case k2 => (intro M; exact Looks.of_pure rfl)); (case k3 => k_not); (case k4 => intro e; cases e); (case k5 => trivial); k_whole)))
local macro_rules | `(tactic| walk_at "call builtin:isinstance") => `(tactic| (k_here; (with_reducible show wpAny _ _ (call _ [Value.ref _, Value.ref _]) _ _ _); k_dflt (refine' isi_call ?k1 ?k2 ?k3 ?k4 ?_; (case k1 => k_in); (case k2 => (intro M; exact InstAt.type (by k_inst))); (case k3 => k_is); (case k4 => intro e; cases e); k_whole)))
local macro_rules | `(tactic| k_mem) => `(tactic| first | with_reducible assumption | exact mem_hd | (refine' mem_tl ?_; k_mem))
local macro_rules | `(tactic| walk_at "binaryOp Pow int int") => `(tactic| (first | (with_reducible refine' pow_is ?k1 ?_ ?k2; (case k1 => assumption); (case k2 => rfl)) | ((with_reducible refine' pow_new ?k1 ?k2 ?_ ?k3; (case k1 => omega); (case k2 => omega); (case k3 => rfl)); intro c' hP' hp')))
local macro_rules | `(tactic| walk_at "binaryOp Mod int int") => `(tactic| (first | (with_reducible refine' mod_is ?k1 ?_; (case k1 => assumption)) | (with_reducible refine' mod_small ?k1 ?k2 ?_; (case k1 => omega); (case k2 => omega)) | ((with_reducible refine' mod_new ?k1 ?_; (case k1 => omega)); intro r' hm' h0' h1')))
local macro_rules | `(tactic| walk_at "binaryOp FloorDiv int int") => `(tactic| ((with_reducible refine' half_new ?k1 ?k2 ?k3 ?_ ?k4; (case k1 => assumption); (case k2 => omega); (case k3 => omega); (case k4 => rfl)); intro h' hP' hc' hb' h1'))
local macro_rules | `(tactic| walk_at "eval IfExp Name") => `(tactic| ((fail_if_success (with_reducible show wpAny _ _ _ (JV _ _ _ _ _ _) _ _)); k_dflt (refine' join_int (fun r => 1 ≤ r ∧ r ≤ 33) ?F ?N ?_ ?_; (case F => k_asm); (case N => k_asm)); rotate_left; intro r' u' h' tk' hr' F' N'; (try k_sweep)))
local macro_rules | `(tactic| walk_at "JV") => `(tactic| (refine' jv_end ?F ?N ?S ?P; (case F => k_asm); (case N => k_asm); (case S => intro p hp; repeat (first | exact hp | refine mem_tl ?_)); (case P => (refine ⟨?_, ?_⟩ <;> omega))))
local macro_rules | `(tactic| walk_at "JN") => `(tactic| (refine' jn_end ?F ?N ?S; (case F => k_asm); (case N => k_asm); (case S => intro p hp; repeat (first | exact hp | refine mem_tl ?_))))
local macro_rules | `(tactic| walk_at "exec If BoolOp") => `(tactic| ((fail_if_success (with_reducible show wpAny _ _ _ (JN _ _ _ _ _) _ _)); k_dflt (refine' join_if ?F ?N ?_ ?_; (case F => k_asm); (case N => k_asm)); rotate_left; intro h' tk' F' N'; (try k_sweep)))
local macro_rules | `(tactic| walk_at "exec For Name Call cons nil") => `(tactic| (k_here; (rename Fr _ _ _ _ => lF'); (with_unfolding_all refine' For_invVF lF' ?k1 ?k2 ?_; (case k1 => exact rfl); (case k2 => exact rfl); k_whole)))
local macro_rules | `(tactic| walk_at "exec For Name Name cons nil") => `(tactic| (k_here; (rename Fr _ _ _ _ => lF'); (with_unfolding_all refine' For_invVF lF' ?k1 ?k2 ?_; (case k1 => exact rfl); (case k2 => exact rfl); k_whole)))
local macro_rules | `(tactic| walk_at "exec For Name Tuple cons nil") => `(tactic| (k_here; k_dflt (refine for_open ?_ (by intro _; rfl))))
local macro_rules | `(tactic| walk_at "pyIter ref") => `(tactic| (refine stop_here ?_))
local macro_rules | `(tactic| walk_at "subscriptTail Name Name ref int") => `(tactic| (with_unfolding_all refine' item_new ?kl ?ki ?k0 ?k1 ?k2 ?_ ?ks; (case kl => is_list); (case ki => assumption); (case k0 => omega); (case k1 => omega); (case k2 => omega); (case ks => with_unfolding_all rfl); k_whole; intro z' t'))
local macro_rules | `(tactic| walk_at "subscriptTail Name BinOp ref int") => `(tactic| (with_unfolding_all refine' item_new ?kl ?ki ?k0 ?k1 ?k2 ?_ ?ks; (case kl => is_list); (case ki => assumption); (case k0 => omega); (case k1 => omega); (case k2 => omega); (case ks => with_unfolding_all rfl); k_whole; intro z' t'))
local macro_rules | `(tactic| walk_at "compareOp Eq ref ref") => `(tactic| (k_here; k_dflt (refine' eq_differ_n ?k1 ?k2 ?k3 ?k4 ?k5 ?kK ?kd ?ku ?kS ?kT ?h1 ?_; (case k2 => k_asm); (case k1 => first | with_reducible assumption | exact below_caller _); (case k3 => k_asm); (case k4 => k_asm); (case k5 => k_asm); (case kK => exact rfl); (case kd => exact Nat.le_of_ble_eq_true rfl); (case ku => exact Nat.le_of_ble_eq_true rfl); (case kS => exact ⟨_, _, _, _, _, by k_mem, by k_mem⟩); (case kT => exact ⟨_, _, _, _, _, by k_mem, by k_mem⟩); (case h1 => omega); k_whole; intro h9 tk9 F9 N9; (try k_sweep))))
local macro_rules | `(tactic| walk_at "compareOp Lt ref ref") => `(tactic| (k_here; k_dflt (refine' lt_c ?k1 ?k2 ?k3 ?k4 ?k5 ?kK ?kd ?ku ?kS ?kO ?kP ?kQ ?kr ?_; (case k2 => k_asm); (case k1 => first | with_reducible assumption | exact below_caller _); (case k3 => k_asm); (case k4 => k_asm); (case k5 => k_asm); (case kK => exact rfl); (case kd => exact Nat.le_of_ble_eq_true rfl); (case ku => exact Nat.le_of_ble_eq_true rfl); (case kS => exact ⟨_, _, _, _, _, by k_mem, by k_mem⟩); (case kP => assumption); (case kQ => assumption); (case kO => exact OthIs.ser (by k_mem) (by k_mem)); (case kr => assumption); k_whole; intro h9 tk9 F9 N9; (try k_sweep))))
local macro_rules | `(tactic| walk_at "compareOp Gt ref ref") => `(tactic| (k_here; k_dflt (refine' gt_c ?k1 ?k2 ?k3 ?k4 ?k5 ?kK ?kd ?ku ?kS ?kO ?kP ?kQ ?kr ?_; (case k2 => k_asm); (case k1 => first | with_reducible assumption | exact below_caller _); (case k3 => k_asm); (case k4 => k_asm); (case k5 => k_asm); (case kK => exact rfl); (case kd => exact Nat.le_of_ble_eq_true rfl); (case ku => exact Nat.le_of_ble_eq_true rfl); (case kS => exact ⟨_, _, _, _, _, by k_mem, by k_mem⟩); (case kP => assumption); (case kQ => assumption); (case kO => exact OthIs.ser (by k_mem) (by k_mem)); (case kr => assumption); k_whole; intro h9 tk9 F9 N9; (try k_sweep))))
local macro_rules | `(tactic| walk_at "call ref") => `(tactic| (k_here; (with_reducible show wpAny _ _ (call (Value.ref 116) [_, _] _) _ _ _); k_dflt (first | (refine' new2_c ?k1 ?k2 ?k3 ?k4 ?k5 ?kK ?kd ?ku ?kP ?kA ?_; (case k2 => k_asm); (case k1 => first | with_reducible assumption | exact below_caller _); (case k3 => k_asm); (case k4 => k_asm); (case k5 => k_asm); (case kK => exact rfl); (case kd => exact Nat.le_of_ble_eq_true rfl); (case ku => exact Nat.le_of_ble_eq_true rfl); (case kP => assumption); (case kA => assumption); k_whole; intro x' dx' k1' k2' t1' t2' h' tk' F' N'; (try k_sweep)) | (refine' new2_m ?k1 ?k2 ?k3 ?k4 ?k5 ?kK ?kd ?ku ?kP ?kc ?_; (case k2 => k_asm); (case k1 => first | with_reducible assumption | exact below_caller _); (case k3 => k_asm); (case k4 => k_asm); (case k5 => k_asm); (case kK => exact rfl); (case kd => exact Nat.le_of_ble_eq_true rfl); (case ku => exact Nat.le_of_ble_eq_true rfl); (case kP => assumption); (case kc => omega); k_whole; intro r' hm' h0' h1'; intro x' dx' k1' k2' t1' t2' h' tk' F' N'; (try k_sweep)) | (refine' new2_p ?k1 ?k2 ?k3 ?k4 ?k5 ?kK ?kd ?ku ?c0 ?c1 ?_; (case k2 => k_asm); (case k1 => first | with_reducible assumption | exact below_caller _); (case k3 => k_asm); (case k4 => k_asm); (case k5 => k_asm); (case kK => exact rfl); (case kd => exact Nat.le_of_ble_eq_true rfl); (case ku => exact Nat.le_of_ble_eq_true rfl); (case c0 => omega); (case c1 => omega); k_whole; intro c' hP' hp' r' hm' h0' h1'; intro x' dx' k1' k2' t1' t2' h' tk' F' N'; (try k_sweep)))))
local macro_rules | `(tactic| walk_at "call ref") => `(tactic| (k_here; (with_reducible show wpAny _ _ (call (Value.ref 116) [_] _) _ _ _); k_dflt (first | (refine' new1_c ?k1 ?k2 ?k3 ?k4 ?k5 ?kK ?kd ?ku ?kP ?kA ?_; (case k2 => k_asm); (case k1 => first | with_reducible assumption | exact below_caller _); (case k3 => k_asm); (case k4 => k_asm); (case k5 => k_asm); (case kK => exact rfl); (case kd => exact Nat.le_of_ble_eq_true rfl); (case ku => exact Nat.le_of_ble_eq_true rfl); (case kP => assumption); (case kA => assumption); k_whole; intro x' dx' k1' k2' t1' t2' h' tk' F' N'; (try k_sweep)) | (refine' new1_p ?k1 ?k2 ?k3 ?k4 ?k5 ?kK ?kd ?ku  ?_; (case k2 => k_asm); (case k1 => first | with_reducible assumption | exact below_caller _); (case k3 => k_asm); (case k4 => k_asm); (case k5 => k_asm); (case kK => exact rfl); (case kd => exact Nat.le_of_ble_eq_true rfl); (case ku => exact Nat.le_of_ble_eq_true rfl); skip; k_whole; intro c' hP' hp' r' hm' h0' h1'; intro x' dx' k1' k2' t1' t2' h' tk' F' N'; (try k_sweep)))))
local macro_rules | `(tactic| walk_at "binaryOp Add ref int") => `(tactic| (k_here; k_dflt (refine' add_l ?k1 ?k2 ?k3 ?k4 ?k5 ?kK ?kd ?ku ?kS ?kP ?kQ ?kc ?a0 ?a1 ?z0 ?z1 ?_; (case k2 => k_asm); (case k1 => first | with_reducible assumption | exact below_caller _); (case k3 => k_asm); (case k4 => k_asm); (case k5 => k_asm); (case kK => exact rfl); (case kd => exact Nat.le_of_ble_eq_true rfl); (case ku => exact Nat.le_of_ble_eq_true rfl); (case kS => exact ⟨_, _, _, _, _, by k_mem, by k_mem⟩); (case kP => assumption); (case kQ => assumption); (case kc => assumption); (case a0 => omega); (case a1 => omega); (case z0 => omega); (case z1 => omega); k_whole; intro r'; intro f1' f2'; intro x' dx' k1' k2' t1' t2' h' tk' F' N'; (try k_sweep))))
local macro_rules | `(tactic| walk_at "binaryOp Sub ref int") => `(tactic| (k_here; k_dflt (refine' sub_l ?k1 ?k2 ?k3 ?k4 ?k5 ?kK ?kd ?ku ?kS ?kP ?kQ ?kc ?a0 ?a1 ?z0 ?z1 ?_; (case k2 => k_asm); (case k1 => first | with_reducible assumption | exact below_caller _); (case k3 => k_asm); (case k4 => k_asm); (case k5 => k_asm); (case kK => exact rfl); (case kd => exact Nat.le_of_ble_eq_true rfl); (case ku => exact Nat.le_of_ble_eq_true rfl); (case kS => exact ⟨_, _, _, _, _, by k_mem, by k_mem⟩); (case kP => assumption); (case kQ => assumption); (case kc => assumption); (case a0 => omega); (case a1 => omega); (case z0 => omega); (case z1 => omega); k_whole; intro r'; intro f1'; intro x' dx' k1' k2' t1' t2' h' tk' F' N'; (try k_sweep))))
local macro_rules | `(tactic| walk_at "compareOp NotEq ref ref") => `(tactic| (k_here; k_dflt (refine' ne_c ?k1 ?k2 ?k3 ?k4 ?k5 ?kK ?kd ?ku ?kS ?kO ?kP ?kQ ?kr ?_; (case k2 => k_asm); (case k1 => first | with_reducible assumption | exact below_caller _); (case k3 => k_asm); (case k4 => k_asm); (case k5 => k_asm); (case kK => exact rfl); (case kd => exact Nat.le_of_ble_eq_true rfl); (case ku => exact Nat.le_of_ble_eq_true rfl); (case kS => exact ⟨_, _, _, _, _, by k_mem, by k_mem⟩); (case kP => assumption); (case kQ => exact ⟨by decide, by decide, rfl⟩); (case kO => exact OthIs.ser (by k_mem) (by k_mem));  (case kr => exact ⟨iff_of_false (fun q => q rfl) Bool.false_ne_true⟩); k_whole; intro h9 tk9 F9 N9; (try k_sweep))))
local macro_rules | `(tactic| walk_at "call ref") => `(tactic| (k_here; k_dflt (refine' step_str_c ?k1 ?k2 ?k3 ?k4 ?k5 ?kK ?kd ?ku ?kS ?_; (case k2 => k_asm); (case k1 => first | with_reducible assumption | exact below_caller _); (case k3 => k_asm); (case k4 => k_asm); (case k5 => k_asm); (case kK => exact rfl); (case kd => exact Nat.le_of_ble_eq_true rfl); (case ku => exact Nat.le_of_ble_eq_true rfl); (case kS => exact ⟨_, _, _, _, _, by k_mem, by k_mem⟩); k_whole; intro h9 tk9 F9 N9; (try k_sweep))))
local macro_rules | `(tactic| walk_at "call ref") => `(tactic| (k_here; k_dflt (refine' step_none_c ?k1 ?k2 ?k3 ?k4 ?k5 ?kK ?kd ?ku ?kS ?_; (case k2 => k_asm); (case k1 => first | with_reducible assumption | exact below_caller _); (case k3 => k_asm); (case k4 => k_asm); (case k5 => k_asm); (case kK => exact rfl); (case kd => exact Nat.le_of_ble_eq_true rfl); (case ku => exact Nat.le_of_ble_eq_true rfl); (case kS => exact ⟨_, _, _, _, _, by k_mem, by k_mem⟩); k_whole; intro h9 tk9 F9 N9; (try k_sweep))))
local macro_rules | `(tactic| walk_at "call ref") => `(tactic| (k_here; k_dflt (refine' moves_c ?k1 ?k2 ?k3 ?k4 ?k5 ?kK ?kd ?ku ?kG ?kP ?kQ ?kc ?kA ?kp ?_; (case k2 => k_asm); (case k1 => first | with_reducible assumption | exact below_caller _); (case k3 => k_asm); (case k4 => k_asm); (case k5 => k_asm); (case kK => exact rfl); (case kd => exact Nat.le_of_ble_eq_true rfl); (case ku => exact Nat.le_of_ble_eq_true rfl); (case kG => first | exact GivIs.num | exact GivIs.ser (by k_mem) (by k_mem)); (case kP => assumption); (case kQ => assumption); (case kc => assumption); (case kA => assumption); (case kp => assumption); k_whole; intro h9 tk9 F9 N9; (try k_sweep))))
local macro_rules | `(tactic| walk_at "call ref") => `(tactic| (k_here; k_dflt (refine' ordered_c ?k1 ?k2 ?k3 ?k4 ?k5 ?kK ?kd ?ku ?kS ?kO ?kP ?kQ ?kc ?kA ?kB ?_; (case k2 => k_asm); (case k1 => first | with_reducible assumption | exact below_caller _); (case k3 => k_asm); (case k4 => k_asm); (case k5 => k_asm); (case kK => exact rfl); (case kd => exact Nat.le_of_ble_eq_true rfl); (case ku => exact Nat.le_of_ble_eq_true rfl); (case kS => exact ⟨_, _, _, _, _, by k_mem, by k_mem⟩); (case kP => assumption); (case kQ => assumption); (case kc => assumption); (case kA => assumption); (case kB => assumption); (case kO => first | exact OthIs.ser (by k_mem) (by k_mem) | exact OthIs.num (by assumption)); k_whole; intro h9 tk9 F9 N9; (try k_sweep))))
local macro_rules | `(tactic| walk_at "TupPost") => `(tactic| (refine' tup_end ?F ?N ?S ?M ?J; (case F => k_asm); (case N => k_asm); (case S => intro p hp; repeat (first | exact hp | refine mem_tl ?_)); (case M => intro z h1 h2; (have h3 := h2); (simp only [List.contains_cons, List.contains_nil, Bool.or_false, Bool.or_eq_false_iff, beq_eq_false_iff_ne, ne_eq] at h3); simp [h1, h2, h3]); (case J => rfl)))
local macro_rules | `(tactic| walk_at "compareOp Lt int int") => `(tactic| (first | with_reducible refine lt_t (by omega) ?_ | with_reducible refine lt_f (by omega) ?_))
local macro_rules | `(tactic| walk_at "compareOp Eq int int") => `(tactic| (first | with_reducible refine eq_t (by omega) ?_ | with_reducible refine eq_f (by omega) ?_))
local macro_rules | `(tactic| walk_at "compareOp NotEq int int") => `(tactic| (first | with_reducible refine ne_t (by omega) ?_ | with_reducible refine ne_f (by omega) ?_))
local macro_rules | `(tactic| k_steps) => `(tactic| repeat' (first | (k_unfold; (try dsimp only)) | walk1 | fail "no step"))
local macro_rules | `(tactic| wrow_steps) => `(tactic| repeat' (first | (k_unfold; (try dsimp only)) | (walk1 <;> try dsimp only) | fail "no step"))
theorem len3 {vs : List Value} {a : List Int} {x y z : Int} (_h : IntsAre vs (a ++ [x, y, z])) : (a ++ [x, y, z]).length = a.length + (1 + 1 + 1) := by simp
set_option maxHeartbeats 0 in
theorem law_holds : PySem.Challenge.rw_fx0001_01.Holds := Mine.hd (by
  k_go0
  all_goals try k_fold
  w_strict (k_steps)
  rotate_left
  · unfold Stop
    w_strict (k_steps)
  unfold Stop
  rename IsRange _ _ _ _ _ _ _ _ => hR
  rename IntsAre _ (_ ++ _) => hI
  have hL3 := len3 hI
  refine' range_loop [Str.ofString "number", Str.ofString "serial", Str.ofString "other", Str.ofString "step"] ?hh hR ?hs ?hn ?F ?N ?_ ?_
  (case hh => rfl)
  (case F => k_asm)
  (case N => k_asm)
  (case hs => exact small_one (by omega) (by omega) (by omega) (by omega))
  (case hn => exact rangeSize_nat _ _)
  · intro k t u h' tk own hk0 hk1 hoff F2 N2
    simp only [List.cons_append, List.nil_append] at N2
    w_strict (wrow_steps)
    rotate_left
    · unfold Stop
      w_strict (wrow_steps)
    unfold Stop
    refine' list_loop [] ?hh ?hl hI ?F ?N ?_ ?_
    (case hh => rfl)
    (case F => k_asm)
    (case N => k_asm)
    (case hl => k_mem)
    · intro n t2 u2 h2 tk2 own2 hoff2 F4 N4
      simp only [List.cons_append, List.nil_append] at N4
      w_strict (wrow_steps)
    · intro u2 h2 tk2 F4 N4
      w_strict (wrow_steps)
      unfold Stop
      refine' for_tup [] (fun g => g = _) ?hh ?hx ?hp ?F ?N ?hc ?hd ?hj ?_ ?_ ?pE
      (case hh => rfl)
      (case hx => rfl)
      (case hp => rfl)
      (case F => k_asm)
      (case N => k_asm)
      (case hc => rfl)
      (case hd => rfl)
      (case hj => rfl)
      (case pE => passes_own)
      · rintro v g u3 I io h3 tk3 hv rfl F5 N5
        obtain ⟨z, tz, rfl⟩ : ∃ z tz, v = .int z tz := by
          simp only [List.mem_cons, List.not_mem_nil, or_false] at hv
          rcases hv with rfl | rfl | rfl <;> exact ⟨_, _, rfl⟩
        w_strict (wrow_steps)
        unfold Stop
        w_strict (wrow_steps)
      · rintro g u3 h3 tk3 rfl F5 N5
        w_strict (wrow_steps)
        unfold Stop
        w_strict (wrow_steps)
  · intro u h' tk F2 N2
    w_strict (wrow_steps)
    all_goals kc_close)
end Mine
end
set_option maxRecDepth 100000 in
theorem PySem.Challenge.cw_fx0001_01_holds : PySem.Challenge.rw_fx0001_01.Holds :=
  Mine.law_holds
